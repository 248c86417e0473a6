import PyProof.Rows.All
import Wide.All
import OpenK.AllK
import Wide.FinOn
import PySem.Challenge.RW_rw0047_01
open PySem PySem.W PyProof.Rows
set_option Elab.async false
set_option maxRecDepth 100000
set_option maxHeartbeats 8000000
set_option linter.unusedVariables false
namespace Mine
set_option genSizeOfSpec false
set_option genInjectivity false
local macro_rules | `(tactic| k_room) => `(tactic| ktr_room)
local macro_rules | `(tactic| passes_own) => `(tactic| assumption)
section
open_top hd for PySem.Challenge.rw_rw0047_01
end
section
theorem calm_PL : True ∧ True := by
  w_top off
  k_with_none
  first
    | (walk1; fail)
    | exact ⟨trivial, trivial⟩
/-- the signs of a text -/
noncomputable def cs (x : Str) : List Nat := x.cps.toList
theorem cs_len (x : Str) : (cs x).length = x.length := by simp [cs, Str.length]
theorem str_ext {x y : Str} (h : cs x = cs y) : x = y := by
  cases x; cases y; simp only [cs] at h; congr 1; exact Array.toList_inj.mp h
theorem cs_append (x y : Str) : cs (x ++ y) = cs x ++ cs y := by
  show (x.cps ++ y.cps).toList = _
  simp [cs]
theorem item_cs {x : Str} {i : Int} (h0 : 0 ≤ i) (h1 : i < x.length) : Txt.item x i = ⟨#[(cs x).getD i.toNat 0]⟩ := by
  rw [item_at h0 h1 rfl]
  congr 2
  simp [cs, Array.getD_eq_getD_getElem?]
theorem item_cs_neg {x : Str} {i : Int} (h0 : i < 0) (h1 : -(x.length : Int) ≤ i) : Txt.item x i = ⟨#[(cs x).getD (i + x.length).toNat 0]⟩ := by
  have := item_closes_neg h0 h1 rfl
  rw [beq_iff_eq.mp this]
  congr 2
  simp [cs, Array.getD_eq_getD_getElem?]
theorem slice_from {x : Str} {i : Int} (h0 : 0 ≤ i) (h2 : i ≤ x.length) : cs (Txt.slice x (some i) none) = (cs x).drop i.toNat := by
  rw [slice_from_eq h0 h2 rfl]
  show ((x.cps.toList.drop i.toNat).take (x.length - i).toNat).toArray.toList = _
  rw [List.toList_toArray, cs]
  apply List.take_of_length_le
  simp [Str.length]
  omega
theorem slice_to {x : Str} {j : Int} (h0 : 0 ≤ j) (h2 : j ≤ x.length) : cs (Txt.slice x none (some j)) = (cs x).take j.toNat := by
  have := slice_closes_toL h0 h2
  rw [beq_iff_eq.mp this]
  simp [cs]
theorem slice_to_neg {x : Str} {j : Int} (h0 : j < 0) (h1 : -(x.length : Int) ≤ j) : cs (Txt.slice x none (some j)) = (cs x).take (j + x.length).toNat := by
  have e : Txt.slice x none (some j) = Txt.slice x none (some (j + x.length)) := by
    unfold Txt.slice
    rw [StrLaws.sliceIdx_neg_hi none x.length h0 h1]
  rw [e]
  exact slice_to (by omega) (by omega)
theorem slice_all (x : Str) : Txt.slice x none none = x := by
  unfold Txt.slice
  rw [if_pos]
  have : (Builtin.Str.strSliceIndices none none 1 x.length).length = x.length := by
    simp only [Builtin.Str.strSliceIndices, PySem.sliceRange, List.length_map, List.length_range]
    split <;> simp <;> omega
  simp [this]
end
section
theorem calm_PD : True ∧ True := by
  w_top off
  k_with_none
  first
    | (walk1; fail)
    | exact ⟨trivial, trivial⟩
/-- what a sign costs for another -/
noncomputable def sc (x y : Nat) : Nat := if x = y then 0 else if Txt.lower ⟨#[x]⟩ = Txt.lower ⟨#[y]⟩ then 1 else 2
theorem sc_self (x : Nat) : sc x x = 0 := by simp [sc]
theorem sc_comm (x y : Nat) : sc x y = sc y x := by
  unfold sc
  by_cases h : x = y
  · simp [h]
  · have h' : ¬ y = x := fun e => h e.symm
    rw [if_neg h, if_neg h']
    by_cases h2 : Txt.lower ⟨#[x]⟩ = Txt.lower ⟨#[y]⟩
    · rw [if_pos h2, if_pos h2.symm]
    · have h3 : ¬ Txt.lower ⟨#[y]⟩ = Txt.lower ⟨#[x]⟩ := fun e => h2 e.symm
      rw [if_neg h2, if_neg h3]
theorem sc_le (x y : Nat) : sc x y ≤ 2 := by unfold sc; split <;> (try split) <;> omega

/-- ways from one text to another, with what they cost -/
inductive Al : List Nat → List Nat → Nat → Prop where
  | nil : Al [] [] 0
  | sub {a b n} (x y : Nat) : Al a b n → Al (x :: a) (y :: b) (n + sc x y)
  | del {a b n} (x : Nat) : Al a b n → Al (x :: a) b (n + 2)
  | ins {a b n} (y : Nat) : Al a b n → Al a (y :: b) (n + 2)

/-- the least cost -/
noncomputable def D : List Nat → List Nat → Nat
  | [], b => 2 * b.length
  | _ :: a, [] => 2 * (a.length + 1)
  | x :: a, y :: b => min (D a b + sc x y) (min (D a (y :: b) + 2) (D (x :: a) b + 2))
termination_by a b => a.length + b.length

theorem D_nil (b : List Nat) : D [] b = 2 * b.length := by rw [D]
theorem D_nil' (a : List Nat) : D a [] = 2 * a.length := by cases a <;> simp [D]
theorem D_cons (x y : Nat) (a b : List Nat) : D (x :: a) (y :: b) = min (D a b + sc x y) (min (D a (y :: b) + 2) (D (x :: a) b + 2)) := by rw [D]
theorem al_ins : ∀ (b : List Nat), Al [] b (2 * b.length)
  | [] => .nil
  | y :: b => by have := Al.ins y (al_ins b); simpa [Nat.mul_add] using this
theorem al_del : ∀ (a : List Nat), Al a [] (2 * a.length)
  | [] => .nil
  | y :: b => by have := Al.del y (al_del b); simpa [Nat.mul_add] using this
theorem al_D (a b : List Nat) : Al a b (D a b) := by
  match a, b with
  | [], b => rw [D_nil]; exact al_ins b
  | x :: a, [] => rw [D_nil']; exact al_del _
  | x :: a, y :: b =>
    rw [D_cons]
    have h1 := Al.sub x y (al_D a b)
    have h2 := Al.del x (al_D a (y :: b))
    have h3 := Al.ins y (al_D (x :: a) b)
    rcases Nat.le_total (D a b + sc x y) (min (D a (y :: b) + 2) (D (x :: a) b + 2)) with h | h
    · rw [Nat.min_eq_left h]; exact h1
    · rw [Nat.min_eq_right h]
      rcases Nat.le_total (D a (y :: b) + 2) (D (x :: a) b + 2) with h' | h'
      · rw [Nat.min_eq_left h']; exact h2
      · rw [Nat.min_eq_right h']; exact h3
termination_by a.length + b.length
theorem D_cons_le (x : Nat) (a b : List Nat) : D (x :: a) b ≤ D a b + 2 := by
  cases b with
  | nil => rw [D_nil', D_nil']; simp; omega
  | cons y b => rw [D_cons]; omega
theorem D_cons_le' (y : Nat) (a b : List Nat) : D a (y :: b) ≤ D a b + 2 := by
  cases a with
  | nil => rw [D_nil, D_nil]; simp; omega
  | cons x a => rw [D_cons]; omega
theorem D_le_al {a b : List Nat} {n : Nat} (h : Al a b n) : D a b ≤ n := by
  induction h with
  | nil => simp [D]
  | sub x y _ ih => rw [D_cons]; omega
  | @del a b n x _ ih => have := D_cons_le x a b; omega
  | @ins a b n y _ ih => have := D_cons_le' y a b; omega
theorem Al.comm {a b : List Nat} {n : Nat} (h : Al a b n) : Al b a n := by
  induction h with
  | nil => exact .nil
  | sub x y _ ih => rw [sc_comm]; exact .sub y x ih
  | del x _ ih => exact .ins x ih
  | ins y _ ih => exact .del y ih
theorem D_comm (a b : List Nat) : D a b = D b a := Nat.le_antisymm (D_le_al (al_D b a).comm) (D_le_al (al_D a b).comm)
theorem Al.append {a b c d : List Nat} {n m : Nat} (h : Al a b n) (h' : Al c d m) : Al (a ++ c) (b ++ d) (n + m) := by
  induction h with
  | nil => simpa using h'
  | sub x y _ ih => have := Al.sub x y ih; simp only [List.cons_append]; rw [show ∀ p q r : Nat, p + q + r = p + r + q by omega]; exact this
  | del x _ ih => have := Al.del x ih; simp only [List.cons_append]; rw [show ∀ p q r : Nat, p + q + r = p + r + q by omega]; exact this
  | ins y _ ih => have := Al.ins y ih; simp only [List.cons_append]; rw [show ∀ p q r : Nat, p + q + r = p + r + q by omega]; exact this
theorem Al.rev {a b : List Nat} {n : Nat} (h : Al a b n) : Al a.reverse b.reverse n := by
  induction h with
  | nil => exact .nil
  | sub x y _ ih => have := Al.append ih (Al.sub x y .nil); simpa using this
  | del x _ ih => have := Al.append ih (Al.del x .nil); simpa using this
  | ins y _ ih => have := Al.append ih (Al.ins y .nil); simpa using this
theorem D_rev (a b : List Nat) : D a.reverse b.reverse = D a b := by
  refine Nat.le_antisymm (D_le_al (al_D a b).rev) ?_
  have := D_le_al (al_D a.reverse b.reverse).rev
  simpa using this
/-- a sign less on one side costs two at most -/
theorem D_drop (x : Nat) (a b : List Nat) : D a b ≤ D (x :: a) b + 2 := by
  match b with
  | [] => rw [D_nil', D_nil']; simp; omega
  | y :: b =>
    rw [D_cons]
    have h1 := D_cons_le' y a b
    have h2 := D_drop x a b
    have h3 := D_cons_le' y a b
    omega
theorem D_drop' (y : Nat) (a b : List Nat) : D a b ≤ D a (y :: b) + 2 := by
  rw [D_comm a b, D_comm a]; exact D_drop y b a
theorem D_same (x : Nat) (a b : List Nat) : D (x :: a) (x :: b) = D a b := by
  rw [D_cons, sc_self]
  have h1 := D_drop' x a b
  have h2 := D_drop x a b
  omega
theorem D_pre (c a b : List Nat) : D (c ++ a) (c ++ b) = D a b := by
  induction c with
  | nil => rfl
  | cons x c ih => rw [List.cons_append, List.cons_append, D_same, ih]
theorem D_post (c a b : List Nat) : D (a ++ c) (b ++ c) = D a b := by
  rw [← D_rev, List.reverse_append, List.reverse_append, D_pre, D_rev]
theorem D_self (a : List Nat) : D a a = 0 := by
  induction a with
  | nil => simp [D]
  | cons x a ih => rw [D_same, ih]
theorem D_snoc (x y : Nat) (a b : List Nat) : D (a ++ [x]) (b ++ [y]) = min (D a b + sc x y) (min (D a (b ++ [y]) + 2) (D (a ++ [x]) b + 2)) := by
  have h := D_cons x y a.reverse b.reverse
  rw [← D_rev (a ++ [x]), List.reverse_append, List.reverse_append, List.reverse_singleton, List.reverse_singleton, List.singleton_append, List.singleton_append, h,
    D_rev, ← D_rev a (b ++ [y]), ← D_rev (a ++ [x]) b]
  simp
/-- from some length to another -/
theorem D_len (a b : List Nat) : 2 * b.length ≤ D a b + 2 * a.length := by
  induction a with
  | nil => rw [D_nil]; omega
  | cons x a ih => have := D_drop x a b; simp only [List.length_cons]; omega
theorem D_len' (a b : List Nat) : 2 * a.length ≤ D a b + 2 * b.length := by rw [D_comm]; exact D_len b a
theorem D_lt {a b : List Nat} (h : a ≠ b) : 0 < D a b := by
  induction a generalizing b with
  | nil => cases b with
    | nil => exact absurd rfl h
    | cons y b => rw [D_nil]; simp
  | cons x a ih => cases b with
    | nil => rw [D_nil']; simp
    | cons y b =>
      rw [D_cons]
      by_cases e : x = y
      · subst e
        have : a ≠ b := fun e => h (by rw [e])
        have := ih this
        omega
      · have : 0 < sc x y := by unfold sc; rw [if_neg e]; split <;> omega
        omega
end
section
theorem calm_B1 : True ∧ True := by
  w_top off
  k_with_none
  first
    | (walk1; fail)
    | exact ⟨trivial, trivial⟩
noncomputable def fnOfName (n : Str) : List Stmt → Option Stmt
  | [] => none
  | st :: r => match st with
    | .FunctionDef m .. => if m == n then some st else fnOfName n r
    | _ => fnOfName n r
noncomputable def fnBody : Option Stmt → List Stmt
  | some (.FunctionDef _ _ b ..) => b
  | _ => []
noncomputable def fnScope : Option Stmt → Scope
  | some (.FunctionDef _ _ _ _ _ _ sc ..) => sc
  | _ => default
noncomputable def levB : {l : List Stmt // fnBody (fnOfName (Str.ofString "_levenshtein_distance") PySem.Challenge.rw_rw0047_01.prog.main.body) = l} := by
  apply Subtype.mk
  conv => lhs; whnf
noncomputable def levS : {l : Scope // fnScope (fnOfName (Str.ofString "_levenshtein_distance") PySem.Challenge.rw_rw0047_01.prog.main.body) = l} := by
  apply Subtype.mk
  conv => lhs; whnf
end
section
theorem calm_PE : True ∧ True := by
  w_top off
  k_with_none
  first
    | (walk1; fail)
    | exact ⟨trivial, trivial⟩
theorem take_one {l : List Nat} {k : Nat} (h : k < l.length) : l.take (k + 1) = l.take k ++ [l.getD k 0] := by
  rw [List.take_add_one, List.getD_eq_getElem?_getD, List.getElem?_eq_getElem h]; rfl
theorem take_oneI {l : List Int} {k : Nat} (h : k < l.length) : l.take (k + 1) = l.take k ++ [l.getD k 0] := by
  rw [List.take_add_one, List.getD_eq_getElem?_getD, List.getElem?_eq_getElem h]; rfl
theorem getD_right {l r : List Int} {k : Nat} {d : Int} (h : l.length ≤ k) : (l ++ r).getD k d = r.getD (k - l.length) d := by
  rw [List.getD_eq_getElem?_getD, List.getElem?_append_right h, List.getD_eq_getElem?_getD]
theorem drop_one {l : List Nat} {k : Nat} (h : k < l.length) : l.drop k = l.getD k 0 :: l.drop (k + 1) := by
  rw [List.drop_eq_getElem_cons h, List.getD_eq_getElem?_getD, List.getElem?_eq_getElem h]; rfl
theorem drop_oneI {l : List Int} {k : Nat} (h : k < l.length) : l.drop k = l.getD k 0 :: l.drop (k + 1) := by
  rw [List.drop_eq_getElem_cons h, List.getD_eq_getElem?_getD, List.getElem?_eq_getElem h]; rfl
/-- what the distance function may answer -/
noncomputable def LevOk (a b : Str) (m v : Int) : Prop := v = (D (cs a) (cs b) : Int) ∨ (m < v ∧ m < (D (cs a) (cs b) : Int))
theorem lev_same {a b : Str} {m : Int} (h : (a == b) = true) : LevOk a b m 0 := by
  rw [beq_iff_eq.mp h]
  left
  rw [D_self]
  rfl
noncomputable def rowAt (a b : List Nat) (i : Nat) : List Int := (List.range a.length).map fun j => (D (a.take (j + 1)) (b.take i) : Int)
theorem rowAt_len (a b : List Nat) (i : Nat) : (rowAt a b i).length = a.length := by simp [rowAt]
theorem rowAt_get {a b : List Nat} {i k : Nat} (h : k < a.length) : (rowAt a b i).getD k 0 = (D (a.take (k + 1)) (b.take i) : Int) := by
  simp [rowAt, List.getD_eq_getElem?_getD, h]
noncomputable def scS (x y : Str) : Int := if x = y then 0 else if Txt.lower x = Txt.lower y then 1 else 2
theorem scS_one (x y : Nat) : scS ⟨#[x]⟩ ⟨#[y]⟩ = (sc x y : Int) := by
  unfold scS sc
  by_cases h : x = y
  · subst h; simp
  · have h' : ¬ (⟨#[x]⟩ : Str) = ⟨#[y]⟩ := fun e => h (by injection e with e; simpa using e)
    rw [if_neg h', if_neg h]
    split <;> rfl
noncomputable def Inn (a b : List Nat) (i k : Nat) (row : List Int) (dist res mini : Int) : Prop :=
  row = (rowAt a b (i + 1)).take k ++ (rowAt a b i).drop k ∧ dist = D (a.take k) (b.take i) ∧ res = (if k = 0 then 2 * (i : Int) else D (a.take k) (b.take (i + 1))) ∧ ∀ j, j < k → mini ≤ D (a.take (j + 1)) (b.take (i + 1))
noncomputable def Out (a b : List Nat) (i : Nat) (row : List Int) (res : Int) : Prop := row = rowAt a b i ∧ (i ≠ 0 → res = D a (b.take i))
theorem out_start {a b : Str} : (List.map (fun (j : Nat) => (2 : Int) + (j : Int) * 2) (List.range a.length)).length = a.length ∧ Out (cs a) (cs b) ([] : List Int).length (List.map (fun (j : Nat) => (2 : Int) + (j : Int) * 2) (List.range a.length)) 0 := by
  refine ⟨by simp, ?_, fun h => absurd rfl h⟩
  unfold rowAt
  rw [cs_len]
  apply List.map_congr_left
  intro j hj
  rw [List.mem_range] at hj
  show _ = (D ((cs a).take (j + 1)) ((cs b).take 0) : Int)
  rw [List.take_zero, D_nil', List.length_take, cs_len, Nat.min_eq_left (by omega)]
  omega
theorem inn_start {a b : Str} {i : Nat} {k res : Int} {row : List Int} (hk : k = 0 + (i : Int)) (hi : i < ((b.length : Int) - 0).toNat) (hl : row.length = a.length) (h : Out (cs a) (cs b) i row res) (big : Int) :
    row.length = a.length ∧ Inn (cs a) (cs b) i ([] : List Int).length row (k * 2) (k * 2) big := by
  refine ⟨hl, ?_, ?_, ?_, fun j hj => absurd hj (Nat.not_lt_zero _)⟩
  · simpa using h.1
  · show k * 2 = (D ((cs a).take 0) ((cs b).take i) : Int)
    rw [List.take_zero, D_nil, List.length_take, cs_len, Nat.min_eq_left (by omega)]
    omega
  · show k * 2 = 2 * (i : Int)
    omega
theorem if_min (x y : Int) : (if x < y then x else y) = min x y := by omega
theorem lt_min (a b : Nat) : (if (a : Int) < (b : Int) then (a : Int) else (b : Int)) = ((min a b : Nat) : Int) := by
  by_cases h : (a : Int) < (b : Int)
  · rw [if_pos h, Nat.min_eq_left (Nat.le_of_lt (Int.ofNat_lt.mp h))]
  · rw [if_neg h, Nat.min_eq_right (Nat.le_of_not_lt fun e => h (Int.ofNat_lt.mpr e))]
theorem inn_fitN (d p x y : Nat) : (if (p : Int) + (x : Int) < (if (d : Int) < (y : Int) then (d : Int) else (y : Int)) + 2 then (p : Int) + (x : Int) else (if (d : Int) < (y : Int) then (d : Int) else (y : Int)) + 2) = ((min (p + x) (min d y + 2) : Nat) : Int) := by
  rw [lt_min d y]
  exact lt_min (p + x) (min d y + 2)
theorem inn_fit (d p x y : Nat) : (if (p : Int) + (x : Int) < (if (d : Int) < (y : Int) then (d : Int) else (y : Int)) + 2 then (p : Int) + (x : Int) else (if (d : Int) < (y : Int) then (d : Int) else (y : Int)) + 2) = ((min (p + x) (min (y + 2) (d + 2)) : Nat) : Int) := by
  rw [inn_fitN, Nat.add_min_add_right, Nat.min_comm y d]
theorem inn_low {d x i : Nat} (hx : x ≤ 2) : min (2 * i + x) (min d (2 * i) + 2) = min (2 * i + x) (min (2 * (i + 1) + 2) (d + 2)) := by omega
theorem inn_fit0 (d x i : Nat) (hx : x ≤ 2) : (if ((2 * i : Nat) : Int) + (x : Int) < (if (d : Int) < 2 * (i : Int) then (d : Int) else 2 * (i : Int)) + 2 then ((2 * i : Nat) : Int) + (x : Int) else (if (d : Int) < 2 * (i : Int) then (d : Int) else 2 * (i : Int)) + 2) = ((min (2 * i + x) (min (2 * (i + 1) + 2) (d + 2)) : Nat) : Int) := by
  rw [← inn_low hx]
  exact inn_fitN d (2 * i) x (2 * i)
theorem inn_get {a b : List Nat} {i k : Nat} {row : List Int} (hk : k < a.length) (hrow : row = (rowAt a b (i + 1)).take k ++ (rowAt a b i).drop k) : row.getD k 0 = D (a.take (k + 1)) (b.take i) := by
  rw [hrow, getD_right (by rw [List.length_take]; exact Nat.min_le_left _ _), List.length_take, rowAt_len, Nat.min_eq_left (Nat.le_of_lt hk), Nat.sub_self, drop_oneI (by rw [rowAt_len]; exact hk), List.getD_cons_zero, rowAt_get hk]
theorem inn_val {a b : Str} {i k : Nat} {row : List Int} {dist res mini ko ki : Int} (hko : ko = 0 + (i : Int)) (hi : i < ((b.length : Int) - 0).toNat) (hki : ki = 0 + (k : Int)) (hk : k < ((a.length : Int) - 0).toNat)
    (hl : row.length = a.length) (h : Inn (cs a) (cs b) i k row dist res mini) :
    row.getD ki.toNat 0 = D ((cs a).take (k + 1)) ((cs b).take i) ∧
    (if dist + scS (Txt.item b ko) (Txt.item a ki) < (if row.getD ki.toNat 0 < res then row.getD ki.toNat 0 else res) + 2 then dist + scS (Txt.item b ko) (Txt.item a ki)
      else (if row.getD ki.toNat 0 < res then row.getD ki.toNat 0 else res) + 2) = D ((cs a).take (k + 1)) ((cs b).take (i + 1)) := by
  have hkA : k < (cs a).length := by rw [cs_len]; omega
  have hiB : i < (cs b).length := by rw [cs_len]; omega
  have e1 : ki.toNat = k := by omega
  have e2 : ko.toNat = i := by omega
  have ia : Txt.item a ki = ⟨#[(cs a).getD k 0]⟩ := by rw [item_cs (by omega) (by omega), e1]
  have ib : Txt.item b ko = ⟨#[(cs b).getD i 0]⟩ := by rw [item_cs (by omega) (by omega), e2]
  rw [e1, ia, ib, scS_one]
  clear hko hki hi hk hl e1 e2 ia ib
  obtain ⟨hrow, hd, hr, _⟩ := h
  have hg := inn_get (i := i) hkA hrow
  refine ⟨hg, ?_⟩
  rw [hg, hd, hr]
  have hs := D_snoc ((cs a).getD k 0) ((cs b).getD i 0) ((cs a).take k) ((cs b).take i)
  rw [← take_one hkA, ← take_one hiB] at hs
  rw [sc_comm] at hs
  have hle := sc_le ((cs b).getD i 0) ((cs a).getD k 0)
  by_cases h0 : k = 0
  · subst h0
    have z1 : D ((cs a).take 0) ((cs b).take i) = 2 * i := by rw [List.take_zero, D_nil, List.length_take, Nat.min_eq_left (Nat.le_of_lt hiB)]
    have z2 : D ((cs a).take 0) ((cs b).take (i + 1)) = 2 * (i + 1) := by rw [List.take_zero, D_nil, List.length_take, Nat.min_eq_left hiB]
    rw [if_pos rfl, hs, z1, z2]
    exact inn_fit0 _ _ _ hle
  · rw [if_neg h0, hs]
    exact inn_fit _ _ _ _
theorem inn_row {a b : Str} {i k : Nat} {row : List Int} {dist res mini ki v : Int} (hki : ki = 0 + (k : Int)) (hk : k < ((a.length : Int) - 0).toNat)
    (h : Inn (cs a) (cs b) i k row dist res mini) (hv : v = D ((cs a).take (k + 1)) ((cs b).take (i + 1))) :
    row.set ki.toNat v = (rowAt (cs a) (cs b) (i + 1)).take (k + 1) ++ (rowAt (cs a) (cs b) i).drop (k + 1) := by
  have hkA : k < (cs a).length := by rw [cs_len]; omega
  have e1 : ki.toNat = k := by omega
  rw [e1, h.1, List.set_append_right _ _ (by rw [List.length_take, rowAt_len]; omega), List.length_take, rowAt_len, Nat.min_eq_left (by omega), Nat.sub_self,
    drop_oneI (l := rowAt (cs a) (cs b) i) (by rw [rowAt_len]; exact hkA), List.set_cons_zero, take_oneI (l := rowAt (cs a) (cs b) (i + 1)) (by rw [rowAt_len]; exact hkA), rowAt_get hkA, hv]
  simp
theorem inn_turn1 {a b : Str} {i : Nat} {pre row : List Int} {dist res mini ko ki : Int} (hko : ko = 0 + (i : Int)) (hi : i < ((b.length : Int) - 0).toNat) (hki : ki = 0 + (pre.length : Int)) (hk : pre.length < ((a.length : Int) - 0).toNat)
    (hl : row.length = a.length) (h : Inn (cs a) (cs b) i pre.length row dist res mini) {v : Int}
    (hv : v = (if dist + scS (Txt.item b ko) (Txt.item a ki) < (if row.getD ki.toNat 0 < res then row.getD ki.toNat 0 else res) + 2 then dist + scS (Txt.item b ko) (Txt.item a ki) else (if row.getD ki.toNat 0 < res then row.getD ki.toNat 0 else res) + 2))
    (hm : v < mini) :
    (row.set ki.toNat v).length = a.length ∧ Inn (cs a) (cs b) i (pre ++ [ki]).length (row.set ki.toNat v) (row.getD ki.toNat 0) v v := by
  obtain ⟨e1, e2⟩ := inn_val hko hi hki hk hl h
  rw [e2] at hv
  have hlen : (pre ++ [ki]).length = pre.length + 1 := by simp
  refine ⟨by rw [List.length_set]; exact hl, ?_, ?_, ?_, ?_⟩
  · rw [hlen]; exact inn_row hki hk h hv
  · rw [hlen]; exact e1
  · rw [hlen, if_neg (Nat.succ_ne_zero _)]; exact hv
  · rw [hlen]
    intro j hj
    rcases Nat.lt_succ_iff_lt_or_eq.mp hj with hj | hj
    · have := h.2.2.2 j hj
      omega
    · rw [hj, ← hv]
      omega
theorem inn_turn2 {a b : Str} {i : Nat} {pre row : List Int} {dist res mini ko ki : Int} (hko : ko = 0 + (i : Int)) (hi : i < ((b.length : Int) - 0).toNat) (hki : ki = 0 + (pre.length : Int)) (hk : pre.length < ((a.length : Int) - 0).toNat)
    (hl : row.length = a.length) (h : Inn (cs a) (cs b) i pre.length row dist res mini) {v : Int}
    (hv : v = (if dist + scS (Txt.item b ko) (Txt.item a ki) < (if row.getD ki.toNat 0 < res then row.getD ki.toNat 0 else res) + 2 then dist + scS (Txt.item b ko) (Txt.item a ki) else (if row.getD ki.toNat 0 < res then row.getD ki.toNat 0 else res) + 2))
    (hm : ¬ v < mini) :
    (row.set ki.toNat v).length = a.length ∧ Inn (cs a) (cs b) i (pre ++ [ki]).length (row.set ki.toNat v) (row.getD ki.toNat 0) v mini := by
  obtain ⟨e1, e2⟩ := inn_val hko hi hki hk hl h
  rw [e2] at hv
  have hlen : (pre ++ [ki]).length = pre.length + 1 := by simp
  refine ⟨by rw [List.length_set]; exact hl, ?_, ?_, ?_, ?_⟩
  · rw [hlen]; exact inn_row hki hk h hv
  · rw [hlen]; exact e1
  · rw [hlen, if_neg (Nat.succ_ne_zero _)]; exact hv
  · rw [hlen]
    intro j hj
    rcases Nat.lt_succ_iff_lt_or_eq.mp hj with hj | hj
    · exact h.2.2.2 j hj
    · rw [hj, ← hv]
      omega
theorem inn_end {a b : Str} {i : Nat} {row : List Int} {dist res mini : Int} (h : Inn (cs a) (cs b) i (rangeKs 0 ((a.length : Int) - 0).toNat).length row dist res mini) :
    Inn (cs a) (cs b) i a.length row dist res mini := by
  rw [rangeKs_length] at h
  have e : ((a.length : Int) - 0).toNat = a.length := by omega
  rwa [e] at h
theorem out_turn {a b : Str} {pre : List Int} {k : Int} {row : List Int} {dist res mini : Int} (ha : 0 < a.length) (hl : row.length = a.length) (h : Inn (cs a) (cs b) pre.length (rangeKs 0 ((a.length : Int) - 0).toNat).length row dist res mini) :
    row.length = a.length ∧ Out (cs a) (cs b) (pre ++ [k]).length row res := by
  obtain ⟨h1, h2, h3, _⟩ := inn_end h
  have hlen : (pre ++ [k]).length = pre.length + 1 := by simp
  refine ⟨hl, ?_, fun _ => ?_⟩
  · rw [hlen, h1, List.take_of_length_le (by rw [rowAt_len, cs_len]; omega), List.drop_of_length_le (by rw [rowAt_len, cs_len]; omega), List.append_nil]
  · rw [hlen, h3, if_neg (by omega), List.take_of_length_le (by rw [cs_len]; omega)]
/-- a way crosses each row -/
theorem al_cross {a b : List Nat} {n : Nat} (h : Al a b n) : ∀ i, i ≤ b.length → ∃ j n1, j ≤ a.length ∧ n1 ≤ n ∧ Al (a.take j) (b.take i) n1 := by
  induction h with
  | nil => intro i hi; exact ⟨0, 0, by simp, by omega, by simpa using Al.nil⟩
  | @sub a b n x y _ ih =>
    intro i hi
    cases i with
    | zero => exact ⟨0, 0, by simp, by omega, by simpa using Al.nil⟩
    | succ i =>
      obtain ⟨j, n1, hj, hn, hal⟩ := ih i (by simpa using hi)
      exact ⟨j + 1, n1 + sc x y, by simpa using hj, by omega, by simpa using Al.sub x y hal⟩
  | @del a b n x _ ih =>
    intro i hi
    obtain ⟨j, n1, hj, hn, hal⟩ := ih i hi
    exact ⟨j + 1, n1 + 2, by simpa using hj, by omega, by simpa using Al.del x hal⟩
  | @ins a b n y _ ih =>
    intro i hi
    cases i with
    | zero => exact ⟨0, 0, by simp, by omega, by simpa using Al.nil⟩
    | succ i =>
      obtain ⟨j, n1, hj, hn, hal⟩ := ih i (by simpa using hi)
      exact ⟨j, n1 + 2, hj, by omega, by simpa using Al.ins y hal⟩
theorem lev_cut {a b : Str} {i : Nat} {row : List Int} {dist res mini m : Int} (ha : 0 < a.length) (hi : i < ((b.length : Int) - 0).toNat)
    (h : Inn (cs a) (cs b) i (rangeKs 0 ((a.length : Int) - 0).toNat).length row dist res mini) (hm : m < mini) : LevOk a b m (m + 1) := by
  right
  refine ⟨by omega, ?_⟩
  obtain ⟨_, _, _, h4⟩ := inn_end h
  obtain ⟨j, n1, hj, hn, hal⟩ := al_cross (al_D (cs a) (cs b)) (i + 1) (by rw [cs_len]; omega)
  have hD := D_le_al hal
  rw [cs_len] at hj
  cases j with
  | zero =>
    have h0 := h4 0 ha
    have hlb := cs_len b
    rw [List.take_zero, D_nil, List.length_take, Nat.min_eq_left (by omega)] at hD
    have hA : 0 < (cs a).length := by rw [cs_len]; exact ha
    have hB : i < (cs b).length := by rw [cs_len]; omega
    have e := D_snoc ((cs a).getD 0 0) ((cs b).getD i 0) ((cs a).take 0) ((cs b).take i)
    have z : D ((cs a).take 0) ((cs b).take i) = 2 * i := by rw [List.take_zero, D_nil, List.length_take, Nat.min_eq_left (by omega)]
    rw [← take_one hA, ← take_one hB, z] at e
    have hle := sc_le ((cs a).getD 0 0) ((cs b).getD i 0)
    omega
  | succ j =>
    have := h4 j (by omega)
    omega
theorem lev_done {a b : Str} {row : List Int} {res m : Int} (hb : 0 < b.length) (h : Out (cs a) (cs b) (rangeKs 0 ((b.length : Int) - 0).toNat).length row res) : LevOk a b m res := by
  left
  rw [rangeKs_length] at h
  have e : ((b.length : Int) - 0).toNat = b.length := by omega
  rw [e] at h
  rw [h.2 (by omega), List.take_of_length_le (by rw [cs_len]; omega)]
/-- equal ahead and equal behind: what stands between decides -/
theorem lev_trim {a b a1 b1 a2 b2 : Str} {m v k q : Int} (h0 : 0 ≤ k) (hp : (cs a).take k.toNat = (cs b).take k.toNat) (ha1 : cs a1 = (cs a).drop k.toNat) (hb1 : cs b1 = (cs b).drop k.toNat)
    (hq : (cs a1).drop (a1.length + q).toNat = (cs b1).drop (b1.length + q).toNat) (ha2 : cs a2 = (cs a1).take (a1.length + q).toNat) (hb2 : cs b2 = (cs b1).take (b1.length + q).toNat) (h : LevOk a2 b2 m v) : LevOk a b m v := by
  have e : D (cs a) (cs b) = D (cs a2) (cs b2) := by
    have e1 : D (cs a) (cs b) = D (cs a1) (cs b1) := by
      rw [← List.take_append_drop k.toNat (cs a), ← List.take_append_drop k.toNat (cs b), hp, D_pre, ha1, hb1]
    rw [e1, ← List.take_append_drop (a1.length + q).toNat (cs a1), ← List.take_append_drop (b1.length + q).toNat (cs b1), hq, D_post, ha2, hb2]
  unfold LevOk at h ⊢
  rw [e]
  exact h
theorem lev_swap {a b a2 b2 : Str} {m v : Int} (h : a2 = a ∧ b2 = b ∨ a2 = b ∧ b2 = a) (hv : LevOk a2 b2 m v) : LevOk a b m v := by
  rcases h with ⟨rfl, rfl⟩ | ⟨rfl, rfl⟩
  · exact hv
  · unfold LevOk at hv ⊢
    rw [D_comm]
    exact hv
end
section
theorem calm_PComp : True ∧ True := by
  w_top off
  k_with_none
  first
    | (walk1; fail)
    | exact ⟨trivial, trivial⟩
theorem strs_of_signs {f : Nat → Str} {ys vs : List Value} (h : Paired (fun v r => ∃ c u t, v = Value.str ⟨#[c]⟩ u ∧ r = Value.str (f c) t) vs ys) :
    ∀ (l : List Nat), vs.length = l.length → (∀ (j : Nat) (v : Value), vs[j]? = some v → ∃ c u, l[j]? = some c ∧ v = .str ⟨#[c]⟩ u) → StrsAre ys (l.map f) := by
  induction h with
  | nil => intro l hl _; cases l with
    | nil => exact .nil
    | cons _ _ => cases hl
  | cons hF _ ih =>
    intro l hl hg
    cases l with
    | nil => cases hl
    | cons c l =>
      obtain ⟨c', u, t, e1, e2⟩ := hF
      obtain ⟨c2, u2, e3, e4⟩ := hg 0 _ rfl
      subst e1
      subst e2
      simp only [List.getElem?_cons_zero, Option.some.injEq] at e3
      subst e3
      injection e4 with e5 e6
      injection e5 with e5
      have : c' = c := by simpa using e5
      subst this
      exact .cons _ _ (ih l (by simpa using hl) fun j v hj => by simpa using hg (j + 1) v (by simpa using hj))
theorem comp_signs {prog : Program} {w : World} {A : Around} {E : Value → Shared → Prop} {s : Shared} {h₀ : Heap} {L : Addr} {m : Str → Option Value} {news : List (Addr × Obj)} {env : Env}
    {elt iter : Expr} {x : Str} {px : Pos} {scope : Scope} {pos : Pos} {Q : Value → Shared → Prop} {y : Str} {t : Tok} (f : Nat → Str)
    (hh : A.handled = none) (hfree : ∀ y ∈ scope.names, y.2 ≠ .free) (hcell : ∀ y ∈ scope.names, y.2 ≠ .cell) (hkind : scope.kind = .function)
    (hnames : ∀ y ∈ scope.names, y.2 = .local → scope.names.lookup y.1 = some .local) (hx : scope.names.lookup x = some .local)
    (F : Fr h₀ L s.heap m) (N : News h₀ L s.heap news) (hsz : y.length ≤ sizeLine)
    (hv : ∀ Q' : Value → Shared → Prop, Q' (.str y t) s → wpAny (model prog w) A (eval iter env) Q' E s)
    (helt : ∀ C c u s₂ m₂ E', s₂.heap.Ns (compEnv scope C env).locals m₂ → m₂ x = some (.str ⟨#[c]⟩ u) → wpAny (model prog w) A (eval elt (compEnv scope C env)) (fun r s₃ => (∃ t, r = .str (f c) t) ∧ Keeps s₂ s₃) E' s₂)
    (h : ∀ D ys h' tk, Fr h₀ L h' m → News h₀ L h' news → h'.IsList D ys → StrsAre ys.toList ((cs y).map f) → Q (.ref D) { s with heap := h', toks := tk })
    (hs : ∀ x, foldedSetIterable iter env x = pure x) :
    wpAny (model prog w) A (eval (.ListComp elt [⟨.Name x px, iter, [], 0⟩] scope pos) env) Q E s := by
  refine wpAny_ListComp_walk (fun _ => true) (fun v r => ∃ c u t, v = Value.str ⟨#[c]⟩ u ∧ r = Value.str (f c) t) hfree hcell hkind hnames hx (hv _ ?_) hs
  refine wpAny_pyIter_str fun o St W hst => ?_
  have up : ∀ (h' : Heap), (∀ b o', b ∉ [s.heap.objs.size] → (s.heap.push o).get? b = some o' → h'.get? b = some o') → ∀ b o', s.heap.get? b = some o' → h'.get? b = some o' :=
    fun h' hk b o' e => hk b o' (old_not_new e) (Heap.get?_push_of_some _ e)
  refine ⟨s.heap.objs.size, [s.heap.objs.size], [s.heap.objs.size], y.cps.size, SignAt y, St, rfl, W A hh, hsz, hst, ?_, ⟨?_, ?_⟩, ?_⟩
  · intro b hb
    show b < (s.heap.push o).objs.size
    rw [Heap.size_push, List.mem_singleton.mp hb]
    exact Nat.lt_succ_self _
  · intro C i v s₃ m₃ E' hP hn hm _ _
    exact wpAny_pure ⟨rfl, s₃.heap, s₃.toks, rfl, fun _ _ e => e⟩
  · intro C i v s₃ m₃ E' hP hp hn hm _ _
    obtain ⟨c, u, _, rfl⟩ := hP
    exact wpAny_mono (helt C c u s₃ m₃ E' hn hm) (fun r s₄ h₄ => ⟨by obtain ⟨t, e⟩ := h₄.1; exact ⟨c, u, t, rfl, e⟩, h₄.2⟩) fun _ _ e => e
  · intro D h' tk ys vs hnew hlD hplD hlen hP hF hk
    refine h D ys h' tk (F.keeps (up h' hk)) (N.grown (up h' hk)) hlD ?_
    rw [List.filter_eq_self.mpr fun _ _ => rfl] at hF
    refine strs_of_signs hF (cs y) (by rw [hlen, cs_len]; rfl) fun j v hj => ?_
    obtain ⟨c, u, hc, e⟩ := hP j v hj
    exact ⟨c, u, by rw [cs, Array.getElem?_toList]; exact hc, e⟩
theorem cs_joinE : ∀ (l : List Str), cs (Txt.join (Str.ofString "") l) = l.flatMap cs := by
  intro l
  show cs (Builtin.Str.glued _ l) = _
  rw [StrLaws.glued_eq_join]
  induction l with
  | nil => rfl
  | cons x r ih =>
    cases r with
    | nil => show cs x = _; simp
    | cons y r =>
      rw [List.flatMap_cons, ← ih]
      show cs (x ++ Str.ofString "" ++ Str.join _ (y :: r)) = _
      rw [cs_append, cs_append]
      have : cs (Str.ofString "") = [] := by decide +kernel
      rw [this, List.append_nil]
end
section
theorem calm_PCit : True ∧ True := by
  w_top off
  k_with_none
  first
    | (walk1; fail)
    | exact ⟨trivial, trivial⟩
theorem slot_cit_next : Slot "callable_iterator" "__next__" "callable_iterator.__next__" :=
  .of (owner := "callable_iterator") (n := "__next__") (by rw [typeLookup_type, builtinLookup_eq_fast]; kernel_rfl) (by decide +kernel) (by decide +kernel) (by decide +kernel)
    (by first | exact .inl (by decide +kernel) | exact .inr (by decide +kernel)) (by rw [isSubtype_type]; kernel_rfl)
theorem slot_cit_iter : Slot "callable_iterator" "__iter__" "callable_iterator.__iter__" :=
  .of (owner := "callable_iterator") (n := "__iter__") (by rw [typeLookup_type, builtinLookup_eq_fast]; kernel_rfl) (by decide +kernel) (by decide +kernel) (by decide +kernel)
    (by first | exact .inl (by decide +kernel) | exact .inr (by decide +kernel)) (by rw [isSubtype_type]; kernel_rfl)
theorem entry_cit_next : entryFor table "callable_iterator.__next__" = some Builtin.«callable_iterator.__next__» := entryFor_of_tree (by kernel_rfl)
theorem entry_cit_iter : entryFor table "callable_iterator.__iter__" = some Builtin.«dict_keyiterator.__iter__» :=
  entryFor_alias (id' := "dict_keyiterator.__iter__") (by kernel_rfl) (by first | rfl | decide +kernel | (unfold String.splitOn; simp +decide [String.splitOnAux])) (by decide +kernel) (by kernel_rfl)
theorem owner_cit : Manifest.owners.lookup (String.ofList ['r', 'o', 't', 'a', 'r', 'e', 't', 'i', '_', 'e', 'l', 'b', 'a', 'l', 'l', 'a', 'c'].reverse) = some Manifest.sig_callable_iterator := by kernel_rfl
theorem args_cit_next_1 (a : Value) : argsOk "callable_iterator.__next__" ⟨[a], []⟩ := by
  unfold argsOk; rw [signature?_of (id := "callable_iterator.__next__") (n := ['_', '_', 't', 'x', 'e', 'n', '_', '_']) (o := ['r', 'o', 't', 'a', 'r', 'e', 't', 'i', '_', 'e', 'l', 'b', 'a', 'l', 'l', 'a', 'c']) (by kernel_rfl) owner_cit]; kernel_rfl
theorem args_cit_iter_1 (a : Value) : argsOk "callable_iterator.__iter__" ⟨[a], []⟩ := by
  unfold argsOk; rw [signature?_of (id := "callable_iterator.__iter__") (n := ['_', '_', 'r', 'e', 't', 'i', '_', '_']) (o := ['r', 'o', 't', 'a', 'r', 'e', 't', 'i', '_', 'e', 'l', 'b', 'a', 'l', 'l', 'a', 'c']) (by kernel_rfl) owner_cit]; kernel_rfl
/-- an iterator that asks a call, and one at its end -/
noncomputable abbrev citObj (q : Nat) (t : Nat) : Obj := { cls := .type "callable_iterator", data := .fields #[.ref q, .str (Str.ofString "") t, .bool false] }
noncomputable abbrev citEnd : Obj := { cls := .type "callable_iterator", data := .fields #[.none, .none, .bool true] }
section
variable {prog : Program} {w : World} {A : Around} {E : Value → Shared → Prop} {s : Shared}
theorem cit_iter {I : Addr} {o : Obj} {Q : Value → Shared → Prop} (ho : s.heap.get? I = some o) (hc : o.cls = .type "callable_iterator") (h : Q (.ref I) s) : wpAny (model prog w) A (pyIter (.ref I)) Q E s := by
  have hT : s.TypeIs (.ref I) "callable_iterator" := ⟨_, ho, hc⟩
  refine wpAny_pyIter_slot hT slot_cit_iter (wpAny_call_entry slot_cit_iter hT entry_cit_iter ?_ (args_cit_iter_1 _))
  show wpAny _ _ (ret (.ref I)) _ _ s
  exact wpAny_pure ⟨_, rfl, "callable_iterator", _, hT, slot_cit_next.lookup, h⟩
theorem wpAny_callBorrowed {f : Value} {pos : List Value} {Q : Value → Shared → Prop}
    (hc : codeAny (model prog w) A (.call f ⟨pos, []⟩) (fun r s' => match r with | .ok (.ret v) => Q v s' | .ok _ => False | .error e => E e s') s) :
    wpAny (model prog w) A (callBorrowed f pos) Q E s := fun Γ p hΓ => by
  unfold callBorrowed
  rw [Sem.wp_call]
  refine wpCode_mono (fun r s' h => ?_) (hc _ p rfl (hΓ.enter _ none p (by intro x; cases x)))
  cases r with
  | error e => exact h
  | ok f => cases f with
    | ret v => exact h
    | next => exact h.elim
    | brk => exact h.elim
    | cont => exact h.elim
theorem borrows_meth {q fr : Addr} {self : Value} {ofr : Obj} {fd : FuncData} {Q : Bool → Shared → Prop} (hq : s.heap.get? q = some (methodObj (.ref fr) self)) (hf : s.heap.get? fr = some ofr) (hd : ofr.data = .func fd) (h : Q true s) :
    wpAny (model prog w) A (borrowsExactly (.ref q)) Q E s := by
  unfold borrowsExactly
  refine wpAny_bind (wpAny_load hq ?_)
  show wpAny _ _ (load fr >>= _) _ _ s
  refine wpAny_bind (wpAny_load hf ?_)
  rw [hd]
  exact wpAny_pure h
theorem cit_next {I q fr t0 : Nat} {self : Value} {ofr : Obj} {fd : FuncData} {Q : Option Value → Shared → Prop} (hh : A.handled = none)
    (hI : s.heap.get? I = some (citObj q t0)) (hq : s.heap.get? q = some (methodObj (.ref fr) self)) (hf : s.heap.get? fr = some ofr) (hd : ofr.data = .func fd)
    (hc : codeAny (model prog w) A.in1 (.call (.ref fr) ⟨[self], []⟩) (fun r s' => ∃ x t, r = .ok (.ret (.str x t)) ∧ s'.heap.get? I = some (citObj q t0) ∧ s'.heap.get? q = some (methodObj (.ref fr) self) ∧ s'.heap.get? fr = some ofr ∧
      (x ≠ Str.ofString "" → Q (some (.str x t)) s') ∧ (x = Str.ofString "" → ∀ h', (∀ b o, b ≠ I → s'.heap.get? b = some o → h'.get? b = some o) → h'.get? I = some citEnd → Q none { s' with heap := h' })) s) :
    wpAny (model prog w) A (pyNext (.ref I)) Q E s := by
  have hT : s.TypeIs (.ref I) "callable_iterator" := ⟨_, hI, rfl⟩
  unfold pyNext
  refine wpAny_bind (wpAny_attempt (wpAny_callSpecial?_slot (name := Str.ofString "__next__") hT slot_cit_next
    (wpAny_call_entry slot_cit_next hT entry_cit_next ?_ (args_cit_next_1 _))))
  show wpAny _ _ (field (.ref I) 2 >>= _) _ _ s
  refine wpAny_bind (wpAny_field hI rfl (x := .bool false) rfl ?_)
  show wpAny _ _ (field (.ref I) 0 >>= _) _ _ s
  refine wpAny_bind (wpAny_field hI rfl (x := .ref q) rfl ?_)
  refine wpAny_bind (wpAny_attempt ?_)
  show wpAny _ _ (borrowsExactly (.ref q) >>= _) _ _ s
  refine wpAny_bind (borrows_meth hq hf hd ?_)
  show wpAny _ _ (callBorrowed (.ref q) []) _ _ s
  refine wpAny_callBorrowed (method_call hq (codeAny_mono hc fun r s' h => ?_))
  obtain ⟨x, t, rfl, hI', hq', hf', h1, h2⟩ := h
  show wpAny _ _ (field (.ref I) 2 >>= _) _ _ s'
  refine wpAny_bind (wpAny_field hI' rfl (x := .bool false) rfl ?_)
  show wpAny _ _ (field (.ref I) 1 >>= _) _ _ s'
  refine wpAny_bind (wpAny_field hI' rfl (x := .str (Str.ofString "") t0) rfl ?_)
  refine wpAny_bind (wpAny_holding (wpAny_eqBool_str ?_))
  by_cases hx : x = Str.ofString ""
  · subst hx
    rw [decide_eq_true rfl]
    show wpAny _ _ (rule _ >>= _) _ _ s'
    refine wpAny_bind (wpAny_rule ?_)
    show wpAny _ _ ((field (.ref I) 0 >>= fun old => slotLetsGo "callable_iterator.__next__" old _ >>= fun _ => setField (.ref I) 0 .none >>= fun _ => setField (.ref I) 1 .none >>= fun _ => setField (.ref I) 2 (.bool true)) >>= _) _ _ s'
    refine wpAny_bind (wpAny_bind (wpAny_field hI' rfl (x := .ref q) rfl ?_))
    refine wpAny_bind ?_
    unfold slotLetsGo
    show wpAny _ _ (borrowsExactly (.ref q) >>= _) _ _ s'
    refine wpAny_bind (borrows_meth hq' hf' hd ?_)
    show wpAny _ _ (pure ()) _ _ s'
    refine wpAny_pure ?_
    refine wpAny_bind (wpAny_setField_rec hI' (by simp) fun g1 k1 e1 => ?_)
    refine wpAny_bind (wpAny_setField_rec k1 (by simp) fun g2 k2 e2 => ?_)
    refine wpAny_setField_rec k2 (by simp) fun g3 k3 e3 => ?_
    show wpAny _ _ (newExc (.type "StopIteration") [] >>= _) _ _ _
    refine wpAny_bind ?_
    simp only [newExc, newTuple]
    refine wpAny_bind (wpAny_newObj_type ?_ (by size_fits))
    refine wpAny_bind (m := firstArgMember _ _) (wpAny_of_eq (a := Value.none) (by first | rfl | (simp only [firstArgMember]; rfl)) ?_)
    refine wpAny_newObj_type ?_ (by size_fits)
    simp only [raiseNew]
    refine wpAny_bind (wpAny_handled ?_)
    rw [show A.in1.handled = none from hh]
    refine wpAny_bind (wpAny_pure (wpAny_throw ?_))
    refine wpAny_bind (wpAny_isInstance (T := "StopIteration") (b := true) ⟨_, Heap.get?_push_size _ rfl, rfl⟩ isSubtype_stop ?_)
    refine wpAny_pure (h2 rfl _ (fun b o hb e => ?_) ?_)
    · exact Heap.get?_push_of_some _ (Heap.get?_push_of_some _ (e3.extBut b o hb (e2.extBut b o hb (e1.extBut b o hb e))))
    · exact Heap.get?_push_of_some _ (Heap.get?_push_of_some _ k3)
  · rw [decide_eq_false (fun e => hx e.symm)]
    show wpAny _ _ (ret (.str x t)) _ _ s'
    exact wpAny_pure ⟨_, rfl, wpAny_pure (h1 hx)⟩
theorem cit_next_end {I : Nat} {Q : Option Value → Shared → Prop} (hh : A.handled = none) (hI : s.heap.get? I = some citEnd)
    (h : ∀ h', (∀ b o, s.heap.get? b = some o → h'.get? b = some o) → Q none { s with heap := h' }) :
    wpAny (model prog w) A (pyNext (.ref I)) Q E s := by
  have hT : s.TypeIs (.ref I) "callable_iterator" := ⟨_, hI, rfl⟩
  unfold pyNext
  refine wpAny_bind (wpAny_attempt (wpAny_callSpecial?_slot (name := Str.ofString "__next__") hT slot_cit_next
    (wpAny_call_entry slot_cit_next hT entry_cit_next ?_ (args_cit_next_1 _))))
  show wpAny _ _ (field (.ref I) 2 >>= _) _ _ s
  refine wpAny_bind (wpAny_field hI rfl (x := .bool true) rfl ?_)
  show wpAny _ _ (rule _ >>= _) _ _ s
  refine wpAny_bind (wpAny_rule ?_)
  refine wpAny_bind ?_
  show wpAny _ _ (newExc (.type "StopIteration") [] >>= _) _ _ _
  refine wpAny_bind ?_
  simp only [newExc, newTuple]
  refine wpAny_bind (wpAny_newObj_type ?_ (by size_fits))
  refine wpAny_bind (m := firstArgMember _ _) (wpAny_of_eq (a := Value.none) (by first | rfl | (simp only [firstArgMember]; rfl)) ?_)
  refine wpAny_newObj_type ?_ (by size_fits)
  simp only [raiseNew]
  refine wpAny_bind (wpAny_handled ?_)
  rw [show A.in1.handled = none from hh]
  refine wpAny_bind (wpAny_pure (wpAny_throw ?_))
  refine wpAny_bind (wpAny_isInstance (T := "StopIteration") (b := true) ⟨_, Heap.get?_push_size _ rfl, rfl⟩ isSubtype_stop ?_)
  exact wpAny_pure (h _ fun b o e => Heap.get?_push_of_some _ (Heap.get?_push_of_some _ e))
end
end
section
theorem calm_L1lev1 : True ∧ True := by
  w_top off
  k_with_none
  first
    | (walk1; fail)
    | exact ⟨trivial, trivial⟩
noncomputable def PreOk (a b : Str) (k : Int) : Prop := (cs a).take k.toNat = (cs b).take k.toNat
theorem c1_start (a b : Str) : (0:Int) ≤ 0 ∧ (0:Int) ≤ a.length ∧ (0:Int) ≤ b.length ∧ PreOk a b 0 := ⟨by omega, by omega, by omega, rfl⟩
theorem c1_turn {a b : Str} {k : Int} (h0 : 0 ≤ k) (h1 : k < a.length) (h2 : k < b.length) (hp : PreOk a b k) (he : (Txt.item a k == Txt.item b k) = true) :
    (0:Int) ≤ k + 1 ∧ k + 1 ≤ a.length ∧ k + 1 ≤ b.length ∧ PreOk a b (k + 1) := by
  refine ⟨by omega, by omega, by omega, ?_⟩
  rw [item_cs h0 h1, item_cs h0 h2] at he
  have he := beq_iff_eq.mp he
  have e : (cs a).getD k.toNat 0 = (cs b).getD k.toNat 0 := by injection he with he; simpa using he
  unfold PreOk at hp ⊢
  have ht : (k + 1).toNat = k.toNat + 1 := by omega
  rw [ht, take_one (by rw [cs_len]; omega), take_one (by rw [cs_len]; omega), hp, e]
theorem fr1 {g h : Heap} {L : Addr} {m : Str → Option Value} {n1 : Str} {v1 : Value} (F : Fr g L h m) (e1 : m n1 = some v1) : Fr g L h (fun y => if y = n1 then some v1 else m y) := Fr.known0 F e1
theorem fr2 {g h : Heap} {L : Addr} {m : Str → Option Value} {n1 n2 : Str} {v1 v2 : Value} (F : Fr g L h m) (e1 : m n1 = some v1) (e2 : m n2 = some v2) : Fr g L h (fun y => if y = n1 then some v1 else if y = n2 then some v2 else m y) :=
  Fr.known0 (Fr.known0 F e2) (by show (if n1 = n2 then some v2 else m n1) = some v1; split <;> simp_all)
theorem fr3 {g h : Heap} {L : Addr} {m : Str → Option Value} {n1 n2 n3 : Str} {v1 v2 v3 : Value} (F : Fr g L h m) (e1 : m n1 = some v1) (e2 : m n2 = some v2) (e3 : m n3 = some v3) :
    Fr g L h (fun y => if y = n1 then some v1 else if y = n2 then some v2 else if y = n3 then some v3 else m y) :=
  Fr.known0 (fr2 F e2 e3) (by show (if n1 = n2 then some v2 else if n1 = n3 then some v3 else m n1) = some v1; split <;> (try split) <;> simp_all)
theorem fr4 {g h : Heap} {L : Addr} {m : Str → Option Value} {n1 n2 n3 n4 : Str} {v1 v2 v3 v4 : Value} (F : Fr g L h m) (e1 : m n1 = some v1) (e2 : m n2 = some v2) (e3 : m n3 = some v3) (e4 : m n4 = some v4) :
    Fr g L h (fun y => if y = n1 then some v1 else if y = n2 then some v2 else if y = n3 then some v3 else if y = n4 then some v4 else m y) :=
  Fr.known0 (fr3 F e2 e3 e4) (by show (if n1 = n2 then some v2 else if n1 = n3 then some v3 else if n1 = n4 then some v4 else m n1) = some v1; split <;> (try split) <;> (try split) <;> simp_all)
theorem lev_c1 (w : World) (news : CbLed) (loose : List Str) (mean : ExcName → Option Value) (mg mb : Str → Option Value) (p : Program) (a b : Str) (m : Int) (ta tb tm : CbTok) (ha : a.length ≤ 40) (hb : b.length ≤ 40)
  (rest : List Stmt) (dp un : Nat) (gd : Option (List Code)) (cn : Str) (sc : Scope) (a' : CbAddr) (ccd : CbVal) (cl : List (Str × CbAddr)) (outer : List Env) (base g h : Heap) (L L' : CbAddr) (mm : Str → Option Value) (s : Shared) (tk0 : Nat)
  (Q : Flow → Shared → Prop) (E : Value → Shared → Prop)
  (B : Below (ktrTop dp un gd cn sc L a' ccd cl outer) base (envX cn sc L a' ccd cl :: outer) g) (hdp : dp + 100 < recursionLimit) (hun : un + 500 < cLine)
  (N : News g L' h news) (X : (Mine.hd.heap_39 w.params).In g) (T : Top p loose mean mg mb g)
  (hE : PassesOwn (model PySem.Challenge.rw_rw0047_01.prog w) ((ktrTop dp un gd cn sc L a' ccd cl outer).deeper (envOf (Str.ofString "_levenshtein_distance") levS.1 L' 109 (.ref 108))) (envOf (Str.ofString "_levenshtein_distance") levS.1 L' 109 (.ref 108)) E)
  (F : Fr g L' h (fun y => if y = Str.ofString "a" then some (Value.str a ta) else if y = Str.ofString "b" then some (Value.str b tb) else if y = Str.ofString "max_cost" then some (Value.int m tm) else mm y))
  (hret : ∀ (v : Int) t h' tk' m', LevOk a b m v → Fr g L' h' m' → News g L' h' news → Q (.ret (.int v t)) { s with heap := h', toks := tk' })
  (hrest : ∀ h' tk' (k : Int) tp (m' : Str → Option Value),
    Fr g L' h' (fun y => if y = Str.ofString "a" then some (Value.str a ta) else if y = Str.ofString "b" then some (Value.str b tb) else if y = Str.ofString "max_cost" then some (Value.int m tm) else if y = Str.ofString "pre" then some (Value.int k tp) else m' y) →
    News g L' h' news → 0 ≤ k → k ≤ a.length → k ≤ b.length → PreOk a b k → wpAny (model PySem.Challenge.rw_rw0047_01.prog w) ((ktrTop dp un gd cn sc L a' ccd cl outer).deeper (envOf (Str.ofString "_levenshtein_distance") levS.1 L' 109 (.ref 108)))
    (execs (rest) (envOf (Str.ofString "_levenshtein_distance") levS.1 L' 109 (.ref 108))) Q E {s with heap := h', toks := tk'}) :
  wpAny (model PySem.Challenge.rw_rw0047_01.prog w) ((ktrTop dp un gd cn sc L a' ccd cl outer).deeper (envOf (Str.ofString "_levenshtein_distance") levS.1 L' 109 (.ref 108)))
    (execs (levB.1.take 3 ++ rest) (envOf (Str.ofString "_levenshtein_distance") levS.1 L' 109 (.ref 108))) Q E {s with heap := h, toks := tk0} := by
  revert X; k_fill; intro X
  dsimp only [levB, levS, List.take, List.cons_append, List.nil_append] at *
  k_with "exec While BoolOp cons nil" => k_while (fun _ pre => 0 ≤ pre ∧ pre ≤ a.length ∧ pre ≤ b.length ∧ PreOk a b pre) (fun _ pre => (a.length - pre).toNat) "pre"
  k_with "state" => first | exact c1_start _ _ | exact c1_turn (by assumption) (by omega) (by omega) (by assumption) (by assumption)
  k_steps
  all_goals first
    | exact hret _ _ _ _ _ (lev_same (by assumption)) (by assumption) (by assumption)
    | exact hrest _ _ _ _ _ (fr4 (by assumption) (by with_unfolding_all rfl) (by with_unfolding_all rfl) (by with_unfolding_all rfl) (by with_unfolding_all rfl)) (by assumption) (by assumption) (by assumption) (by assumption) (by assumption)
end
section
theorem calm_L1lev2 : True ∧ True := by
  w_top off
  k_with_none
  first
    | (walk1; fail)
    | exact ⟨trivial, trivial⟩
noncomputable def PostOk (a b : Str) (q : Int) : Prop := (cs a).drop (a.length + q).toNat = (cs b).drop (b.length + q).toNat
theorem c2_start (a b : Str) : (0:Int) ≤ 0 ∧ -(0:Int) ≤ a.length ∧ -(0:Int) ≤ b.length ∧ PostOk a b 0 := by
  refine ⟨by omega, by omega, by omega, ?_⟩
  unfold PostOk
  rw [List.drop_of_length_le (by rw [cs_len]; omega), List.drop_of_length_le (by rw [cs_len]; omega)]
theorem slice_neg_len {x : Str} {q : Int} (h0 : q ≤ 0) (h1 : -q ≤ (x.length : Int)) (hne : q ≠ 0) : ((Txt.slice x none (some q)).length : Int) = x.length + q := by
  have := slice_to_neg (x := x) (j := q) (by omega) (by omega)
  rw [← cs_len, this, List.length_take, cs_len]
  omega
theorem lev_item {prog : Program} {w : World} {A : Around} {E : Value → Shared → Prop} {s : Shared} {value slice : PySem.Expr} {x : PySem.Str} {t u : Tok} {q : Int} {Q : Value → Shared → Prop}
    (h0 : q ≤ 0) (h1 : -q ≤ (x.length : Int)) (hx : x.length ≤ 1000) (hq : q ≠ 0 → ((Txt.slice x none (some q)).length : Int) ≠ 0) (hz : q = 0 → ((Txt.slice x none none).length : Int) ≠ 0)
    (h : -(x.length : Int) ≤ q - 1 → Q (.str (Txt.item x (q - 1)) s.toks) { s with toks := s.toks + 1 })
    (hs : subscripted slice false (.str x t) (.int (q - 1) u) = operate [.str x t, .int (q - 1) u] (getItem (.str x t) (.int (q - 1) u)) := by with_unfolding_all rfl)
    (ht : ∀ r, letTemporaryGo value (.str x t) r = pure () := by intro _; with_unfolding_all rfl) :
    wpAny (model prog w) A (subscriptTail value slice (.str x t) (.int (q - 1) u)) Q E s := by
  have hl : -(x.length : Int) ≤ q - 1 := by
    by_cases hc : q = 0
    · have := hz hc
      rw [slice_all] at this
      omega
    · have := hq hc
      rw [slice_neg_len h0 h1 hc] at this
      omega
  exact item_str (fitsSsize_of (N := 9223372036854775808) (by omega) (by omega) (Int.le_refl _)) (by omega) (by omega) (fun _ => h hl) hs ht
theorem tn_step {l q : Int} (h : 0 ≤ q - 1 + l) : (q - 1 + l).toNat + 1 = (l + q).toNat := by omega
theorem c2_turn {a b : Str} {q : Int} (h0 : q ≤ 0) (ha : -(a.length : Int) ≤ q - 1) (hb : -(b.length : Int) ≤ q - 1) (hp : PostOk a b q) (he : (Txt.item a (q - 1) == Txt.item b (q - 1)) = true) :
    q - 1 ≤ (0:Int) ∧ -(q - 1) ≤ a.length ∧ -(q - 1) ≤ b.length ∧ PostOk a b (q - 1) := by
  refine ⟨by omega, by omega, by omega, ?_⟩
  rw [item_cs_neg (by omega) ha, item_cs_neg (by omega) hb] at he
  have he := beq_iff_eq.mp he
  have e : (cs a).getD (q - 1 + a.length).toNat 0 = (cs b).getD (q - 1 + b.length).toNat 0 := by injection he with he; simpa using he
  unfold PostOk at hp ⊢
  have ea : (a.length + (q - 1)).toNat = (q - 1 + a.length).toNat := by rw [Int.add_comm]
  have eb : (b.length + (q - 1)).toNat = (q - 1 + b.length).toNat := by rw [Int.add_comm]
  rw [ea, eb, drop_one (l := cs a) (by rw [cs_len]; omega), drop_one (l := cs b) (by rw [cs_len]; omega), e]
  congr 1
  have ea' : (q - 1 + a.length).toNat + 1 = (a.length + q).toNat := tn_step (by omega)
  have eb' : (q - 1 + b.length).toNat + 1 = (b.length + q).toNat := tn_step (by omega)
  rw [ea', eb', hp]
theorem rows_L1lev2_1 : True := by
  k_with "subscriptTail Name BinOp str int" => (k_here; (with_reducible show wpAny _ _ (subscriptTail _ _ (Value.str _ _) (Value.int (_ - 1) _)) _ _ _); (with_unfolding_all refine' lev_item ?k1 ?k2 ?k3 ?k4 ?k5 ?_); (case k1 => assumption); (case k2 => assumption); (case k3 => omega); (case k4 => (intro hhRow; first | assumption | omega)); (case k5 => (intro hhRow; first | assumption | omega)); intro _)
  k_with "subscriptTail Name Slice str ref" => (k_here; (with_reducible show wpAny _ _ (subscriptTail _ (PySem.Expr.Slice none (some (PySem.Expr.BoolOp _ _ _)) none _) (Value.str _ _) (Value.ref _)) _ _ _); (rename Fr _ _ _ _ => lF9Row); (rename News _ _ _ _ => lN9Row); (with_unfolding_all refine' slice_strN_nn_len lF9Row lN9Row ?_ ?k2 ?k3 ?k4); (case k2 => with_unfolding_all rfl); (case k3 => (intro _; with_unfolding_all rfl)); (case k4 => size_fits); intro _ _ _ _ _ _)
  k_with "subscriptTail Name Slice str ref" => (k_here; (with_reducible show wpAny _ _ (subscriptTail _ (PySem.Expr.Slice none (some (PySem.Expr.BoolOp _ _ _)) none _) (Value.str _ _) (Value.ref _)) _ _ _); exfalso; omega)
  trivial
theorem lev_c2 (w : World) (news : CbLed) (loose : List Str) (mean : ExcName → Option Value) (mg mb : Str → Option Value) (p : Program) (a b : Str) (m k : Int) (ta tb tm tp : CbTok) (ha : a.length ≤ 40) (hb : b.length ≤ 40) (h0 : 0 ≤ k) (h1 : k ≤ a.length) (h2 : k ≤ b.length)
  (rest : List Stmt) (dp un : Nat) (gd : Option (List Code)) (cn : Str) (sc : Scope) (a' : CbAddr) (ccd : CbVal) (cl : List (Str × CbAddr)) (outer : List Env) (base g h : Heap) (L L' : CbAddr) (mm : Str → Option Value) (s : Shared) (tk0 : Nat)
  (Q : Flow → Shared → Prop) (E : Value → Shared → Prop)
  (B : Below (ktrTop dp un gd cn sc L a' ccd cl outer) base (envX cn sc L a' ccd cl :: outer) g) (hdp : dp + 100 < recursionLimit) (hun : un + 500 < cLine)
  (N : News g L' h news) (X : (Mine.hd.heap_39 w.params).In g) (T : Top p loose mean mg mb g)
  (hE : PassesOwn (model PySem.Challenge.rw_rw0047_01.prog w) ((ktrTop dp un gd cn sc L a' ccd cl outer).deeper (envOf (Str.ofString "_levenshtein_distance") levS.1 L' 109 (.ref 108))) (envOf (Str.ofString "_levenshtein_distance") levS.1 L' 109 (.ref 108)) E)
  (F : Fr g L' h (fun y => if y = Str.ofString "a" then some (Value.str a ta) else if y = Str.ofString "b" then some (Value.str b tb) else if y = Str.ofString "max_cost" then some (Value.int m tm) else if y = Str.ofString "pre" then some (Value.int k tp) else mm y))
  (hrest : ∀ h' tk' (q : Int) (ta tb tq : CbTok) (m' : Str → Option Value),
    Fr g L' h' (fun y => if y = Str.ofString "a" then some (Value.str (Txt.slice a (some k) none) ta) else if y = Str.ofString "b" then some (Value.str (Txt.slice b (some k) none) tb) else if y = Str.ofString "max_cost" then some (Value.int m tm) else if y = Str.ofString "post" then some (Value.int q tq) else m' y) →
    News g L' h' news → q ≤ 0 → -q ≤ (Txt.slice a (some k) none).length → -q ≤ (Txt.slice b (some k) none).length → PostOk (Txt.slice a (some k) none) (Txt.slice b (some k) none) q → wpAny (model PySem.Challenge.rw_rw0047_01.prog w) ((ktrTop dp un gd cn sc L a' ccd cl outer).deeper (envOf (Str.ofString "_levenshtein_distance") levS.1 L' 109 (.ref 108)))
    (execs (rest) (envOf (Str.ofString "_levenshtein_distance") levS.1 L' 109 (.ref 108))) Q E {s with heap := h', toks := tk'}) :
  wpAny (model PySem.Challenge.rw_rw0047_01.prog w) ((ktrTop dp un gd cn sc L a' ccd cl outer).deeper (envOf (Str.ofString "_levenshtein_distance") levS.1 L' 109 (.ref 108)))
    (execs ((levB.1.drop 3).take 4 ++ rest) (envOf (Str.ofString "_levenshtein_distance") levS.1 L' 109 (.ref 108))) Q E {s with heap := h, toks := tk0} := by
  revert X; k_fill; intro X
  dsimp only [levB, levS, List.take, List.drop, List.cons_append, List.nil_append] at *
  k_with "exec While BoolOp cons nil" => k_while (fun _ post => post ≤ 0 ∧ -post ≤ (Txt.slice a (some k) none).length ∧ -post ≤ (Txt.slice b (some k) none).length ∧ PostOk (Txt.slice a (some k) none) (Txt.slice b (some k) none) post) (fun _ post => (a.length + post).toNat) "post"
  k_with "state" => first | exact c2_start _ _ | exact c2_turn (by assumption) (by assumption) (by assumption) (by assumption) (by assumption)
  k_steps
  all_goals exact hrest _ _ _ _ _ _ _ (fr4 (by assumption) (by with_unfolding_all rfl) (by with_unfolding_all rfl) (by with_unfolding_all rfl) (by with_unfolding_all rfl)) (by assumption) (by assumption) (by assumption) (by assumption) (by assumption)
end
section
theorem calm_L1lev3 : True ∧ True := by
  w_top off
  k_with_none
  first
    | (walk1; fail)
    | exact ⟨trivial, trivial⟩
/-- a text up to q signs from its end -/
noncomputable def cutTo (x : Str) (q : Int) : Str := ⟨((cs x).take (x.length + q).toNat).toArray⟩
theorem cut_none {x : Str} {q : Int} (h : q = 0) : Txt.slice x none none = cutTo x q := by
  subst h
  rw [slice_all]
  apply str_ext
  show cs x = ((cs x).take (x.length + 0 : Int).toNat).toArray.toList
  rw [List.toList_toArray, List.take_of_length_le (by rw [cs_len]; omega)]
theorem cut_some {x : Str} {q : Int} (h : q ≠ 0) (h0 : q ≤ 0) (h1 : -q ≤ (x.length : Int)) : Txt.slice x none (some q) = cutTo x q := by
  apply str_ext
  rw [slice_to_neg (by omega) (by omega)]
  show _ = ((cs x).take (x.length + q : Int).toNat).toArray.toList
  rw [List.toList_toArray, Int.add_comm]
theorem rows_L1lev3_2 : True := by
  k_with "subscriptTail Name Slice str ref" => (k_here; (with_reducible show wpAny _ _ (subscriptTail _ (PySem.Expr.Slice none (some (PySem.Expr.BoolOp _ _ _)) none _) (Value.str _ _) (Value.ref _)) _ _ _); (rename Fr _ _ _ _ => lF9Row); (rename News _ _ _ _ => lN9Row); (with_unfolding_all refine' slice_strN_nn_len lF9Row lN9Row ?_ ?k2 ?k3 ?k4); (case k2 => with_unfolding_all rfl); (case k3 => (intro _; with_unfolding_all rfl)); (case k4 => size_fits); intro _ _ _ _ _ _)
  k_with "subscriptTail Name Slice str ref" => (k_here; (with_reducible show wpAny _ _ (subscriptTail _ (PySem.Expr.Slice none (some (PySem.Expr.BoolOp _ _ _)) none _) (Value.str _ _) (Value.ref _)) _ _ _); exfalso; omega)
  trivial
theorem lev_c3 (w : World) (news : CbLed) (loose : List Str) (mean : ExcName → Option Value) (mg mb : Str → Option Value) (p : Program) (a b : Str) (m q : Int) (ta tb tm tq : CbTok) (ha : a.length ≤ 40) (hb : b.length ≤ 40) (h0 : q ≤ 0) (h1 : -q ≤ (a.length : Int)) (h2 : -q ≤ (b.length : Int))
  (rest : List Stmt) (dp un : Nat) (gd : Option (List Code)) (cn : Str) (sc : Scope) (a' : CbAddr) (ccd : CbVal) (cl : List (Str × CbAddr)) (outer : List Env) (base g h : Heap) (L L' : CbAddr) (mm : Str → Option Value) (s : Shared) (tk0 : Nat)
  (Q : Flow → Shared → Prop) (E : Value → Shared → Prop)
  (B : Below (ktrTop dp un gd cn sc L a' ccd cl outer) base (envX cn sc L a' ccd cl :: outer) g) (hdp : dp + 100 < recursionLimit) (hun : un + 500 < cLine)
  (N : News g L' h news) (X : (Mine.hd.heap_39 w.params).In g) (T : Top p loose mean mg mb g)
  (hE : PassesOwn (model PySem.Challenge.rw_rw0047_01.prog w) ((ktrTop dp un gd cn sc L a' ccd cl outer).deeper (envOf (Str.ofString "_levenshtein_distance") levS.1 L' 109 (.ref 108))) (envOf (Str.ofString "_levenshtein_distance") levS.1 L' 109 (.ref 108)) E)
  (F : Fr g L' h (fun y => if y = Str.ofString "a" then some (Value.str a ta) else if y = Str.ofString "b" then some (Value.str b tb) else if y = Str.ofString "max_cost" then some (Value.int m tm) else if y = Str.ofString "post" then some (Value.int q tq) else mm y))
  (hrest : ∀ h' tk' (a2 b2 : Str) (ta tb : CbTok) (m' : Str → Option Value),
    Fr g L' h' (fun y => if y = Str.ofString "a" then some (Value.str a2 ta) else if y = Str.ofString "b" then some (Value.str b2 tb) else if y = Str.ofString "max_cost" then some (Value.int m tm) else m' y) →
    News g L' h' news → a2 = cutTo a q → b2 = cutTo b q → wpAny (model PySem.Challenge.rw_rw0047_01.prog w) ((ktrTop dp un gd cn sc L a' ccd cl outer).deeper (envOf (Str.ofString "_levenshtein_distance") levS.1 L' 109 (.ref 108)))
    (execs (rest) (envOf (Str.ofString "_levenshtein_distance") levS.1 L' 109 (.ref 108))) Q E {s with heap := h', toks := tk'}) :
  wpAny (model PySem.Challenge.rw_rw0047_01.prog w) ((ktrTop dp un gd cn sc L a' ccd cl outer).deeper (envOf (Str.ofString "_levenshtein_distance") levS.1 L' 109 (.ref 108)))
    (execs ((levB.1.drop 7).take 2 ++ rest) (envOf (Str.ofString "_levenshtein_distance") levS.1 L' 109 (.ref 108))) Q E {s with heap := h, toks := tk0} := by
  revert X; k_fill; intro X
  dsimp only [levB, levS, List.take, List.drop, List.cons_append, List.nil_append] at *
  k_steps
  all_goals first
    | exact hrest _ _ _ _ _ _ _ (fr3 (by assumption) (by with_unfolding_all rfl) (by with_unfolding_all rfl) (by with_unfolding_all rfl)) (by assumption) (cut_none (by assumption)) (cut_none (by assumption))
    | exact hrest _ _ _ _ _ _ _ (fr3 (by assumption) (by with_unfolding_all rfl) (by with_unfolding_all rfl) (by with_unfolding_all rfl)) (by assumption) (cut_some (by assumption) (by assumption) (by assumption)) (cut_some (by assumption) (by assumption) (by assumption))
    | (exfalso; omega)
end
section
theorem calm_L1lev4 : True ∧ True := by
  w_top off
  k_with_none
  first
    | (walk1; fail)
    | exact ⟨trivial, trivial⟩
theorem lev_empty {a b : Str} {m : Int} (h : a.length = 0 ∨ b.length = 0) : LevOk a b m (2 * ((a.length : Int) + (b.length : Int))) := by
  left
  rw [← cs_len a, ← cs_len b] at *
  rcases h with h | h
  · rw [List.eq_nil_of_length_eq_zero h, D_nil]
    simp
  · rw [List.eq_nil_of_length_eq_zero h, D_nil']
    simp
theorem lev_far {a b : Str} {m : Int} (h : ((b.length : Int) - (a.length : Int)) * 2 > m ∨ ((a.length : Int) - (b.length : Int)) * 2 > m) : LevOk a b m (m + 1) := by
  right
  have h1 := D_len (cs a) (cs b)
  have h2 := D_len' (cs a) (cs b)
  rw [cs_len, cs_len] at h1 h2
  rcases h with h | h <;> omega
theorem lev_c4 (w : World) (news : CbLed) (loose : List Str) (mean : ExcName → Option Value) (mg mb : Str → Option Value) (p : Program) (a b : Str) (m : Int) (ta tb tm : CbTok) (ha : a.length ≤ 40) (hb : b.length ≤ 40)
  (rest : List Stmt) (dp un : Nat) (gd : Option (List Code)) (cn : Str) (sc : Scope) (a' : CbAddr) (ccd : CbVal) (cl : List (Str × CbAddr)) (outer : List Env) (base g h : Heap) (L L' : CbAddr) (mm : Str → Option Value) (s : Shared) (tk0 : Nat)
  (Q : Flow → Shared → Prop) (E : Value → Shared → Prop)
  (B : Below (ktrTop dp un gd cn sc L a' ccd cl outer) base (envX cn sc L a' ccd cl :: outer) g) (hdp : dp + 100 < recursionLimit) (hun : un + 500 < cLine)
  (N : News g L' h news) (X : (Mine.hd.heap_39 w.params).In g) (T : Top p loose mean mg mb g)
  (hE : PassesOwn (model PySem.Challenge.rw_rw0047_01.prog w) ((ktrTop dp un gd cn sc L a' ccd cl outer).deeper (envOf (Str.ofString "_levenshtein_distance") levS.1 L' 109 (.ref 108))) (envOf (Str.ofString "_levenshtein_distance") levS.1 L' 109 (.ref 108)) E)
  (F : Fr g L' h (fun y => if y = Str.ofString "a" then some (Value.str a ta) else if y = Str.ofString "b" then some (Value.str b tb) else if y = Str.ofString "max_cost" then some (Value.int m tm) else mm y))
  (hret : ∀ (v : Int) t h' tk' m', LevOk a b m v → Fr g L' h' m' → News g L' h' news → Q (.ret (.int v t)) { s with heap := h', toks := tk' })
  (hrest : ∀ h' tk' (a2 b2 : Str) (ta tb : CbTok) (m' : Str → Option Value),
    Fr g L' h' (fun y => if y = Str.ofString "a" then some (Value.str a2 ta) else if y = Str.ofString "b" then some (Value.str b2 tb) else if y = Str.ofString "max_cost" then some (Value.int m tm) else m' y) →
    News g L' h' news → (a2 = a ∧ b2 = b ∨ a2 = b ∧ b2 = a) → 0 < a2.length → a2.length ≤ b2.length → b2.length ≤ 40 → wpAny (model PySem.Challenge.rw_rw0047_01.prog w) ((ktrTop dp un gd cn sc L a' ccd cl outer).deeper (envOf (Str.ofString "_levenshtein_distance") levS.1 L' 109 (.ref 108)))
    (execs (rest) (envOf (Str.ofString "_levenshtein_distance") levS.1 L' 109 (.ref 108))) Q E {s with heap := h', toks := tk'}) :
  wpAny (model PySem.Challenge.rw_rw0047_01.prog w) ((ktrTop dp un gd cn sc L a' ccd cl outer).deeper (envOf (Str.ofString "_levenshtein_distance") levS.1 L' 109 (.ref 108)))
    (execs ((levB.1.drop 9).take 4 ++ rest) (envOf (Str.ofString "_levenshtein_distance") levS.1 L' 109 (.ref 108))) Q E {s with heap := h, toks := tk0} := by
  revert X; k_fill; intro X
  dsimp only [levB, levS, List.take, List.drop, List.cons_append, List.nil_append] at *
  k_steps
  all_goals first
    | exact hrest _ _ _ _ _ _ _ (fr3 (by assumption) (by with_unfolding_all rfl) (by with_unfolding_all rfl) (by with_unfolding_all rfl)) (by first | assumption | exact News.tail' (by assumption)) (by simp) (by omega) (by omega) (by omega)
    | exact hret _ _ _ _ _ (lev_empty (by omega)) (by assumption) (by assumption)
    | exact hret _ _ _ _ _ (lev_far (by first | (left; assumption) | (right; assumption))) (by assumption) (by first | assumption | exact News.tail' (by assumption))
    | (exfalso; omega)
end
section
theorem calm_L1lev5 : True ∧ True := by
  w_top off
  k_with_none
  first
    | (walk1; fail)
    | exact ⟨trivial, trivial⟩
theorem ints_map : ∀ (vs : List Value) (f : Nat → Int), (∀ (j : Nat) (v : Value), vs[j]? = some v → ∃ t, v = .int (f j) t) → IntsAre vs ((List.range vs.length).map f)
  | [], f, _ => IntsAre.nil
  | v :: r, f, h => by
    rw [List.length_cons, List.range_succ_eq_map, List.map_cons, List.map_map]
    obtain ⟨t, ht⟩ := h 0 v rfl
    subst ht
    exact IntsAre.cons _ _ (ints_map r (f ∘ Nat.succ) fun j v hj => h (j + 1) v hj)
theorem fits_one {i : Int} (h0 : -10000 ≤ i) (h1 : i ≤ 10000) : Builtin.Range.rangeFitsLong i = true := by
  unfold Builtin.Range.rangeFitsLong
  rw [decide_eq_true (by omega), decide_eq_true (by omega)]
  rfl
theorem small2 {la : Nat} (hl : la ≤ 1000) (hsz : Builtin.Range.rangeSize 2 (2 * ((la : Int) + 1)) 2 = la) : Builtin.Range.small 2 (2 * ((la : Int) + 1)) 2 = true := by
  unfold Builtin.Range.small
  rw [hsz, fits_one (by omega) (by omega), fits_one (i := 2 * ((la : Int) + 1)) (by omega) (by omega), fits_one (i := (la : Int)) (by omega) (by omega), if_pos (by decide), fits_one (by omega) (by omega)]
  simp
theorem lev_list {prog : Program} {w : World} {A : Around} {E : Value → Shared → Prop} {s : Shared} {h₀ : Heap} {L r : Addr} {m : Str → Option Value} {news : List (Addr × Obj)} {la : Nat} {t₀ u₀ v₀ : Tok} {Q : Value → Shared → Prop}
    (hh : A.handled = none) (F : Fr h₀ L s.heap m) (N : News h₀ L s.heap news) (hr : IsRange s.heap r 2 (2 * ((la : Int) + 1)) 2 t₀ u₀ v₀) (hl : la ≤ 1000)
    (h : ∀ D us c h' tk, Fr h₀ L h' m → News h₀ L h' ((D, listOf (List.toArray us) c) :: news) → (∀ p ∈ news, p.1 < D) → IntsAre us ((List.range la).map fun (j : Nat) => (2 : Int) + (j : Int) * 2) → Q (.ref D) { s with heap := h', toks := tk }) :
    wpAny (model prog w) A (call (.type "list") [.ref r]) Q E s := by
  have hsz : Builtin.Range.rangeSize 2 (2 * ((la : Int) + 1)) 2 = la := by
    unfold Builtin.Range.rangeSize
    rw [if_pos (by decide)]
    split <;> omega
  refine call_list_range hh hr (small2 hl hsz) hsz (by omega) fun h' tk acc c hk hD hI => ?_
  have hD' : h'.get? s.heap.objs.size = some (listOf (List.toArray acc.toList) c) := by
    rw [Array.toArray_toList]
    exact hD
  have e : acc.toList.length = la := by rw [Array.length_toList]; exact hI.1
  refine h _ acc.toList c h' tk (F.keeps hk) (news_pushed F N hk hD' rfl) (fun p hp => Heap.lt_size (N p hp).1) ?_
  rw [← e]
  exact ints_map _ _ fun j v hj => hI.2 j v (by rw [← hj, Array.getElem?_toList])
theorem rows_L1lev5_3 : True := by
  k_with "call type:list" => (k_here; (with_reducible show wpAny _ _ (call (Value.type _) [Value.ref _]) _ _ _); (rename IsRange _ _ _ _ _ _ _ _ => rgXRow); (with_unfolding_all refine' lev_list ?k0 ?k1 ?k2 rgXRow ?k4 ?_); (case k0 => rfl); (case k1 => k_asm); (case k2 => k_asm); (case k4 => omega); intro DqRow vsqRow cqRow hqRow tkqRow FqRow NqRow l1Row hIqRow; (try k_lt l1Row); (try k_sweep))
  trivial
theorem scS0 {x y : Str} (h : (x == y) = true) : (0 : Int) = scS x y := by unfold scS; rw [if_pos (beq_iff_eq.mp h)]
theorem scS1 {x y : Str} (h : (x == y) = false) (h2 : (Txt.lower x == Txt.lower y) = true) : (1 : Int) = scS x y := by unfold scS; rw [if_neg (by simpa using h), if_pos (beq_iff_eq.mp h2)]
theorem scS2 {x y : Str} (h : (x == y) = false) (h2 : (Txt.lower x == Txt.lower y) = false) : (2 : Int) = scS x y := by unfold scS; rw [if_neg (by simpa using h), if_neg (by simpa using h2)]
theorem news_in {g h : Heap} {L : Addr} {x : Addr × Obj} {news own : List (Addr × Obj)} (N : News g L h (x :: (news ++ own))) : News g L h news := fun p hp => N p (List.mem_cons_of_mem _ (List.mem_append_left _ hp))
theorem lev_c5 (w : World) (news : CbLed) (loose : List Str) (mean : ExcName → Option Value) (mg mb : Str → Option Value) (p : Program) (a b : Str) (m : Int) (ta tb tm : CbTok) (ha : 0 < a.length) (hab : a.length ≤ b.length) (hb : b.length ≤ 40)
  (rest : List Stmt) (dp un : Nat) (gd : Option (List Code)) (cn : Str) (sc : Scope) (a' : CbAddr) (ccd : CbVal) (cl : List (Str × CbAddr)) (outer : List Env) (base g h : Heap) (L L' : CbAddr) (mm : Str → Option Value) (s : Shared) (tk0 : Nat)
  (Q : Flow → Shared → Prop) (E : Value → Shared → Prop)
  (B : Below (ktrTop dp un gd cn sc L a' ccd cl outer) base (envX cn sc L a' ccd cl :: outer) g) (hdp : dp + 100 < recursionLimit) (hun : un + 500 < cLine)
  (N : News g L' h news) (X : (Mine.hd.heap_39 w.params).In g) (T : Top p loose mean mg mb g)
  (hE : PassesOwn (model PySem.Challenge.rw_rw0047_01.prog w) ((ktrTop dp un gd cn sc L a' ccd cl outer).deeper (envOf (Str.ofString "_levenshtein_distance") levS.1 L' 109 (.ref 108))) (envOf (Str.ofString "_levenshtein_distance") levS.1 L' 109 (.ref 108)) E)
  (F : Fr g L' h (fun y => if y = Str.ofString "a" then some (Value.str a ta) else if y = Str.ofString "b" then some (Value.str b tb) else if y = Str.ofString "max_cost" then some (Value.int m tm) else mm y))
  (hret : ∀ (v : Int) t h' tk' m', LevOk a b m v → Fr g L' h' m' → News g L' h' news → Q (.ret (.int v t)) { s with heap := h', toks := tk' }) :
  wpAny (model PySem.Challenge.rw_rw0047_01.prog w) ((ktrTop dp un gd cn sc L a' ccd cl outer).deeper (envOf (Str.ofString "_levenshtein_distance") levS.1 L' 109 (.ref 108)))
    (execs ((levB.1.drop 13).take 4) (envOf (Str.ofString "_levenshtein_distance") levS.1 L' 109 (.ref 108))) Q E {s with heap := h, toks := tk0} := by
  revert X; k_fill; intro X
  dsimp only [levB, levS, List.take, List.drop, List.cons_append, List.nil_append] at *
  k_with "pyIter ref" => (k_of "bindex" => k_state (fun pre row result => row.length = a.length ∧ Out (cs a) (cs b) pre.length row result) "row" "result")
  k_with "pyIter ref" => (k_of "index" => k_state (fun pre row distance result minimum => row.length = a.length ∧ Inn (cs a) (cs b) kPre.length pre.length row distance result minimum) "row" "distance" "result" "minimum")
  k_with "call ref" => k_call_by "_substitution_cost" scS (fun (x y : Str) => x.length ≤ 1 ∧ y.length ≤ 1)
  k_with "tree" => first | exact scS0 (by assumption) | exact scS1 (by assumption) (by assumption) | exact scS2 (by assumption) (by assumption)
  k_with "state" => first | exact out_start | exact inn_start (by assumption) (by assumption) (by assumption) (by assumption) _ | exact inn_turn1 (by assumption) (by assumption) (by assumption) (by assumption) (by assumption) (by assumption) rfl (by assumption) | exact inn_turn2 (by assumption) (by assumption) (by assumption) (by assumption) (by assumption) (by assumption) rfl (by assumption) | exact out_turn (by assumption) (by assumption) (by assumption)
  k_steps
  all_goals first
    | exact hret _ _ _ _ _ (lev_cut (by assumption) (by assumption) (by assumption) (by assumption)) (by assumption) (news_in (by assumption))
    | exact hret _ _ _ _ _ (lev_done (by omega) (by assumption)) (by assumption) (News.tail' (by assumption))
end
section
theorem calm_L1lev : True ∧ True := by
  w_top off
  k_with_none
  first
    | (walk1; fail)
    | exact ⟨trivial, trivial⟩
theorem cutTo_cs (x : Str) (q : Int) : cs (cutTo x q) = (cs x).take (x.length + q).toNat := by simp [cs, cutTo]
theorem cutTo_len (x : Str) (q : Int) : (cutTo x q).length ≤ x.length := by
  rw [← cs_len, cutTo_cs, List.length_take, cs_len]; omega
theorem lev_body (w : World) (news : CbLed) (loose : List Str) (mean : ExcName → Option Value) (mg mb : Str → Option Value) (p : Program) (a b : Str) (m : Int) (ta tb tm : CbTok) (ha : a.length ≤ 40) (hb : b.length ≤ 40)
  (rest : List Stmt) (dp un : Nat) (gd : Option (List Code)) (cn : Str) (sc : Scope) (a' : CbAddr) (ccd : CbVal) (cl : List (Str × CbAddr)) (outer : List Env) (base g h : Heap) (L L' : CbAddr) (mm : Str → Option Value) (s : Shared) (tk0 : Nat)
  (Q : Flow → Shared → Prop) (E : Value → Shared → Prop)
  (B : Below (ktrTop dp un gd cn sc L a' ccd cl outer) base (envX cn sc L a' ccd cl :: outer) g) (hdp : dp + 100 < recursionLimit) (hun : un + 500 < cLine)
  (N : News g L' h news) (X : (Mine.hd.heap_39 w.params).In g) (T : Top p loose mean mg mb g)
  (hE : PassesOwn (model PySem.Challenge.rw_rw0047_01.prog w) ((ktrTop dp un gd cn sc L a' ccd cl outer).deeper (envOf (Str.ofString "_levenshtein_distance") levS.1 L' 109 (.ref 108))) (envOf (Str.ofString "_levenshtein_distance") levS.1 L' 109 (.ref 108)) E)
  (F : Fr g L' h (fun y => if y = Str.ofString "a" then some (Value.str a ta) else if y = Str.ofString "b" then some (Value.str b tb) else if y = Str.ofString "max_cost" then some (Value.int m tm) else mm y))
  (hret : ∀ (v : Int) t h' tk' m', LevOk a b m v → Fr g L' h' m' → News g L' h' news → Q (.ret (.int v t)) { s with heap := h', toks := tk' }) :
  wpAny (model PySem.Challenge.rw_rw0047_01.prog w) ((ktrTop dp un gd cn sc L a' ccd cl outer).deeper (envOf (Str.ofString "_levenshtein_distance") levS.1 L' 109 (.ref 108)))
    (execs (levB.1) (envOf (Str.ofString "_levenshtein_distance") levS.1 L' 109 (.ref 108))) Q E {s with heap := h, toks := tk0} := by
  have hb1 : levB.1 = levB.1.take 3 ++ levB.1.drop 3 := rfl
  have hb2 : levB.1.drop 3 = (levB.1.drop 3).take 4 ++ levB.1.drop 7 := rfl
  have hb3 : levB.1.drop 7 = (levB.1.drop 7).take 2 ++ levB.1.drop 9 := rfl
  have hb4 : levB.1.drop 9 = (levB.1.drop 9).take 4 ++ levB.1.drop 13 := rfl
  have hb5 : levB.1.drop 13 = (levB.1.drop 13).take 4 := rfl
  rw [hb1]
  refine lev_c1 _ _ _ _ _ _ _ a b m ta tb tm ha hb (levB.1.drop 3) _ _ _ _ _ _ _ _ _ _ _ _ _ _ _ _ _ _ _ (by assumption) (by omega) (by omega) (by assumption) (by assumption) (by assumption) (by first | assumption | passes_own) F hret fun h1 tk1 k tp m1 F1 N1 k0 k1 k2 hp => ?_
  have sa : cs (Txt.slice a (some k) none) = (cs a).drop k.toNat := slice_from k0 k1
  have sb : cs (Txt.slice b (some k) none) = (cs b).drop k.toNat := slice_from k0 k2
  have la : (Txt.slice a (some k) none).length ≤ 40 := by rw [← cs_len, sa, List.length_drop, cs_len]; omega
  have lb : (Txt.slice b (some k) none).length ≤ 40 := by rw [← cs_len, sb, List.length_drop, cs_len]; omega
  rw [hb2]
  refine lev_c2 _ _ _ _ _ _ _ a b m k ta tb tm tp ha hb k0 k1 k2 (levB.1.drop 7) _ _ _ _ _ _ _ _ _ _ _ _ _ _ _ _ _ _ _ (by assumption) (by omega) (by omega) (by assumption) (by assumption) (by assumption) (by first | assumption | passes_own) F1 fun h2 tk2 q ta2 tb2 tq m2 F2 N2 q0 q1 q2 hq => ?_
  rw [hb3]
  refine lev_c3 _ _ _ _ _ _ _ (Txt.slice a (some k) none) (Txt.slice b (some k) none) m q ta2 tb2 tm tq la lb q0 q1 q2 (levB.1.drop 9) _ _ _ _ _ _ _ _ _ _ _ _ _ _ _ _ _ _ _ (by assumption) (by omega) (by omega) (by assumption) (by assumption) (by assumption) (by first | assumption | passes_own) F2 fun h3 tk3 a3 b3 ta3 tb3 m3 F3 N3 ea eb => ?_
  have la3 : a3.length ≤ 40 := by rw [ea]; exact Nat.le_trans (cutTo_len _ _) la
  have lb3 : b3.length ≤ 40 := by rw [eb]; exact Nat.le_trans (cutTo_len _ _) lb
  have trim : ∀ v, LevOk a3 b3 m v → LevOk a b m v := fun v hv => lev_trim k0 hp sa sb hq (by rw [ea, cutTo_cs]) (by rw [eb, cutTo_cs]) hv
  rw [hb4]
  refine lev_c4 _ _ _ _ _ _ _ a3 b3 m ta3 tb3 tm la3 lb3 (levB.1.drop 13) _ _ _ _ _ _ _ _ _ _ _ _ _ _ _ _ _ _ _ (by assumption) (by omega) (by omega) (by assumption) (by assumption) (by assumption) (by first | assumption | passes_own) F3 (fun v t h' tk' m' hv hF hN => hret v t h' tk' m' (trim v hv) hF hN) fun h4 tk4 a4 b4 ta4 tb4 m4 F4 N4 e4 l0 l1 l2 => ?_
  rw [hb5]
  exact lev_c5 _ _ _ _ _ _ _ a4 b4 m ta4 tb4 tm l0 l1 l2 [] _ _ _ _ _ _ _ _ _ _ _ _ _ _ _ _ _ _ _ (by assumption) (by omega) (by omega) (by assumption) (by assumption) (by assumption) (by first | assumption | passes_own) F4 (fun v t h' tk' m' hv hF hN => hret v t h' tk' m' (trim v (lev_swap e4 hv)) hF hN)
theorem lev_walk (w : World) (news : CbLed) (loose : List Str) (mean : ExcName → Option Value) (mg mb : Str → Option Value) (p : Program) (a b : Str) (m : Int) (ta tb tm : CbTok) (ha : a.length ≤ 40) (hb : b.length ≤ 40)
  (dp un : Nat) (gd : Option (List Code)) (cn : Str) (sc : Scope) (a' : CbAddr) (ccd : CbVal) (cl : List (Str × CbAddr)) (outer : List Env) (A₀ : Around) (base h₀ : Heap) (L : CbAddr) (mm : Str → Option Value) (s : Shared)
  (Q E : Value → Shared → Prop)
  (B : Below A₀ base outer h₀) (F : Fr h₀ L s.heap mm) (X : (Mine.hd.heap_39 w.params).In h₀) (N : News h₀ L s.heap news) (T : Top p loose mean mg mb h₀) (hk : sc.kind = .function) (hdp : dp + 150 < recursionLimit) (hun : un + 800 < cLine)
  (hret : ∀ (v : Int) t h' tk', LevOk a b m v → Fr h₀ L h' mm → News h₀ L h' news → Q (.int v t) { s with heap := h', toks := tk' }) :
  wpAny (model PySem.Challenge.rw_rw0047_01.prog w) (ktrTop dp un gd cn sc L a' ccd cl outer) (call (.ref 109) [Value.str a ta, Value.str b tb, Value.int m tm]) Q E s := by
  revert X; k_fill; intro X
  refine wpAny_call ?_
  k_dflt cell_enter
  with_unfolding_all refine' lev_body _ _ _ _ _ _ _ a b m ta tb tm ha hb [] _ _ _ _ _ _ _ _ _ _ _ _ _ _ _ _ _ _ _ (by assumption) (by omega) (by omega) (by assumption) (by assumption) (by assumption) (by first | assumption | passes_own) (fr3 (by assumption) (by with_unfolding_all rfl) (by with_unfolding_all rfl) (by with_unfolding_all rfl)) ?_
  intro v t h' tk' m' hl hF hN
  k_steps
  exact hret _ _ _ _ hl (by assumption) (by assumption)
end
section
theorem calm_L1small1 : True ∧ True := by
  w_top off
  k_with_none
  first
    | (walk1; fail)
    | exact ⟨trivial, trivial⟩
/-- the quotation mark -/
theorem str_q : Str.ofString "\"" = ⟨#[34]⟩ := by decide +kernel
/-- a sign as a name in a reply 257 wants it -/
noncomputable def dblC (c : Nat) : Str := if c = 34 then ⟨#[34, 34]⟩ else ⟨#[c]⟩
/-- a sign as a word of a netrc file wants it -/
noncomputable def escC (c : Nat) : Str := if c = 34 ∨ c = 92 then ⟨#[92, c]⟩ else ⟨#[c]⟩
theorem dblC_len (c : Nat) : (dblC c).length ≤ 2 := by
  unfold dblC; split
  · exact (by omega : 2 ≤ 2)
  · exact (by omega : 1 ≤ 2)
theorem escC_len (c : Nat) : (escC c).length ≤ 2 := by
  unfold escC; split
  · show 2 ≤ 2; omega
  · exact (by omega : 1 ≤ 2)
noncomputable def dblS (x : Str) : Str := ⟨((cs x).flatMap fun c => cs (dblC c)).toArray⟩
noncomputable def escS (x : Str) : Str := ⟨((cs x).flatMap fun c => cs (escC c)).toArray⟩
theorem sum_le2 {f : Nat → Str} (hf : ∀ c, (f c).length ≤ 2) : ∀ l : List Nat, ((l.map f).map (·.length)).sum + (l.map f).length ≤ 3 * l.length
  | [] => by simp
  | c :: l => by
    have := sum_le2 hf l
    have := hf c
    simp only [List.map_cons, List.sum_cons, List.length_cons]
    omega
theorem join_dbl (x : Str) : Txt.join (Str.ofString "") ((cs x).map dblC) = dblS x := by
  apply str_ext; rw [cs_joinE, List.flatMap_map]; simp [dblS, cs]
theorem join_esc (x : Str) : Txt.join (Str.ofString "") ((cs x).map escC) = escS x := by
  apply str_ext; rw [cs_joinE, List.flatMap_map]; simp [escS, cs]
theorem dbl1 {c : Nat} (h : ((⟨#[c]⟩ : Str) == Str.ofString "\"") = true) : (⟨#[c]⟩ : Str) ++ ⟨#[c]⟩ = dblC c := by
  rw [str_q] at h
  have h := beq_iff_eq.mp h
  have : c = 34 := by injection h with h; simpa using h
  subst this
  rfl
theorem dbl2 {c : Nat} (h : ((⟨#[c]⟩ : Str) == Str.ofString "\"") = false) : (⟨#[c]⟩ : Str) = dblC c := by
  rw [str_q] at h
  have h : ¬ (⟨#[c]⟩ : Str) = ⟨#[34]⟩ := by simpa using h
  have : ¬ c = 34 := fun e => h (by rw [e])
  unfold dblC
  rw [if_neg this]
theorem str_qb : cs (Str.ofString "\"\\") = [34, 92] := by decide +kernel
theorem str_b : Str.ofString "\\" = ⟨#[92]⟩ := by decide +kernel
theorem esc1 {c : Nat} (h : ((Builtin.Str.occurrences (Str.ofString "\"\\") ⟨#[c]⟩ 0 (Str.ofString "\"\\").length 1).isEmpty) = false) : Str.ofString "\\" ++ ⟨#[c]⟩ = escC c := by
  have h := congrArg (! ·) h
  rw [StrLaws.found_one, Bool.not_false, decide_eq_true_eq] at h
  have h : c ∈ cs (Str.ofString "\"\\") := h
  rw [str_qb] at h
  have : c = 34 ∨ c = 92 := by simpa using h
  unfold escC
  rw [if_pos this, str_b]
  rfl
theorem esc2 {c : Nat} (h : ((Builtin.Str.occurrences (Str.ofString "\"\\") ⟨#[c]⟩ 0 (Str.ofString "\"\\").length 1).isEmpty) = true) : (⟨#[c]⟩ : Str) = escC c := by
  have h := congrArg (! ·) h
  rw [StrLaws.found_one, Bool.not_true, decide_eq_false_iff_not] at h
  have h : ¬ c ∈ cs (Str.ofString "\"\\") := h
  rw [str_qb] at h
  have : ¬ (c = 34 ∨ c = 92) := by simpa using h
  unfold escC
  rw [if_neg this]
theorem leaf_str {s : Shared} {x y : Str} {t : Tok} {h' : Heap} {tk : Nat} (hh : ∀ b o, s.heap.get? b = some o → h'.get? b = some o) (e : x = y) : (∃ t', Value.str x t = Value.str y t') ∧ Keeps s { s with heap := h', toks := tk } :=
  ⟨⟨t, by rw [e]⟩, _, _, rfl, hh⟩
theorem q_of {Q : Value → Shared → Prop} {d e : Str} {t : Tok} {s : Shared} (h : Q (.str e t) s) (he : d = e) : Q (.str d t) s := he ▸ h
section
theorem rows_L1small1_4 : True := by
  k_with "eval ListComp" => (k_here; (rename Fr _ _ _ _ => lF9Row); (rename News _ _ _ _ => lN9Row); (with_unfolding_all refine' comp_signs dblC ?h1 ?h2 ?h3 ?h4 ?h5 ?h6 lF9Row lN9Row ?h7 ?h8 ?_ ?_ ?h9); (case h1 => with_unfolding_all rfl); (case h2 => with_unfolding_all decide); (case h3 => with_unfolding_all decide); (case h4 => with_unfolding_all rfl); (case h5 => with_unfolding_all decide); (case h6 => with_unfolding_all rfl); (case h8 => (intro Q9Row hqRow; with_unfolding_all exact ld lF9Row (by with_unfolding_all rfl) hqRow)); (case h7 => (rw [sizeLine_eq]; omega)); (case h9 => (intro _; with_unfolding_all rfl)); all_goals intros)
  k_with "call builtin:str.join" => (k_here; (with_unfolding_all refine' join_listW ?h1 ?h2 ?h3 ?h4 ?_); (case h1 => assumption); (case h2 => assumption); (case h3 => decide); (case h4 => exact Nat.le_trans (sum_le2 dblC_len _) (by rw [cs_len]; omega)); intro _ _)
  k_with "And" => (with_unfolding_all refine' leaf_str (fun _ _ eRow => eRow) ?_; first | exact dbl1 (by assumption) | exact dbl2 (by assumption))
  trivial
theorem doubled_walk (w : World) (news : CbLed) (loose : List Str) (mean : ExcName → Option Value) (mg mb : Str → Option Value) (p : Program) (a : Str) (ta : CbTok) (ha : a.length ≤ 1000)
  (dp un : Nat) (gd : Option (List Code)) (cn : Str) (sc : Scope) (a' : CbAddr) (ccd : CbVal) (cl : List (Str × CbAddr)) (outer : List Env) (A₀ : Around) (base h₀ : Heap) (L : CbAddr) (mm : Str → Option Value) (s : Shared)
  (Q E : Value → Shared → Prop)
  (B : Below A₀ base outer h₀) (F : Fr h₀ L s.heap mm) (X : (Mine.hd.heap_39 w.params).In h₀) (N : News h₀ L s.heap news) (T : Top p loose mean mg mb h₀) (hk : sc.kind = .function) (hdp : dp + 150 < recursionLimit) (hun : un + 800 < cLine)
  (hret : ∀ t h' tk', Fr h₀ L h' mm → News h₀ L h' news → Q (.str (dblS a) t) { s with heap := h', toks := tk' }) :
  wpAny (model PySem.Challenge.rw_rw0047_01.prog w) (ktrTop dp un gd cn sc L a' ccd cl outer) (call (.ref 121) [Value.str a ta]) Q E s := by
  revert X; k_fill; intro X
  refine wpAny_call ?_
  k_dflt cell_enter
  k_steps
  all_goals exact q_of (hret _ _ _ (by assumption) (by assumption)) (join_dbl _)
end
section
theorem rows_L1small1_5 : True := by
  k_with "eval ListComp" => (k_here; (rename Fr _ _ _ _ => lF9Row); (rename News _ _ _ _ => lN9Row); (with_unfolding_all refine' comp_signs escC ?h1 ?h2 ?h3 ?h4 ?h5 ?h6 lF9Row lN9Row ?h7 ?h8 ?_ ?_ ?h9); (case h1 => with_unfolding_all rfl); (case h2 => with_unfolding_all decide); (case h3 => with_unfolding_all decide); (case h4 => with_unfolding_all rfl); (case h5 => with_unfolding_all decide); (case h6 => with_unfolding_all rfl); (case h8 => (intro Q9Row hqRow; with_unfolding_all exact ld lF9Row (by with_unfolding_all rfl) hqRow)); (case h7 => (rw [sizeLine_eq]; omega)); (case h9 => (intro _; with_unfolding_all rfl)); all_goals intros)
  k_with "call builtin:str.join" => (k_here; (with_unfolding_all refine' join_listW ?h1 ?h2 ?h3 ?h4 ?_); (case h1 => assumption); (case h2 => assumption); (case h3 => decide); (case h4 => exact Nat.le_trans (sum_le2 escC_len _) (by rw [cs_len]; omega)); intro _ _)
  k_with "And" => (with_unfolding_all refine' leaf_str (fun _ _ eRow => eRow) ?_; first | exact esc1 (by assumption) | exact esc2 (by assumption))
  trivial
theorem escaped_walk (w : World) (news : CbLed) (loose : List Str) (mean : ExcName → Option Value) (mg mb : Str → Option Value) (p : Program) (a : Str) (ta : CbTok) (ha : a.length ≤ 1000)
  (dp un : Nat) (gd : Option (List Code)) (cn : Str) (sc : Scope) (a' : CbAddr) (ccd : CbVal) (cl : List (Str × CbAddr)) (outer : List Env) (A₀ : Around) (base h₀ : Heap) (L : CbAddr) (mm : Str → Option Value) (s : Shared)
  (Q E : Value → Shared → Prop)
  (B : Below A₀ base outer h₀) (F : Fr h₀ L s.heap mm) (X : (Mine.hd.heap_39 w.params).In h₀) (N : News h₀ L s.heap news) (T : Top p loose mean mg mb h₀) (hk : sc.kind = .function) (hdp : dp + 150 < recursionLimit) (hun : un + 800 < cLine)
  (hret : ∀ t h' tk', Fr h₀ L h' mm → News h₀ L h' news → Q (.str (escS a) t) { s with heap := h', toks := tk' }) :
  wpAny (model PySem.Challenge.rw_rw0047_01.prog w) (ktrTop dp un gd cn sc L a' ccd cl outer) (call (.ref 126) [Value.str a ta]) Q E s := by
  revert X; k_fill; intro X
  refine wpAny_call ?_
  k_dflt cell_enter
  k_steps
  all_goals exact q_of (hret _ _ _ (by assumption) (by assumption)) (join_esc _)
end
end
section
theorem calm_L1p257 : True ∧ True := by
  w_top off
  k_with_none
  first
    | (walk1; fail)
    | exact ⟨trivial, trivial⟩
noncomputable def p257go : List Nat → List Nat
 | [] => []
 | [c] => if c = 34 then [] else [c]
 | c :: d :: r => if c = 34 then (if d = 34 then 34 :: p257go r else []) else c :: p257go (d :: r)
theorem go_other {c : Nat} {r : List Nat} (h : c ≠ 34) : p257go (c :: r) = c :: p257go r := by
  cases r with
  | nil => simp [p257go, h]
  | cons d r => rw [p257go, if_neg h]
theorem go_qq (r : List Nat) : p257go (34 :: 34 :: r) = 34 :: p257go r := by simp [p257go]
theorem go_q {d : Nat} (r : List Nat) (h : d ≠ 34) : p257go (34 :: d :: r) = [] := by simp [p257go, h]
/-- the name that a reply tells -/
noncomputable def p257 (resp : Str) : Str := ⟨(p257go ((cs resp).drop 5)).toArray⟩
noncomputable def p257J (resp : Str) (i : Int) (d : Str) : Prop := cs d ++ p257go ((cs resp).drop i.toNat) = p257go ((cs resp).drop 5)
theorem p257_eq {resp d : Str} {i : Int} (h : p257J resp i d) (e : p257go ((cs resp).drop i.toNat) = []) : d = p257 resp := by
  apply str_ext
  unfold p257J at h
  rw [e, List.append_nil] at h
  rw [h]
  simp [p257, cs]
theorem one_eq {x : Str} {i : Int} {c : Nat} (h0 : 0 ≤ i) (h1 : i < x.length) (h : (Txt.item x i == ⟨#[c]⟩) = true) : (cs x).drop i.toNat = c :: (cs x).drop (i + 1).toNat := by
  rw [item_cs h0 h1] at h
  have h := beq_iff_eq.mp h
  have e : (cs x).getD i.toNat 0 = c := by injection h with h; simpa using h
  rw [drop_one (by rw [cs_len]; omega), e]
  congr 2
  omega
theorem one_ne {x : Str} {i : Int} {c : Nat} (h0 : 0 ≤ i) (h1 : i < x.length) (h : (Txt.item x i == ⟨#[c]⟩) = false) : (cs x).drop i.toNat = (cs x).getD i.toNat 0 :: (cs x).drop (i + 1).toNat ∧ (cs x).getD i.toNat 0 ≠ c := by
  rw [item_cs h0 h1] at h
  have h : ¬ (⟨#[(cs x).getD i.toNat 0]⟩ : Str) = ⟨#[c]⟩ := by simpa using h
  refine ⟨?_, fun e => h (by rw [e])⟩
  rw [drop_one (by rw [cs_len]; omega)]
  congr 2
  omega
theorem p257_start {resp : Str} (h3 : ((cs resp).take 5) = [50,53,55,32,34]) :  5 ≤ (5:Int) ∧ (5:Int) ≤ resp.length ∧ ((Str.ofString "").length : Int) ≤ 5 ∧ p257J resp 5 (Str.ofString "") := by
  have := congrArg List.length h3
  rw [List.length_take, cs_len] at this
  have h5 : [50,53,55,32,34].length = 5 := rfl
  rw [h5] at this
  refine ⟨by omega, by omega, by decide, rfl⟩
theorem p257_ha {resp : Str} (h3 : ((cs resp).take 5) = [50,53,55,32,34]) : (Txt.slice resp none (some 3) != Str.ofString "257") = false := by
  have hl := (p257_start h3).2.1
  have e : Txt.slice resp none (some 3) = Str.ofString "257" := by
    apply str_ext
    rw [slice_to (by omega) (by omega)]
    have : (cs resp).take 3 = ((cs resp).take 5).take 3 := by rw [List.take_take]; rfl
    show (cs resp).take 3 = _
    rw [this, h3]
    decide +kernel
  rw [e]
  simp
theorem p257_hb {resp : Str} (h3 : ((cs resp).take 5) = [50,53,55,32,34]) : (Txt.slice resp (some 3) (some 5) != Str.ofString " \"") = false := by
  have hl := (p257_start h3).2.1
  have e : Txt.slice resp (some 3) (some 5) = Str.ofString " \"" := by
    rw [beq_iff_eq.mp (slice_closesL (x := resp) (i := 3) (j := 5) (by omega) (by omega) (by omega))]
    have : ((cs resp).drop 3).take 2 = ((cs resp).take 5).drop 3 := by rw [List.drop_take]
    show (⟨(((cs resp).drop 3).take 2).toArray⟩ : Str) = _
    rw [this, h3]
    decide +kernel
  rw [e]
  simp
theorem p257_t1 {resp d : Str} {i : Int} (h5 : 5 ≤ i) (hl : (d.length : Int) ≤ i) (hJ : p257J resp i d) (h1 : i < resp.length) (hq : (Txt.item resp i == Str.ofString "\"") = true) (h2 : ¬ (resp.length : Int) ≤ i + 1) (hq2 : (Txt.item resp (i + 1) != Str.ofString "\"") = false) :
    5 ≤ i + 1 + 1 ∧ i + 1 + 1 ≤ (resp.length : Int) ∧ ((d ++ Txt.item resp i).length : Int) ≤ i + 1 + 1 ∧ p257J resp (i + 1 + 1) (d ++ Txt.item resp i) := by
  rw [str_q] at hq hq2
  have hq2 : (Txt.item resp (i + 1) == ⟨#[34]⟩) = true := by simpa using hq2
  have e1 := one_eq (by omega) h1 hq
  have e2 := one_eq (by omega) (by omega) hq2
  have ei : Txt.item resp i = ⟨#[34]⟩ := beq_iff_eq.mp hq
  refine ⟨by omega, by omega, ?_, ?_⟩
  · rw [ei, Str.length_append]; show ((d.length + 1 : Nat) : Int) ≤ _; omega
  · unfold p257J at hJ ⊢
    rw [e1, e2, go_qq] at hJ
    rw [cs_append, ei, ← hJ]
    simp [cs]
theorem p257_t2 {resp d : Str} {i : Int} (h5 : 5 ≤ i) (hl : (d.length : Int) ≤ i) (hJ : p257J resp i d) (h1 : i < resp.length) (hq : (Txt.item resp i == Str.ofString "\"") = false) :
    5 ≤ i + 1 ∧ i + 1 ≤ (resp.length : Int) ∧ ((d ++ Txt.item resp i).length : Int) ≤ i + 1 ∧ p257J resp (i + 1) (d ++ Txt.item resp i) := by
  rw [str_q] at hq
  obtain ⟨e1, e2⟩ := one_ne (by omega) h1 hq
  have ei : Txt.item resp i = ⟨#[(cs resp).getD i.toNat 0]⟩ := item_cs (by omega) h1
  refine ⟨by omega, by omega, ?_, ?_⟩
  · rw [ei, Str.length_append]; show ((d.length + 1 : Nat) : Int) ≤ _; omega
  · unfold p257J at hJ ⊢
    rw [e1, go_other e2] at hJ
    rw [cs_append, ei, ← hJ]
    simp [cs]
theorem p257_e1 {resp d : Str} {i : Int} (h5 : 5 ≤ i) (hJ : p257J resp i d) (h1 : i < resp.length) (hq : (Txt.item resp i == Str.ofString "\"") = true) (h2 : (resp.length : Int) ≤ i + 1) : d = p257 resp := by
  rw [str_q] at hq
  refine p257_eq hJ ?_
  rw [one_eq (by omega) h1 hq, List.drop_of_length_le (by rw [cs_len]; omega)]
  rfl
theorem p257_e2 {resp d : Str} {i : Int} (h5 : 5 ≤ i) (hJ : p257J resp i d) (h1 : i < resp.length) (hq : (Txt.item resp i == Str.ofString "\"") = true) (h2 : ¬ (resp.length : Int) ≤ i + 1) (hq2 : (Txt.item resp (i + 1) != Str.ofString "\"") = true) : d = p257 resp := by
  rw [str_q] at hq hq2
  have hq2 : (Txt.item resp (i + 1) == ⟨#[34]⟩) = false := by simpa using hq2
  obtain ⟨e1, e2⟩ := one_ne (by omega) (by omega) hq2
  refine p257_eq hJ ?_
  rw [one_eq (by omega) h1 hq, e1, go_q _ e2]
theorem p257_e3 {resp d : Str} {i : Int} (hJ : p257J resp i d) (h1 : ¬ i < resp.length) : d = p257 resp := by
  refine p257_eq hJ ?_
  rw [List.drop_of_length_le (by rw [cs_len]; omega)]
  rfl
theorem p257_walk (w : World) (news : CbLed) (loose : List Str) (mean : ExcName → Option Value) (mg mb : Str → Option Value) (p : Program) (resp : Str) (ta : CbTok) (hlen : resp.length ≤ 1000) (h3 : ((cs resp).take 5) = [50,53,55,32,34])
  (dp un : Nat) (gd : Option (List Code)) (cn : Str) (sc : Scope) (a' : CbAddr) (ccd : CbVal) (cl : List (Str × CbAddr)) (outer : List Env) (A₀ : Around) (base h₀ : Heap) (L : CbAddr) (mm : Str → Option Value) (s : Shared)
  (Q E : Value → Shared → Prop)
  (B : Below A₀ base outer h₀) (F : Fr h₀ L s.heap mm) (X : (Mine.hd.heap_39 w.params).In h₀) (N : News h₀ L s.heap news) (T : Top p loose mean mg mb h₀) (hk : sc.kind = .function) (hdp : dp + 150 < recursionLimit) (hun : un + 800 < cLine)
  (hret : ∀ t h' tk', Fr h₀ L h' mm → News h₀ L h' news → Q (.str (p257 resp) t) { s with heap := h', toks := tk' }) :
  wpAny (model PySem.Challenge.rw_rw0047_01.prog w) (ktrTop dp un gd cn sc L a' ccd cl outer) (call (.ref 53) [Value.str resp ta]) Q E s := by
  revert X; k_fill; intro X
  have ha := p257_ha h3
  have hb := p257_hb h3
  refine wpAny_call ?_
  k_dflt cell_enter
  k_with "exec While Compare cons nil" => k_while (fun _ i d => 5 ≤ i ∧ i ≤ resp.length ∧ d.length ≤ i ∧ p257J resp i d) (fun _ i _ => (resp.length - i).toNat) "i" "dirname"
  k_with "state" => first | exact p257_start (by assumption) | exact p257_t1 (by assumption) (by assumption) (by assumption) (by assumption) (by assumption) (by assumption) (by assumption) | exact p257_t2 (by assumption) (by assumption) (by assumption) (by assumption) (by assumption)
  k_steps
  all_goals first
    | exact q_of (hret _ _ _ (by assumption) (by assumption)) (p257_e1 (by assumption) (by assumption) (by assumption) (by assumption) (by assumption))
    | exact q_of (hret _ _ _ (by assumption) (by assumption)) (p257_e2 (by assumption) (by assumption) (by assumption) (by assumption) (by assumption) (by assumption))
    | exact q_of (hret _ _ _ (by assumption) (by assumption)) (p257_e3 (by assumption) (by assumption))
end
section
theorem calm_L1small2 : True ∧ True := by
  w_top off
  k_with_none
  first
    | (walk1; fail)
    | exact ⟨trivial, trivial⟩
/-- what the lexer tells of a doubled word -/
noncomputable def tdgo : List Nat → List Nat
  | [] => []
  | [c] => if c = 34 then [] else if c = 92 then [34] else [c]
  | c :: d :: r => if c = 34 then [] else if c = 92 then (if d = 34 then [34] else d :: tdgo r) else c :: tdgo (d :: r)
noncomputable def tokD (x : Str) : Str := ⟨(tdgo (cs x)).toArray⟩
theorem td_q (r : List Nat) : tdgo (34 :: r) = [] := by cases r <;> simp [tdgo]
theorem td_o {c : Nat} (r : List Nat) (h : c ≠ 34) (h2 : c ≠ 92) : tdgo (c :: r) = c :: tdgo r := by cases r <;> simp [tdgo, h, h2]
theorem td_b {d : Nat} (r : List Nat) (h : d ≠ 34) : tdgo (92 :: d :: r) = d :: tdgo r := by simp [tdgo, h]
theorem td_bq (r : List Nat) : tdgo (92 :: 34 :: r) = [34] := by simp [tdgo]
theorem td_be : tdgo [92] = [34] := by simp [tdgo]
noncomputable def tdJ (x : Str) (i : Int) (t : Str) : Prop := cs t ++ tdgo ((cs x).drop i.toNat) = tdgo (cs x)
theorem td_start (x : Str) : (0:Int) ≤ 0 ∧ (0:Int) ≤ x.length ∧ ((Str.ofString "").length : Int) ≤ 0 ∧ tdJ x 0 (Str.ofString "") := ⟨by omega, by omega, by decide, rfl⟩
theorem td_eq {x t : Str} (h : cs t = tdgo (cs x)) : t = tokD x := by apply str_ext; rw [h]; simp [tokD, cs]
theorem td_e1 {x t : Str} {i : Int} (h0 : 0 ≤ i) (hJ : tdJ x i t) (h1 : i < x.length) (hq : (Txt.item x i == Str.ofString "\"") = true) : t = tokD x := by
  rw [str_q] at hq
  refine td_eq ?_
  unfold tdJ at hJ
  rw [one_eq h0 h1 hq, td_q, List.append_nil] at hJ
  exact hJ
theorem td_e2 {x t : Str} {i : Int} (h0 : 0 ≤ i) (hJ : tdJ x i t) (h1 : i < x.length) (hb : (Txt.item x i == Str.ofString "\\") = true) (h2 : i + 1 < x.length) (hq : (Txt.item (t ++ Txt.item x (i + 1)) (-1) == Str.ofString "\"") = true) : t ++ Txt.item x (i + 1) = tokD x := by
  rw [str_b] at hb
  rw [str_q, item_cs (x := x) (i := i + 1) (by omega) h2, item_last_right1] at hq
  have hq : (Txt.item x (i + 1) == ⟨#[34]⟩) = true := by rw [item_cs (by omega) h2]; exact hq
  refine td_eq ?_
  unfold tdJ at hJ
  rw [one_eq h0 h1 hb, one_eq (by omega) h2 hq, td_bq] at hJ
  rw [cs_append, ← hJ, beq_iff_eq.mp hq]
  rfl
theorem td_e3 {x t : Str} {i : Int} (h0 : 0 ≤ i) (hJ : tdJ x i t) (h1 : i < x.length) (hb : (Txt.item x i == Str.ofString "\\") = true) (h2 : ¬ i + 1 < x.length) : t ++ Str.ofString "\"" = tokD x := by
  rw [str_b] at hb
  refine td_eq ?_
  unfold tdJ at hJ
  rw [one_eq h0 h1 hb, List.drop_of_length_le (by rw [cs_len]; omega), td_be] at hJ
  rw [cs_append, ← hJ, str_q]
  rfl
theorem td_e4 {x t : Str} {i : Int} (hJ : tdJ x i t) (h1 : ¬ i < x.length) : t = tokD x := by
  refine td_eq ?_
  unfold tdJ at hJ
  rw [List.drop_of_length_le (by rw [cs_len]; omega)] at hJ
  rw [← hJ]
  simp [tdgo]
theorem td_no {t : Str} (h : (Txt.item (t ++ Str.ofString "\"") (-1) == Str.ofString "\"") = false) : False := by
  rw [str_q, item_last_right1] at h
  simp at h
theorem td_t1 {x t : Str} {i : Int} (h0 : 0 ≤ i) (hl : (t.length : Int) ≤ i) (hJ : tdJ x i t) (h1 : i < x.length) (hb : (Txt.item x i == Str.ofString "\\") = true) (h2 : i + 1 < x.length) (hq : (Txt.item (t ++ Txt.item x (i + 1)) (-1) == Str.ofString "\"") = false) :
    0 ≤ i + 1 + 1 ∧ i + 1 + 1 ≤ (x.length : Int) ∧ ((t ++ Txt.item x (i + 1)).length : Int) ≤ i + 1 + 1 ∧ tdJ x (i + 1 + 1) (t ++ Txt.item x (i + 1)) := by
  rw [str_b] at hb
  rw [str_q, item_cs (x := x) (i := i + 1) (by omega) h2, item_last_right1] at hq
  have hq : (Txt.item x (i + 1) == ⟨#[34]⟩) = false := by rw [item_cs (by omega) h2]; exact hq
  obtain ⟨e1, e2⟩ := one_ne (by omega) h2 hq
  have ei : Txt.item x (i + 1) = ⟨#[(cs x).getD (i + 1).toNat 0]⟩ := item_cs (by omega) h2
  refine ⟨by omega, by omega, ?_, ?_⟩
  · rw [ei, Str.length_append]; show ((t.length + 1 : Nat) : Int) ≤ _; omega
  · unfold tdJ at hJ ⊢
    rw [one_eq h0 h1 hb, e1, td_b _ e2] at hJ
    rw [cs_append, ei, ← hJ]
    simp [cs]
theorem td_t2 {x t : Str} {i : Int} (h0 : 0 ≤ i) (hl : (t.length : Int) ≤ i) (hJ : tdJ x i t) (h1 : i < x.length) (hq : (Txt.item x i == Str.ofString "\"") = false) (hb : (Txt.item x i == Str.ofString "\\") = false) :
    0 ≤ i + 1 ∧ i + 1 ≤ (x.length : Int) ∧ ((t ++ Txt.item x i).length : Int) ≤ i + 1 ∧ tdJ x (i + 1) (t ++ Txt.item x i) := by
  rw [str_q] at hq
  rw [str_b] at hb
  obtain ⟨e1, e2⟩ := one_ne h0 h1 hq
  obtain ⟨_, e3⟩ := one_ne h0 h1 hb
  have ei : Txt.item x i = ⟨#[(cs x).getD i.toNat 0]⟩ := item_cs h0 h1
  refine ⟨by omega, by omega, ?_, ?_⟩
  · rw [ei, Str.length_append]; show ((t.length + 1 : Nat) : Int) ≤ _; omega
  · unfold tdJ at hJ ⊢
    rw [e1, td_o _ e2 e3] at hJ
    rw [cs_append, ei, ← hJ]
    simp [cs]
theorem tokofd_walk (w : World) (news : CbLed) (loose : List Str) (mean : ExcName → Option Value) (mg mb : Str → Option Value) (p : Program) (a : Str) (ta : CbTok) (ha : a.length ≤ 1000)
  (dp un : Nat) (gd : Option (List Code)) (cn : Str) (sc : Scope) (a' : CbAddr) (ccd : CbVal) (cl : List (Str × CbAddr)) (outer : List Env) (A₀ : Around) (base h₀ : Heap) (L : CbAddr) (mm : Str → Option Value) (s : Shared)
  (Q E : Value → Shared → Prop)
  (B : Below A₀ base outer h₀) (F : Fr h₀ L s.heap mm) (X : (Mine.hd.heap_39 w.params).In h₀) (N : News h₀ L s.heap news) (T : Top p loose mean mg mb h₀) (hk : sc.kind = .function) (hdp : dp + 150 < recursionLimit) (hun : un + 800 < cLine)
  (hret : ∀ t h' tk', Fr h₀ L h' mm → News h₀ L h' news → Q (.str (tokD a) t) { s with heap := h', toks := tk' }) :
  wpAny (model PySem.Challenge.rw_rw0047_01.prog w) (ktrTop dp un gd cn sc L a' ccd cl outer) (call (.ref 133) [Value.str a ta]) Q E s := by
  revert X; k_fill; intro X
  refine wpAny_call ?_
  k_dflt cell_enter
  k_with "exec While Compare cons nil" => k_while (fun _ i d => 0 ≤ i ∧ i ≤ a.length ∧ d.length ≤ i ∧ tdJ a i d) (fun _ i _ => (a.length - i).toNat) "place" "told"
  k_with "state" => first | exact td_start _ | exact td_t1 (by assumption) (by assumption) (by assumption) (by assumption) (by assumption) (by assumption) (by assumption) | exact td_t2 (by assumption) (by assumption) (by assumption) (by assumption) (by assumption) (by assumption) | exact (td_no (by assumption)).elim
  k_steps
  all_goals first
    | exact q_of (hret _ _ _ (by assumption) (by assumption)) (td_e4 (by assumption) (by assumption))
    | exact q_of (hret _ _ _ (by assumption) (by assumption)) (td_e1 (by assumption) (by assumption) (by assumption) (by assumption))
    | exact q_of (hret _ _ _ (by assumption) (by assumption)) (td_e2 (by assumption) (by assumption) (by assumption) (by assumption) (by assumption) (by assumption))
    | exact q_of (hret _ _ _ (by assumption) (by assumption)) (td_e3 (by assumption) (by assumption) (by assumption) (by assumption) (by assumption))
    | exact (td_no (by assumption)).elim
end
section
theorem calm_L1small3 : True ∧ True := by
  w_top off
  k_with_none
  first
    | (walk1; fail)
    | exact ⟨trivial, trivial⟩
theorem takeWhile_of {l : List Nat} {c : Nat} : ∀ {i : Nat}, l[i]? = some c → (∀ k, k < i → l[k]? ≠ some c) → l.takeWhile (· != c) = l.take i := by
  induction l with
  | nil => intro i h _; simp at h
  | cons x l ih =>
    intro i h hn
    cases i with
    | zero =>
      have : x = c := by simpa using h
      rw [List.takeWhile_cons_of_neg (by simp [this])]
      rfl
    | succ i =>
      have hx : x ≠ c := by have := hn 0 (by omega); simpa using this
      rw [List.takeWhile_cons_of_pos (by simp [hx]), List.take_succ_cons, ih (i := i) (by simpa using h) fun k hk => by simpa using hn (k + 1) (by omega)]
theorem find_cut {x : Str} (h : 34 ∈ cs x) : cs (Txt.slice x none (some (Txt.find x (Str.ofString "\"")))) = (cs x).takeWhile (· != 34) := by
  rw [str_q]
  rcases find_whole x ⟨#[34]⟩ with ⟨_, hn⟩ | ⟨i, e, hi, hn⟩
  · obtain ⟨i, hi⟩ := List.mem_iff_getElem?.mp h
    exact absurd ((StrLaws.subAt_one x 34 i).mpr (by rw [← hi, cs, Array.getElem?_toList])) (hn i)
  · have hi' : (cs x)[i]? = some 34 := by have := (StrLaws.subAt_one x 34 i).mp hi; exact this
    have hlt : i < x.length := by
      have := List.getElem?_eq_some_iff.mp hi'
      obtain ⟨h, _⟩ := this
      rwa [cs_len] at h
    rw [e, slice_to (by omega) (by omega), takeWhile_of hi' fun k hk hk2 => hn k hk ((StrLaws.subAt_one x 34 k).mpr (by rw [← hk2, cs, Array.getElem?_toList]))]
    rfl
/-- what a reply 257 tells of an escaped word -/
noncomputable def nameE (x : Str) : Str := if 34 ∈ (cs x).dropLast then escS ⟨((cs x).takeWhile (· != 34)).toArray⟩ ++ ⟨#[92]⟩ else escS x
theorem last_cut {x : Str} (h : 0 < x.length) : cs (Txt.slice x none (some (-1))) = (cs x).dropLast := by
  rw [slice_to_neg (by omega) (by omega), List.dropLast_eq_take]
  congr 1
  rw [cs_len]; omega
theorem ne_1 {x : Str} (h0 : 0 < x.length) (h : ((Builtin.Str.occurrences (Txt.slice x none (some (-1))) (Str.ofString "\"") 0 (Txt.slice x none (some (-1))).length 1).isEmpty) = true) : escS x = nameE x := by
  rw [str_q] at h
  have h := congrArg (! ·) h
  rw [StrLaws.found_one, Bool.not_true, decide_eq_false_iff_not] at h
  have h : ¬ 34 ∈ cs (Txt.slice x none (some (-1))) := h
  rw [last_cut h0] at h
  unfold nameE
  rw [if_neg h]
theorem ne_2 {x : Str} (h0 : 0 < x.length) (h : ((Builtin.Str.occurrences (Txt.slice x none (some (-1))) (Str.ofString "\"") 0 (Txt.slice x none (some (-1))).length 1).isEmpty) = false) :
    escS (Txt.slice x none (some (Txt.find x (Str.ofString "\"")))) ++ Str.ofString "\\" = nameE x := by
  rw [str_q] at h
  have h := congrArg (! ·) h
  rw [StrLaws.found_one, Bool.not_false, decide_eq_true_eq] at h
  have h : 34 ∈ cs (Txt.slice x none (some (-1))) := h
  rw [last_cut h0] at h
  unfold nameE
  rw [if_pos h, str_b]
  congr 2
  apply str_ext
  rw [find_cut (List.dropLast_subset _ h)]
  simp [cs]
theorem escS_len (x : Str) : (escS x).length ≤ 2 * x.length := by
  rw [← cs_len, ← cs_len]
  show ((cs x).flatMap fun c => cs (escC c)).toArray.toList.length ≤ _
  rw [List.toList_toArray]
  generalize cs x = l
  induction l with
  | nil => simp
  | cons c l ih =>
    have := escC_len c
    rw [← cs_len] at this
    simp only [List.flatMap_cons, List.length_append, List.length_cons]
    omega
theorem escS_add {x y : Str} (h : x.length ≤ 1000) (hy : y.length ≤ 1000) : (escS x).length + y.length ≤ sizeLine := by
  have := escS_len x
  rw [sizeLine_eq]
  omega
theorem rows_L1small3_6 : True := by
  k_with "binaryOp Add str str" => (k_here; (with_unfolding_all refine' SBL.add ?_ ?h2); (case h2 => exact escS_add (by omega) (by decide)); intros)
  k_with "call ref" => (k_here; (with_unfolding_all refine' escaped_walk _ _ _ _ _ _ _ _ _ ?p0 _ _ _ _ _ _ _ _ _ _ _ _ _ _ _ _ _ ?k1 ?k2 ?k3 ?k4 ?k5 ?k6 ?k7 ?k8 ?_); (case k2 => k_asm); (case k4 => k_asm); (case k1 => k_asm); (case k3 => k_asm); (case k5 => k_asm); (case k6 => with_unfolding_all rfl); (case k7 => ktr_room); (case k8 => ktr_units); (case p0 => (first | omega | exact Nat.le_trans (by assumption) (by assumption))); intros)
  trivial
theorem nameofe_walk (w : World) (news : CbLed) (loose : List Str) (mean : ExcName → Option Value) (mg mb : Str → Option Value) (p : Program) (a : Str) (ta : CbTok) (h0 : 0 < a.length) (ha : a.length ≤ 1000)
  (dp un : Nat) (gd : Option (List Code)) (cn : Str) (sc : Scope) (a' : CbAddr) (ccd : CbVal) (cl : List (Str × CbAddr)) (outer : List Env) (A₀ : Around) (base h₀ : Heap) (L : CbAddr) (mm : Str → Option Value) (s : Shared)
  (Q E : Value → Shared → Prop)
  (B : Below A₀ base outer h₀) (F : Fr h₀ L s.heap mm) (X : (Mine.hd.heap_39 w.params).In h₀) (N : News h₀ L s.heap news) (T : Top p loose mean mg mb h₀) (hk : sc.kind = .function) (hdp : dp + 200 < recursionLimit) (hun : un + 1000 < cLine)
  (hret : ∀ t h' tk', Fr h₀ L h' mm → News h₀ L h' news → Q (.str (nameE a) t) { s with heap := h', toks := tk' }) :
  wpAny (model PySem.Challenge.rw_rw0047_01.prog w) (ktrTop dp un gd cn sc L a' ccd cl outer) (call (.ref 140) [Value.str a ta]) Q E s := by
  revert X; k_fill; intro X
  refine wpAny_call ?_
  k_dflt cell_enter
  k_steps
  all_goals first
    | exact q_of (hret _ _ _ (by assumption) (by assumption)) (ne_1 (by assumption) (by assumption))
    | exact q_of (hret _ _ _ (by assumption) (by assumption)) (ne_2 (by assumption) (by assumption))
end
section
theorem calm_L1lx : True ∧ True := by
  w_top off
  k_with_none
  first
    | (walk1; fail)
    | exact ⟨trivial, trivial⟩
noncomputable def lamOf : List Stmt → Option (Arguments × PySem.Expr × Scope)
  | _ :: _ :: (.Assign _ (.Lambda ps b sc _) _) :: _ => some (ps, b, sc)
  | _ => none
noncomputable def lamP : {l : Arguments // ((lamOf (fnBody (fnOfName (Str.ofString "_law_lexer") PySem.Challenge.rw_rw0047_01.prog.main.body))).map (·.1)).getD default = l} := by
  apply Subtype.mk
  conv => lhs; whnf
noncomputable def lamB : {l : PySem.Expr // ((lamOf (fnBody (fnOfName (Str.ofString "_law_lexer") PySem.Challenge.rw_rw0047_01.prog.main.body))).map (·.2.1)).getD default = l} := by
  apply Subtype.mk
  conv => lhs; whnf
noncomputable def lamS : {l : Scope // ((lamOf (fnBody (fnOfName (Str.ofString "_law_lexer") PySem.Challenge.rw_rw0047_01.prog.main.body))).map (·.2.2)).getD default = l} := by
  apply Subtype.mk
  conv => lhs; whnf
noncomputable abbrev ent (w : World) (k : Str) (t : Nat) (v : Value) : DictEntry := { hash := PyData.keyHash w.params k, key := .str k t, val := v }
/-- the places of a lexer and of what it reads from -/
structure Lx where
  (x dx pb f df pb2 fn cc cl ce : Nat)
  (k1 k2 k3 k4 tw j1 j2 j3 j4 j5 jl jw : Nat)
  (ctv pm : Value)
  (ql : Str)
  (oc oce : Obj)
noncomputable abbrev Lx.led (w : World) (z : Lx) (us : List Value) (c : Nat) (ln : Int) (tl : Nat) (pbs : List Value) (np : Nat) : List (Addr × Obj) :=
  [(z.pb, listOf (List.toArray pbs) np), (z.x, instObj 91 z.dx),
   (z.dx, dictOf [ent w (Str.ofString "lineno") z.k1 (.int ln tl), ent w (Str.ofString "instream") z.k2 (.ref z.f), ent w (Str.ofString "whitespace") z.k3 (.str (Str.ofString "\n\t\x0d ") z.tw), ent w (Str.ofString "pushback") z.k4 (.ref z.pb)] 4),
   (z.fn, kla_obj (Str.ofString "<lambda>") z.ql lamP.1 lamB.1 lamS.1 [(Str.ofString "cells", z.ce)] z.pm z.cc z.ctv), (z.cc, z.oc), (z.pb2, listOf (List.toArray []) 0), (z.f, instObj 91 z.df),
   (z.df, dictOf [ent w (Str.ofString "lineno") z.j1 (.int 1 z.jl), ent w (Str.ofString "instream") z.j2 .none, ent w (Str.ofString "whitespace") z.j3 (.str (Str.ofString "\n\t\x0d ") z.jw), ent w (Str.ofString "pushback") z.j4 (.ref z.pb2), ent w (Str.ofString "read") z.j5 (.ref z.fn)] 5),
   (z.cl, listOf (List.toArray us) c), (z.ce, z.oce)]
structure Lx.Ok (z : Lx) (own : CbLed) : Prop where
  o0 : AllLt z.ce own
  o1 : z.ce < z.cl
  o2 : z.cl < z.df
  o3 : z.df < z.f
  o4 : z.f < z.pb2
  o5 : z.pb2 < z.fn
  o6 : z.cc < z.ce ∨ (z.pb2 < z.cc ∧ z.cc < z.fn)
  o7 : z.fn < z.dx
  o8 : z.dx < z.x
  o9 : z.x < z.pb
  cell : z.oce.data = .cell (some (.ref z.cl))
  code : ∃ vs t, z.oc.data = .fields vs ∧ vs[1]? = some (.str z.ql t)
theorem allLt_up {d e : Nat} (h : d ≤ e) {l : CbLed} (x : AllLt d l) : AllLt e l := allLt_of fun p hp => Nat.lt_of_lt_of_le (kst_ltOf x p hp) h
section
variable {prog : Program} {w : World} {A : Around} {E : Value → Shared → Prop} {s : Shared} {h₀ : Heap} {L D : Addr} {m : Str → Option Value} {news news' : List (Addr × Obj)} {n : Nat}
theorem truthy_cons {y : Value} {us : List Value} {Q : Bool → Shared → Prop} (N : News h₀ L s.heap news) (hm : (D, listOf (List.toArray (y :: us)) n) ∈ news) (hz : us.length ≤ 1000) (h : Q true { s with toks := s.toks + 1 + 1 }) :
    wpAny (model prog w) A (truthy (.ref D)) Q E s := by
  have hl : s.heap.IsList D (List.toArray (y :: us)) := ⟨_, (N _ hm).1, rfl, n, rfl⟩
  refine wpAny_truthy_list hl (by rw [List.size_toArray, List.length_cons]; omega) ?_
  have e : (!(List.toArray (y :: us)).isEmpty) = true := by simp
  rw [e]
  exact h
theorem truthy_nil {Q : Bool → Shared → Prop} (N : News h₀ L s.heap news) (hm : (D, listOf (List.toArray ([] : List Value)) n) ∈ news) (h : Q false { s with toks := s.toks + 1 + 1 }) :
    wpAny (model prog w) A (truthy (.ref D)) Q E s := by
  have hl : s.heap.IsList D (List.toArray ([] : List Value)) := ⟨_, (N _ hm).1, rfl, n, rfl⟩
  exact wpAny_truthy_list hl (by decide) h
theorem pop_first {y : Value} {us : List Value} {u : Tok} {Q : Value → Shared → Prop} (F : Fr h₀ L s.heap m) (N : News h₀ L s.heap news) (U : Upd D (listOf (List.toArray (y :: us)) n) (listOf (List.toArray us) (n + 1)) news news') (hz : us.length ≤ 1000)
    (h : ∀ h', Fr h₀ L h' m → News h₀ L h' news' → Q y { s with heap := h' }) : wpAny (model prog w) A (call (.builtin "list.pop") [.ref D, .int 0 u]) Q E s := by
  refine kl_popAt (k := 0) (p := []) (q := us) F N rfl ?_ ?_ U ?_ h
  · rw [List.size_toArray, List.length_cons]; simp [seqIndex?]
  · rfl
  · rw [sizeLine_eq]; simp; omega
end
theorem rows_L1lx_7 : True := by
  k_with "truthy ref" => (k_here; (with_unfolding_all refine' truthy_cons ?h1 ?h2 ?h3 ?_); (case h1 => k_asm); (case h2 => k_mem); (case h3 => omega))
  k_with "truthy ref" => (k_here; (with_unfolding_all refine' truthy_nil ?h1 ?h2 ?_); (case h1 => k_asm); (case h2 => k_mem))
  k_with "call builtin:list.pop" => (k_here; (with_unfolding_all refine' pop_first ?h1 ?h2 ?h3 ?h4 ?_); (case h1 => k_asm); (case h2 => k_asm); (case h3 => k_upd); (case h4 => omega); intro hqRow FqRow NqRow; (try k_sweep))
  trivial
theorem str_n : Str.ofString "\n" = ⟨#[10]⟩ := by decide +kernel
theorem nl_1 {c : Nat} {ln : Int} (h : ((⟨#[c]⟩ : Str) == Str.ofString "\n") = true) : ln + 1 = if c = 10 then ln + 1 else ln := by
  rw [str_n] at h
  have h := beq_iff_eq.mp h
  have : c = 10 := by injection h with h; simpa using h
  rw [if_pos this]
theorem nl_2 {c : Nat} {ln : Int} (h : ((⟨#[c]⟩ : Str) == Str.ofString "\n") = false) : ln = if c = 10 then ln + 1 else ln := by
  rw [str_n] at h
  have h : ¬ (⟨#[c]⟩ : Str) = ⟨#[10]⟩ := by simpa using h
  have : ¬ c = 10 := fun e => h (by rw [e])
  rw [if_neg this]
theorem read_cons (w : World) (news : CbLed) (loose : List Str) (mean : ExcName → Option Value) (mg mb : Str → Option Value) (p : Program) (z : Lx) (us : List Value) (c : Nat) (u : Nat) (n : Nat) (ln : Int) (tl : Nat) (pbs : List Value) (np : Nat) (own : CbLed) (I q : Nat) (oI oq : Obj) (hq1 : z.pb < q) (hq2 : q < I) (hz : z.Ok own) (hus : us.length ≤ 1000) (kMark : KstMark)
  (dp un : Nat) (gd : Option (List Code)) (cn : Str) (sc : Scope) (a' : CbAddr) (ccd : CbVal) (cl : List (Str × CbAddr)) (outer : List Env) (A₀ : Around) (base h₀ : Heap) (L : CbAddr) (mm : Str → Option Value) (s : Shared)
  (R : Result → Shared → Prop)
  (B : Below A₀ base outer h₀) (F : Fr h₀ L s.heap mm) (X : (Mine.hd.heap_39 w.params).In h₀) (N : News h₀ L s.heap ((I, oI) :: (q, oq) :: (z.led w (.str ⟨#[c]⟩ u :: us) n ln tl pbs np ++ own))) (T : Top p loose mean mg mb h₀) (hk : sc.kind = .function) (hdp : dp + 50 < recursionLimit) (hun : un + 400 < cLine)
  (codeHd : CodeHd base 115 111)
  (hret : ∀ ln' tl' h' tk', ln' = (if c = 10 then ln + 1 else ln) → Fr h₀ L h' mm → News h₀ L h' ((I, oI) :: (q, oq) :: (z.led w us (n + 1) ln' tl' pbs np ++ own)) → R (.ok (.ret (.str ⟨#[c]⟩ u))) { s with heap := h', toks := tk' }) :
  codeAny (model PySem.Challenge.rw_rw0047_01.prog w) (ktrTop dp un gd cn sc L a' ccd cl outer) (.call (.ref 74) ⟨[.ref z.x], []⟩) R s := by
  revert X; k_fill; intro X
  obtain ⟨o0, o1, o2, o3, o4, o5, o6, o7, o8, o9, hcell, vs, tq, hc1, hc2⟩ := hz
  have q1 : AllLt z.cl own := allLt_up (by omega) o0
  have q2 : AllLt z.dx own := allLt_up (by omega) o0
  dsimp only [Lx.led, lamP, lamB, lamS] at N
  simp only [List.cons_append, List.nil_append] at N
  k_dflt cell_enter
  k_steps
  all_goals first
    | exact hret _ _ _ _ (nl_1 (by assumption)) (by assumption) (by assumption)
    | exact hret _ _ _ _ (nl_2 (by assumption)) (by assumption) (by assumption)
theorem read_nil (w : World) (news : CbLed) (loose : List Str) (mean : ExcName → Option Value) (mg mb : Str → Option Value) (p : Program) (z : Lx) (n : Nat) (ln : Int) (tl : Nat) (pbs : List Value) (np : Nat) (own : CbLed) (I q : Nat) (oI oq : Obj) (hq1 : z.pb < q) (hq2 : q < I) (hz : z.Ok own) (kMark : KstMark)
  (dp un : Nat) (gd : Option (List Code)) (cn : Str) (sc : Scope) (a' : CbAddr) (ccd : CbVal) (cl : List (Str × CbAddr)) (outer : List Env) (A₀ : Around) (base h₀ : Heap) (L : CbAddr) (mm : Str → Option Value) (s : Shared)
  (R : Result → Shared → Prop)
  (B : Below A₀ base outer h₀) (F : Fr h₀ L s.heap mm) (X : (Mine.hd.heap_39 w.params).In h₀) (N : News h₀ L s.heap ((I, oI) :: (q, oq) :: (z.led w [] n ln tl pbs np ++ own))) (T : Top p loose mean mg mb h₀) (hk : sc.kind = .function) (hdp : dp + 50 < recursionLimit) (hun : un + 400 < cLine)
  (codeHd : CodeHd base 115 111)
  (hret : ∀ t h' tk', Fr h₀ L h' mm → News h₀ L h' ((I, oI) :: (q, oq) :: (z.led w [] n ln tl pbs np ++ own)) → R (.ok (.ret (.str (Str.ofString "") t))) { s with heap := h', toks := tk' }) :
  codeAny (model PySem.Challenge.rw_rw0047_01.prog w) (ktrTop dp un gd cn sc L a' ccd cl outer) (.call (.ref 74) ⟨[.ref z.x], []⟩) R s := by
  revert X; k_fill; intro X
  obtain ⟨o0, o1, o2, o3, o4, o5, o6, o7, o8, o9, hcell, vs, tq, hc1, hc2⟩ := hz
  have q1 : AllLt z.cl own := allLt_up (by omega) o0
  have q2 : AllLt z.dx own := allLt_up (by omega) o0
  dsimp only [Lx.led, lamP, lamB, lamS] at N
  simp only [List.cons_append, List.nil_append] at N
  k_dflt cell_enter
  k_steps
  all_goals first
    | exact hret _ _ _ (by assumption) (by assumption)
end
section
theorem calm_L1gt0 : True ∧ True := by
  w_top off
  k_with_none
  first
    | (walk1; fail)
    | exact ⟨trivial, trivial⟩
noncomputable def clsOfName (n : Str) : List Stmt → List Stmt
  | [] => []
  | st :: r => match st with
    | .ClassDef m _ _ b .. => if m == n then b else clsOfName n r
    | _ => clsOfName n r
noncomputable def forBody : Stmt → List Stmt
  | .For _ _ b .. => b
  | _ => []
noncomputable def ifThen : Stmt → List Stmt
  | .If _ b _ _ => b
  | _ => []
noncomputable def ifElse : Stmt → List Stmt
  | .If _ _ b _ => b
  | _ => []
noncomputable def gtB : {l : List Stmt // fnBody (fnOfName (Str.ofString "get_token") (clsOfName (Str.ofString "_netrclex") PySem.Challenge.rw_rw0047_01.prog.main.body)) = l} := by
  apply Subtype.mk
  conv => lhs; whnf
noncomputable def gtS : {l : Scope // fnScope (fnOfName (Str.ofString "get_token") (clsOfName (Str.ofString "_netrclex") PySem.Challenge.rw_rw0047_01.prog.main.body)) = l} := by
  apply Subtype.mk
  conv => lhs; whnf
noncomputable def gtL1 : {l : Stmt // gtB.1.getD 3 default = l} := by
  apply Subtype.mk
  conv => lhs; whnf
noncomputable def gtL1b : {l : List Stmt // forBody gtL1.1 = l} := by
  apply Subtype.mk
  conv => lhs; whnf
noncomputable def gtL2 : {l : Stmt // (ifThen (gtL1b.1.getD 1 default)).getD 0 default = l} := by
  apply Subtype.mk
  conv => lhs; whnf
noncomputable def gtL3 : {l : Stmt // (ifElse (gtL1b.1.getD 1 default)).getD 2 default = l} := by
  apply Subtype.mk
  conv => lhs; whnf
noncomputable def gtL2b : {l : List Stmt // forBody gtL2.1 = l} := by
  apply Subtype.mk
  conv => lhs; whnf
noncomputable def gtL3b : {l : List Stmt // forBody gtL3.1 = l} := by
  apply Subtype.mk
  conv => lhs; whnf
/-- texts of one sign each -/
inductive SigAre : List Value → List Nat → Prop where
  | nil : SigAre [] []
  | cons (c u : Nat) {vs l} : SigAre vs l → SigAre (.str ⟨#[c]⟩ u :: vs) (c :: l)
theorem SigAre.len {vs : List Value} {l : List Nat} (h : SigAre vs l) : vs.length = l.length := by induction h <;> simp_all
noncomputable def rdc : List Nat → Str
  | [] => Str.ofString ""
  | c :: _ => ⟨#[c]⟩
noncomputable def cnt (l : List Nat) : Int := (l.count 10 : Nat)
theorem cnt_cons (c : Nat) (l : List Nat) : cnt (c :: l) = (if c = 10 then 1 else 0) + cnt l := by
  unfold cnt
  rw [List.count_cons]
  by_cases h : c = 10
  · subst h; simp; omega
  · simp [h]
theorem read_any (w : World) (news : CbLed) (loose : List Str) (mean : ExcName → Option Value) (mg mb : Str → Option Value) (p : Program) (z : Lx) (us : List Value) (l : List Nat) (n : Nat) (ln : Int) (tl : Nat) (pbs : List Value) (np : Nat) (own : CbLed) (I q : Nat) (oI oq : Obj) (hq1 : z.pb < q) (hq2 : q < I) (hz : z.Ok own) (hs : SigAre us l) (hus : l.length ≤ 1000) (kMark : KstMark)
  (dp un : Nat) (gd : Option (List Code)) (cn : Str) (sc : Scope) (a' : CbAddr) (ccd : CbVal) (cl : List (Str × CbAddr)) (outer : List Env) (A₀ : Around) (base h₀ : Heap) (L : CbAddr) (mm : Str → Option Value) (s : Shared)
  (R : Result → Shared → Prop)
  (B : Below A₀ base outer h₀) (F : Fr h₀ L s.heap mm) (X : (Mine.hd.heap_39 w.params).In h₀) (N : News h₀ L s.heap ((I, oI) :: (q, oq) :: (z.led w us n ln tl pbs np ++ own))) (T : Top p loose mean mg mb h₀) (hk : sc.kind = .function) (hdp : dp + 50 < recursionLimit) (hun : un + 400 < cLine)
  (codeHd : CodeHd base 115 111)
  (hret : ∀ t us' n' ln' tl' h' tk', SigAre us' l.tail → ln' + cnt l.tail = ln + cnt l → Fr h₀ L h' mm → News h₀ L h' ((I, oI) :: (q, oq) :: (z.led w us' n' ln' tl' pbs np ++ own)) → R (.ok (.ret (.str (rdc l) t))) { s with heap := h', toks := tk' }) :
  codeAny (model PySem.Challenge.rw_rw0047_01.prog w) (ktrTop dp un gd cn sc L a' ccd cl outer) (.call (.ref 74) ⟨[.ref z.x], []⟩) R s := by
  cases hs with
  | nil => exact read_nil w news loose mean mg mb p z n ln tl pbs np own I q oI oq hq1 hq2 hz kMark dp un gd cn sc a' ccd cl outer A₀ base h₀ L mm s R B F X N T hk hdp hun codeHd fun t h' tk' F' N' => hret t [] n ln tl h' tk' .nil rfl F' N'
  | @cons c u vs l h => exact read_cons w news loose mean mg mb p z vs c u n ln tl pbs np own I q oI oq hq1 hq2 hz (by rw [h.len]; simp at hus; omega) kMark dp un gd cn sc a' ccd cl outer A₀ base h₀ L mm s R B F X N T hk hdp hun codeHd fun ln' tl' h' tk' e F' N' => hret u vs (n + 1) ln' tl' h' tk' h (by rw [e, cnt_cons]; show _ + cnt l = _; split <;> omega) F' N'
theorem iter_call {prog : Program} {w : World} {A : Around} {E : Value → Shared → Prop} {s : Shared} {h₀ : Heap} {L : Addr} {m : Str → Option Value} {news : List (Addr × Obj)} {q fr t : Nat} {self : Value} {Q : Value → Shared → Prop}
    (F : Fr h₀ L s.heap m) (N : News h₀ L s.heap news) (hq : (q, methodObj (.ref fr) self) ∈ news)
    (h : ∀ I h', Fr h₀ L h' m → News h₀ L h' ((I, citObj q t) :: news) → (∀ p ∈ news, p.1 < I) → Q (.ref I) { s with heap := h' }) :
    wpAny (model prog w) A (call (.builtin "iter") [.ref q, .str (Str.ofString "") t]) Q E s := by
  have ho := (N _ hq).1
  have hT : s.TypeIs (.ref q) "method" := ⟨_, ho, rfl⟩
  have lk : ∃ v, typeLookup (.type "method") "__call__" = pure (some v) := ⟨.builtin "method.__call__", by rw [typeLookup_type, builtinLookup_eq_fast]; kernel_rfl⟩
  obtain ⟨v, lk⟩ := lk
  refine Calls.call_function_entry (b := Builtin.«iter») (by decide +kernel) (by decide +kernel) (entryFor_of_tree (by kernel_rfl)) (by unfold argsOk; kernel_rfl) ?_
  unfold Builtin.«iter»
  show wpAny _ _ (specialOf (.ref q) "__call__" >>= _) _ _ s
  refine wpAny_bind (wpAny_specialOf hT lk ?_)
  show wpAny _ _ (rule _ >>= _) _ _ s
  refine wpAny_bind (wpAny_rule ?_)
  show wpAny _ _ (newFields "callable_iterator" _ >>= _) _ _ s
  refine wpAny_bind ?_
  unfold newFields
  refine wpAny_newObj_type ?_ (by size_fits)
  refine wpAny_pure ⟨_, rfl, h _ _ (F.push _) (N.push F _) fun p hp => Heap.lt_size (N p hp).1⟩
end
section
theorem calm_L1gt3 : True ∧ True := by
  w_top off
  k_with_none
  first
    | (walk1; fail)
    | exact ⟨trivial, trivial⟩
theorem opaque_go (P : Nat → Shared → Prop) : ∃ Go : Nat → Shared → Prop, ∀ n s, Go n s ↔ P n s := ⟨P, fun _ _ => Iff.rfl⟩
theorem for_cit {prog : Program} {w : World} {A : Around} {E : Value → Shared → Prop} {s : Shared} {env : Env} {Q : Flow → Shared → Prop} {x fit : Str} {px pf pos : Pos} {body : List Stmt} {I : Nat}
    (hx : env.kindOf x = some .local)
    (hit : ∀ Q' : Value → Shared → Prop, Q' (.ref I) s → wpAny (model prog w) A (eval (.Name fit pf) env) Q' E s)
    (hI : ∃ o, s.heap.get? I = some o ∧ o.cls = .type "callable_iterator")
    (Inv Go : Nat → Shared → Prop) (hGo : ∀ n s, Go n s → ∃ m, m < n ∧ Inv m s) (n : Nat) (h0 : Inv n s)
    (turn : ∀ n s, Inv n s → wpAny (model prog w) A (pyNext (.ref I)) (fun r s₁ => match r with
      | none => Q .next s₁
      | some v => wpAny (model prog w) A (storeName env x v) (fun _ s₂ => wpAny (model prog w) A (execs body env) (fun f s₃ => match f with
          | .next | .cont => Go n s₃
          | .brk => Q .next s₃
          | .ret v => Q (.ret v) s₃) E s₂) E s₁) E s)
    (hE : PassesOwn (model prog w) A env E) :
    wpAny (model prog w) A (exec (.For (.Name x px) (.Name fit pf) body [] pos) env) Q E s := by
  refine wpAny_For (hit _ ?_) (by intro _; rfl)
  obtain ⟨o, ho, hc⟩ := hI
  refine cit_iter ho hc ?_
  refine codeAny_forLoop (R := fun r s' => match r with | .ok f => Q f s' | .error e => cameBackBy (model prog w) A env E e s') Inv (fun n s hI => ?_) n h0
  refine wpAny_passesOwn hE (wpAny_mono (turn n s hI) (fun r s₁ h₁ => ?_) fun _ _ e => e)
  cases r with
  | none => exact wpAny_execs_nil h₁
  | some v =>
    refine wpAny_assign_Name (wpAny_passesOwn hE (wpAny_mono h₁ (fun _ s₂ h₂ => ?_) fun _ _ e => e))
    refine wpAny_passesOwn hE (wpAny_mono h₂ (fun f s₃ h₃ => ?_) fun _ _ e => e)
    cases f <;> first | exact h₃ | exact hGo _ _ h₃
/-- the signs that part words -/
noncomputable def isWs (c : Nat) : Bool := c == 10 || c == 9 || c == 13 || c == 32
/-- a word that stands bare -/
noncomputable def gt3 : List Nat → List Nat → List Nat × List Nat
  | [], tok => (tok, [])
  | [c], tok => if isWs c then (tok, []) else if c = 92 then (tok, []) else (tok ++ [c], [])
  | c :: d :: r, tok => if isWs c then (tok, d :: r) else if c = 92 then gt3 r (tok ++ [d]) else gt3 (d :: r) (tok ++ [c])
theorem gt3_ws {c : Nat} {r tok : List Nat} (h : isWs c = true) : gt3 (c :: r) tok = (tok, r) := by cases r <;> simp [gt3, h]
theorem gt3_b {r tok : List Nat} : gt3 (92 :: r) tok = gt3 r.tail (tok ++ cs (rdc r)) := by
  cases r with
  | nil => simp [gt3, isWs, rdc]; decide +kernel
  | cons d r => simp [gt3, isWs, rdc, cs]
theorem gt3_o {c : Nat} {r tok : List Nat} (h : isWs c = false) (h2 : c ≠ 92) : gt3 (c :: r) tok = gt3 r (tok ++ [c]) := by
  cases r with
  | nil => simp [gt3, h, h2]
  | cons d r => rw [gt3]; simp [h, h2]
theorem fr_but {g h h' : Heap} {L I : Addr} {m : Str → Option Value} (F : Fr g L h m) (hL : L ≠ I) (hg : g.get? I = none) (hk : ∀ b o, b ≠ I → h.get? b = some o → h'.get? b = some o) : Fr g L h' m :=
  ⟨F.ns.at' fun o e => hk _ o hL e, fun b o e => hk b o (by rintro rfl; rw [hg] at e; cases e) (F.keep b o e), F.above⟩
theorem news_but {g h h' : Heap} {L I : Addr} {o o' : Obj} {rest : List (Addr × Obj)} (N : News g L h ((I, o) :: rest)) (hr : ∀ p ∈ rest, p.1 ≠ I) (hk : ∀ b o, b ≠ I → h.get? b = some o → h'.get? b = some o) (hI : h'.get? I = some o') : News g L h' ((I, o') :: rest) := by
  intro p hp
  rcases List.mem_cons.mp hp with rfl | hp
  · exact ⟨hI, (N _ (.head _)).2⟩
  · exact ⟨hk _ _ (hr p hp) (N p (.tail _ hp)).1, (N p (.tail _ hp)).2⟩
theorem fn_read {K : Frag} {h : Heap} {f : Addr} (X : K.In h) (e : fnIn K f = true) : ∃ o fd, h.get? f = some o ∧ o.data = .func fd := by
  unfold fnIn at e
  split at e
  · rename_i q
    exact ⟨_, _, X _ _ q, rfl⟩
  · cases e
theorem led_ne {w : World} {z : Lx} {own : CbLed} (hz : z.Ok own) {us : List Value} {n : Nat} {ln : Int} {tl : Nat} {pbs : List Value} {np : Nat} {I q : Nat} {oq : Obj} (hq1 : z.pb < q) (hq2 : q < I) : ∀ p ∈ (q, oq) :: (z.led w us n ln tl pbs np ++ own), p.1 ≠ I := by
  obtain ⟨o0, o1, o2, o3, o4, o5, o6, o7, o8, o9, _, _⟩ := hz
  have t9 := Nat.lt_trans hq1 hq2
  have t8 := Nat.lt_trans o9 t9
  have t7 := Nat.lt_trans o8 t8
  have t6 := Nat.lt_trans o7 t7
  have t5 := Nat.lt_trans o5 t6
  have t4 := Nat.lt_trans o4 t5
  have t3 := Nat.lt_trans o3 t4
  have t2 := Nat.lt_trans o2 t3
  have t1 := Nat.lt_trans o1 t2
  have tc : z.cc < I := o6.elim (fun h => Nat.lt_trans h t1) (fun h => Nat.lt_trans h.2 t6)
  clear hq1 o1 o2 o3 o4 o5 o6 o7 o8 o9
  intro p hp
  rcases List.mem_cons.mp hp with rfl | hp
  · exact Nat.ne_of_lt hq2
  · rcases List.mem_append.mp hp with hp | hp
    · simp only [Lx.led, List.mem_cons, List.not_mem_nil, or_false] at hp
      rcases hp with rfl | rfl | rfl | rfl | rfl | rfl | rfl | rfl | rfl | rfl <;> first | exact Nat.ne_of_lt t9 | exact Nat.ne_of_lt t8 | exact Nat.ne_of_lt t7 | exact Nat.ne_of_lt t6 | exact Nat.ne_of_lt tc | exact Nat.ne_of_lt t5 | exact Nat.ne_of_lt t4 | exact Nat.ne_of_lt t3 | exact Nat.ne_of_lt t2 | exact Nat.ne_of_lt t1
    · have := kst_ltOf o0 p hp
      have h2 : (p.1 : Nat) < z.ce := this
      exact Nat.ne_of_lt (Nat.lt_trans h2 t1)
theorem str_ws : cs (Str.ofString "\n\t\x0d ") = [10, 9, 13, 32] := by decide +kernel
theorem ws_1 {c : Nat} (h : ((Builtin.Str.occurrences (Str.ofString "\n\t\x0d ") ⟨#[c]⟩ 0 (Str.ofString "\n\t\x0d ").length 1).isEmpty) = false) : isWs c = true := by
  have h := congrArg (! ·) h
  rw [StrLaws.found_one, Bool.not_false, decide_eq_true_eq] at h
  have h : c ∈ cs (Str.ofString "\n\t\x0d ") := h
  rw [str_ws] at h
  simp only [List.mem_cons, List.not_mem_nil, or_false] at h
  rcases h with rfl | rfl | rfl | rfl <;> rfl
theorem ws_2 {c : Nat} (h : ((Builtin.Str.occurrences (Str.ofString "\n\t\x0d ") ⟨#[c]⟩ 0 (Str.ofString "\n\t\x0d ").length 1).isEmpty) = true) : isWs c = false := by
  have h := congrArg (! ·) h
  rw [StrLaws.found_one, Bool.not_true, decide_eq_false_iff_not] at h
  have h : ¬ c ∈ cs (Str.ofString "\n\t\x0d ") := h
  rw [str_ws] at h
  simp only [List.mem_cons, List.not_mem_nil, or_false, not_or] at h
  obtain ⟨h1, h2, h3, h4⟩ := h
  simp [isWs, h1, h2, h3, h4]
theorem cs_app (a b : Str) : cs (a ++ b) = cs a ++ cs b := Array.toList_append
theorem sg_1 {c : Nat} (h : ((⟨#[c]⟩ : Str) == Str.ofString "\\") = true) : c = 92 := by
  rw [str_b] at h
  have h := beq_iff_eq.mp h
  injection h with h
  simpa using h
theorem sg_2 {c : Nat} (h : ((⟨#[c]⟩ : Str) == Str.ofString "\\") = false) : c ≠ 92 := by
  rw [str_b] at h
  rintro rfl
  simp at h
theorem fr_pack {g h : Heap} {L : Addr} {m : Str → Option Value} {x1 x2 x3 : Value} (F : Fr g L h m) (a : m (Str.ofString "self") = some x1) (b : m (Str.ofString "token") = some x2) (c : m (Str.ofString "fiter") = some x3) :
    Fr g L h (fun y => if y = Str.ofString "self" then some x1 else if y = Str.ofString "token" then some x2 else if y = Str.ofString "fiter" then some x3 else m y) := by
  have e : (fun y => if y = Str.ofString "self" then some x1 else if y = Str.ofString "token" then some x2 else if y = Str.ofString "fiter" then some x3 else m y) = m := by
    funext y
    split
    · next e => rw [e, a]
    · split
      · next e => rw [e, b]
      · split
        · next e => rw [e, c]
        · rfl
  rw [e]; exact F
theorem one_len (c : Nat) : (⟨#[c]⟩ : Str).length = 1 := rfl
theorem rdc_len (l : List Nat) : (rdc l).length ≤ 1 := by
  cases l with
  | nil => decide
  | cons c l => exact Nat.le_refl 1
theorem rows_L1gt3_8 : True := by
  k_with "call ref" => (k_here; refine wpAny_call ?_; (with_unfolding_all refine' read_any _ [] _ _ _ _ _ _ _ _ _ _ _ _ _ _ _ _ _ _ ?h1 ?h2 ?h3 ?h4 ?h5 ?h6 _ _ _ _ _ _ _ _ _ _ _ _ _ _ _ _ ?k1 ?k2 ?k3 ?k4 ?k5 ?k6 ?k7 ?k8 ?k9 ?_); (case h3 => assumption); (case k2 => k_asm); (case k4 => with_unfolding_all assumption); (case k1 => k_asm); (case k3 => k_asm); (case k5 => k_asm); (case k6 => with_unfolding_all rfl); (case k7 => ktr_room); (case k8 => ktr_units); (case h4 => assumption); (case h5 => assumption); (case h1 => assumption); (case h2 => assumption); (case h6 => assumption); (case k9 => assumption); intro tqRow usqRow nqRow lnqRow tlqRow hqRow tkqRow hsqRow hkqRow FqRow NqRow; (try dsimp only [Lx.led, lamP, lamB, lamS] at NqRow); (try simp only [List.cons_append, List.nil_append] at NqRow))
  trivial
theorem gt_L3 (w : World) (news : CbLed) (loose : List Str) (mean : ExcName → Option Value) (mg mb : Str → Option Value) (p : Program) (z : Lx) (us0 : List Value) (l0 : List Nat) (nn0 : Nat) (ln0 : Int) (tl0 : Nat) (np : Nat) (own : CbLed) (I q t0 : Nat) (hq1 : z.pb < q) (hq2 : q < I) (hz : z.Ok own) (hs0 : SigAre us0 l0) (tok0 : Str) (tt0 : Nat) (kMark : KstMark)
  (G : List Nat × List Nat) (K : Int) (hG0 : gt3 l0 (cs tok0) = G) (hK0 : ln0 + cnt l0 = K) (hlen0 : tok0.length + l0.length ≤ 1000)
  (rest : List Stmt) (dp un : Nat) (gd : Option (List Code)) (cn : Str) (sc : Scope) (a' : CbAddr) (ccd : CbVal) (cl : List (Str × CbAddr)) (outer : List Env) (base g h : Heap) (L L' : CbAddr) (mm : Str → Option Value) (s : Shared) (tk0 : Nat)
  (Q : Flow → Shared → Prop) (E : Value → Shared → Prop)
  (B : Below (ktrTop dp un gd cn sc L a' ccd cl outer) base (envX cn sc L a' ccd cl :: outer) g) (hdp : dp + 100 < recursionLimit) (hun : un + 500 < cLine)
  (N : News g L' h news) (X : (Mine.hd.heap_39 w.params).In g) (T : Top p loose mean mg mb g)
  (hE : PassesOwn (model PySem.Challenge.rw_rw0047_01.prog w) ((ktrTop dp un gd cn sc L a' ccd cl outer).deeper (envOf (Str.ofString "_netrclex.get_token") gtS.1 L' 81 (.ref 80))) (envOf (Str.ofString "_netrclex.get_token") gtS.1 L' 81 (.ref 80)) E)
  (codeHd : CodeHd base 115 111) (hkk : sc.kind = .function)
  (F : Fr g L' h (fun y => if y = Str.ofString "self" then some (Value.ref z.x) else if y = Str.ofString "token" then some (Value.str tok0 tt0) else if y = Str.ofString "fiter" then some (Value.ref I) else mm y))
  (hN : news = (I, citObj q t0) :: (q, methodObj (.ref 74) (.ref z.x)) :: (z.led w us0 nn0 ln0 tl0 [] np ++ own))
  (hret : ∀ v t h' tk' m' us' n' ln' tl', cs v = G.1 → SigAre us' G.2 → ln' + cnt G.2 = K → Fr g L' h' m' → News g L' h' ((I, citObj q t0) :: (q, methodObj (.ref 74) (.ref z.x)) :: (z.led w us' n' ln' tl' [] np ++ own)) → Q (.ret (.str v t)) { s with heap := h', toks := tk' })
  (hnext : ∀ v t h' tk' (m' : Str → Option Value) n' ln' tl', cs v = G.1 → G.2 = [] → ln' = K → Fr g L' h' (fun y => if y = Str.ofString "self" then some (Value.ref z.x) else if y = Str.ofString "token" then some (Value.str v t) else if y = Str.ofString "fiter" then some (Value.ref I) else m' y) →
    News g L' h' ((I, citEnd) :: (q, methodObj (.ref 74) (.ref z.x)) :: (z.led w [] n' ln' tl' [] np ++ own)) → Q .next { s with heap := h', toks := tk' }) :
  wpAny (model PySem.Challenge.rw_rw0047_01.prog w) ((ktrTop dp un gd cn sc L a' ccd cl outer).deeper (envOf (Str.ofString "_netrclex.get_token") gtS.1 L' 81 (.ref 80)))
    (exec gtL3.1 (envOf (Str.ofString "_netrclex.get_token") gtS.1 L' 81 (.ref 80))) Q E { s with heap := h, toks := tk0 } := by
  subst hN
  revert X; k_fill; intro X
  have hread := fn_read (f := 74) X (by k_dflt k_is)
  obtain ⟨ord, fdr, hrd, hrfd⟩ := hread
  obtain ⟨Inv, hInv⟩ := opaque_go (fun n s' => ∃ (h : Heap) (tk : Nat) (m' : Str → Option Value) (us : List Value) (l : List Nat) (nn : Nat) (ln : Int) (tl : Nat) (tok : Str) (tt : Nat), s' = { s with heap := h, toks := tk } ∧ n = l.length ∧
      Fr g L' h (fun y => if y = Str.ofString "self" then some (Value.ref z.x) else if y = Str.ofString "token" then some (Value.str tok tt) else if y = Str.ofString "fiter" then some (Value.ref I) else m' y) ∧
      News g L' h ((I, citObj q t0) :: (q, methodObj (.ref 74) (.ref z.x)) :: (z.led w us nn ln tl [] np ++ own)) ∧ SigAre us l ∧ gt3 l (cs tok) = G ∧ ln + cnt l = K ∧ tok.length + l.length ≤ 1000)
  obtain ⟨Go, hGo⟩ := opaque_go (fun n s' => ∃ m, m < n ∧ Inv m s')
  refine for_cit (I := I) (Inv := Inv) (Go := Go) (hGo := fun n s h => (hGo n s).mp h) (by with_unfolding_all rfl) (fun Q' hq => ?_) ⟨_, (N _ (.head _)).1, rfl⟩ l0.length ((hInv _ _).mpr ⟨h, tk0, mm, us0, l0, nn0, ln0, tl0, tok0, tt0, rfl, rfl, F, N, hs0, hG0, hK0, hlen0⟩) ?_ hE
  · with_unfolding_all exact ld F (by with_unfolding_all rfl) hq
  · intro n s' hI
    obtain ⟨h, tk, m', us, l, nn, ln, tl, tok, tt, rfl, rfl, F, N, hs, hG, hK, hlen⟩ := (hInv _ _).mp hI
    clear hI
    have hIL : L' ≠ I := fun e => (N _ (.head _)).2.1 e.symm
    refine cit_next (q := q) (fr := 74) (t0 := t0) (self := .ref z.x) (ofr := ord) (fd := fdr) rfl (N _ (.head _)).1 (N _ (.tail _ (.head _))).1 (F.keep _ _ hrd) hrfd ?_
    with_unfolding_all refine' read_any w [] loose mean mg mb p z us l nn ln tl [] np own I q _ _ hq1 hq2 hz hs (by omega) kMark _ _ _ _ _ _ _ _ _ _ _ _ _ _ _ _ ?k1 F X N T ?k6 ?k7 ?k8 codeHd ?_
    case k1 => exact B
    case k6 => with_unfolding_all rfl
    case k7 => ktr_room
    case k8 => ktr_units
    intro t us' n' ln' tl' h' tk' hs' hk' F' N'
    refine ⟨rdc l, t, rfl, (N' _ (.head _)).1, (N' _ (.tail _ (.head _))).1, F'.keep _ _ hrd, ?_, ?_⟩
    · cases hs with
      | nil => intro hx; exact absurd rfl hx
      | @cons c u vs l hs =>
        intro _
        dsimp only [rdc, List.tail_cons] at hs' hk' ⊢
        obtain ⟨o0, o1, o2, o3, o4, o5, o6, o7, o8, o9, hcell, hcode⟩ := id hz
        have q1 : AllLt z.cl own := allLt_up (by omega) o0
        have q2 : AllLt z.dx own := allLt_up (by omega) o0
        dsimp only [Lx.led, lamP, lamB, lamS] at N'
        simp only [List.cons_append, List.nil_append] at N'
        dsimp only [gtS] at *
        have hlen1 : tok.length + l.length + 1 ≤ 1000 := by simp at hlen; omega
        have hlen2 : l.length ≤ 1000 := by omega
        clear N hlen
        have hgo : ∀ (n : Nat) (h : Heap) (tk : Nat) (m' : Str → Option Value) (us : List Value) (l : List Nat) (nn : Nat) (ln : Int) (tl : Nat) (tok : Str) (tt : Nat), l.length < n → Fr g L' h m' → m' (Str.ofString "self") = some (Value.ref z.x) → m' (Str.ofString "token") = some (Value.str tok tt) → m' (Str.ofString "fiter") = some (Value.ref I) →
            News g L' h ((I, citObj q t0) :: (q, methodObj (.ref 74) (.ref z.x)) :: (z.led w us nn ln tl [] np ++ own)) → SigAre us l → gt3 l (cs tok) = G → ln + cnt l = K → tok.length + l.length ≤ 1000 → Go n { s with heap := h, toks := tk } :=
          fun n h tk m' us l nn ln tl tok tt c1 F a b c N c2 c3 c4 c5 => (hGo _ _).mpr ⟨l.length, c1, (hInv _ _).mpr ⟨h, tk, m', us, l, nn, ln, tl, tok, tt, rfl, rfl, fr_pack F a b c, N, c2, c3, c4, c5⟩⟩
        have hrl := rdc_len l
        have hl0 : l.tail.length = l.length - 1 := List.length_tail
        have ho1 := one_len c
        k_steps
        · have e := sg_1 (by assumption)
          subst e
          obtain ⟨b1, b2⟩ : _ ∧ (tok ++ rdc l).length ≤ _ := by assumption
          refine' hgo _ _ _ _ _ l.tail _ _ _ (tok ++ rdc l) _ ?a1 ?a2 ?a3 ?a4 ?a5 ?a6 ?a7 ?a8 ?a9 ?a10
          case a1 => simp only [List.length_cons]; omega
          case a2 => assumption
          case a6 => with_unfolding_all assumption
          case a7 => assumption
          case a3 => with_unfolding_all rfl
          case a4 => with_unfolding_all rfl
          case a5 => with_unfolding_all rfl
          case a8 => rw [cs_app, ← hG, gt3_b]
          case a9 => omega
          case a10 => omega
        · obtain ⟨b1, b2⟩ : _ ∧ (tok ++ (⟨#[c]⟩ : Str)).length ≤ _ := by assumption
          refine' hgo _ _ _ _ _ l _ _ _ (tok ++ (⟨#[c]⟩ : Str)) _ ?a1 ?a2 ?a3 ?a4 ?a5 ?a6 ?a7 ?a8 ?a9 ?a10
          case a1 => simp only [List.length_cons]; omega
          case a2 => assumption
          case a6 => with_unfolding_all assumption
          case a7 => assumption
          case a3 => with_unfolding_all rfl
          case a4 => with_unfolding_all rfl
          case a5 => with_unfolding_all rfl
          case a8 => rw [cs_app, ← hG]; exact (gt3_o (ws_2 (by assumption)) (sg_2 (by assumption))).symm
          case a9 => omega
          case a10 => omega
        · have e := gt3_ws (r := l) (tok := cs tok) (ws_1 (by assumption))
          rw [hG] at e
          subst e
          refine' hret tok tt _ _ _ us' _ ln' _ rfl hs' (hk'.trans hK) ?a2 ?a6
          case a2 => assumption
          case a6 => with_unfolding_all assumption
    · cases hs with
      | cons c u hs => intro hx; exact absurd hx (by intro e; have := congrArg Str.length e; exact absurd this (by show ¬ 1 = _; decide))
      | nil =>
        intro _ h'' hk'' hE''
        dsimp only [List.tail_nil] at hs' hk'
        cases hs'
        have e0 : cnt ([] : List Nat) = 0 := rfl
        refine hnext tok tt h'' _ m' n' ln' tl' (by rw [← hG]; rfl) (by rw [← hG]; rfl) (by omega) (fr_but F' hIL (N' _ (.head _)).2.2 hk'') (news_but N' (led_ne hz hq1 hq2) hk'' hE'')
end
section
theorem calm_L1gt2 : True ∧ True := by
  w_top off
  k_with_none
  first
    | (walk1; fail)
    | exact ⟨trivial, trivial⟩
/-- a word between quotation marks, its first mark read -/
noncomputable def gt2 : List Nat → List Nat → List Nat × List Nat
  | [], tok => (tok, [])
  | [c], tok => if c = 34 then (tok, []) else if c = 92 then (tok, []) else (tok ++ [c], [])
  | c :: d :: r, tok => if c = 34 then (tok, d :: r) else if c = 92 then gt2 r (tok ++ [d]) else gt2 (d :: r) (tok ++ [c])
theorem gt2_q {r tok : List Nat} : gt2 (34 :: r) tok = (tok, r) := by cases r <;> simp [gt2]
theorem gt2_b {r tok : List Nat} : gt2 (92 :: r) tok = gt2 r.tail (tok ++ cs (rdc r)) := by
  cases r with
  | nil => simp [gt2, rdc]; decide +kernel
  | cons d r => simp [gt2, rdc, cs]
theorem gt2_o {c : Nat} {r tok : List Nat} (h : c ≠ 34) (h2 : c ≠ 92) : gt2 (c :: r) tok = gt2 r (tok ++ [c]) := by
  cases r with
  | nil => simp [gt2, h, h2]
  | cons d r => rw [gt2]; simp [h, h2]
theorem str_q2 : Str.ofString "\"" = ⟨#[34]⟩ := by decide +kernel
theorem sq_1 {c : Nat} (h : ((⟨#[c]⟩ : Str) == Str.ofString "\"") = true) : c = 34 := by
  rw [str_q2] at h
  have h := beq_iff_eq.mp h
  injection h with h
  simpa using h
theorem sq_2 {c : Nat} (h : ((⟨#[c]⟩ : Str) == Str.ofString "\"") = false) : c ≠ 34 := by
  rw [str_q2] at h
  rintro rfl
  simp at h
theorem rows_L1gt2_9 : True := by
  k_with "call ref" => (k_here; refine wpAny_call ?_; (with_unfolding_all refine' read_any _ [] _ _ _ _ _ _ _ _ _ _ _ _ _ _ _ _ _ _ ?h1 ?h2 ?h3 ?h4 ?h5 ?h6 _ _ _ _ _ _ _ _ _ _ _ _ _ _ _ _ ?k1 ?k2 ?k3 ?k4 ?k5 ?k6 ?k7 ?k8 ?k9 ?_); (case h3 => assumption); (case k2 => k_asm); (case k4 => with_unfolding_all assumption); (case k1 => k_asm); (case k3 => k_asm); (case k5 => k_asm); (case k6 => with_unfolding_all rfl); (case k7 => ktr_room); (case k8 => ktr_units); (case h4 => assumption); (case h5 => assumption); (case h1 => assumption); (case h2 => assumption); (case h6 => assumption); (case k9 => assumption); intro tqRow usqRow nqRow lnqRow tlqRow hqRow tkqRow hsqRow hkqRow FqRow NqRow; (try dsimp only [Lx.led, lamP, lamB, lamS] at NqRow); (try simp only [List.cons_append, List.nil_append] at NqRow))
  trivial
theorem gt_L2 (w : World) (news : CbLed) (loose : List Str) (mean : ExcName → Option Value) (mg mb : Str → Option Value) (p : Program) (z : Lx) (us0 : List Value) (l0 : List Nat) (nn0 : Nat) (ln0 : Int) (tl0 : Nat) (np : Nat) (own : CbLed) (I q t0 : Nat) (hq1 : z.pb < q) (hq2 : q < I) (hz : z.Ok own) (hs0 : SigAre us0 l0) (tok0 : Str) (tt0 : Nat) (kMark : KstMark)
  (G : List Nat × List Nat) (K : Int) (hG0 : gt2 l0 (cs tok0) = G) (hK0 : ln0 + cnt l0 = K) (hlen0 : tok0.length + l0.length ≤ 1000)
  (rest : List Stmt) (dp un : Nat) (gd : Option (List Code)) (cn : Str) (sc : Scope) (a' : CbAddr) (ccd : CbVal) (cl : List (Str × CbAddr)) (outer : List Env) (base g h : Heap) (L L' : CbAddr) (mm : Str → Option Value) (s : Shared) (tk0 : Nat)
  (Q : Flow → Shared → Prop) (E : Value → Shared → Prop)
  (B : Below (ktrTop dp un gd cn sc L a' ccd cl outer) base (envX cn sc L a' ccd cl :: outer) g) (hdp : dp + 100 < recursionLimit) (hun : un + 500 < cLine)
  (N : News g L' h news) (X : (Mine.hd.heap_39 w.params).In g) (T : Top p loose mean mg mb g)
  (hE : PassesOwn (model PySem.Challenge.rw_rw0047_01.prog w) ((ktrTop dp un gd cn sc L a' ccd cl outer).deeper (envOf (Str.ofString "_netrclex.get_token") gtS.1 L' 81 (.ref 80))) (envOf (Str.ofString "_netrclex.get_token") gtS.1 L' 81 (.ref 80)) E)
  (codeHd : CodeHd base 115 111) (hkk : sc.kind = .function)
  (F : Fr g L' h (fun y => if y = Str.ofString "self" then some (Value.ref z.x) else if y = Str.ofString "token" then some (Value.str tok0 tt0) else if y = Str.ofString "fiter" then some (Value.ref I) else mm y))
  (hN : news = (I, citObj q t0) :: (q, methodObj (.ref 74) (.ref z.x)) :: (z.led w us0 nn0 ln0 tl0 [] np ++ own))
  (hret : ∀ v t h' tk' m' us' n' ln' tl', cs v = G.1 → SigAre us' G.2 → ln' + cnt G.2 = K → Fr g L' h' m' → News g L' h' ((I, citObj q t0) :: (q, methodObj (.ref 74) (.ref z.x)) :: (z.led w us' n' ln' tl' [] np ++ own)) → Q (.ret (.str v t)) { s with heap := h', toks := tk' })
  (hnext : ∀ v t h' tk' (m' : Str → Option Value) n' ln' tl', cs v = G.1 → G.2 = [] → ln' = K → Fr g L' h' (fun y => if y = Str.ofString "self" then some (Value.ref z.x) else if y = Str.ofString "token" then some (Value.str v t) else if y = Str.ofString "fiter" then some (Value.ref I) else m' y) →
    News g L' h' ((I, citEnd) :: (q, methodObj (.ref 74) (.ref z.x)) :: (z.led w [] n' ln' tl' [] np ++ own)) → Q .next { s with heap := h', toks := tk' }) :
  wpAny (model PySem.Challenge.rw_rw0047_01.prog w) ((ktrTop dp un gd cn sc L a' ccd cl outer).deeper (envOf (Str.ofString "_netrclex.get_token") gtS.1 L' 81 (.ref 80)))
    (exec gtL2.1 (envOf (Str.ofString "_netrclex.get_token") gtS.1 L' 81 (.ref 80))) Q E { s with heap := h, toks := tk0 } := by
  subst hN
  revert X; k_fill; intro X
  have hread := fn_read (f := 74) X (by k_dflt k_is)
  obtain ⟨ord, fdr, hrd, hrfd⟩ := hread
  obtain ⟨Inv, hInv⟩ := opaque_go (fun n s' => ∃ (h : Heap) (tk : Nat) (m' : Str → Option Value) (us : List Value) (l : List Nat) (nn : Nat) (ln : Int) (tl : Nat) (tok : Str) (tt : Nat), s' = { s with heap := h, toks := tk } ∧ n = l.length ∧
      Fr g L' h (fun y => if y = Str.ofString "self" then some (Value.ref z.x) else if y = Str.ofString "token" then some (Value.str tok tt) else if y = Str.ofString "fiter" then some (Value.ref I) else m' y) ∧
      News g L' h ((I, citObj q t0) :: (q, methodObj (.ref 74) (.ref z.x)) :: (z.led w us nn ln tl [] np ++ own)) ∧ SigAre us l ∧ gt2 l (cs tok) = G ∧ ln + cnt l = K ∧ tok.length + l.length ≤ 1000)
  obtain ⟨Go, hGo⟩ := opaque_go (fun n s' => ∃ m, m < n ∧ Inv m s')
  refine for_cit (I := I) (Inv := Inv) (Go := Go) (hGo := fun n s h => (hGo n s).mp h) (by with_unfolding_all rfl) (fun Q' hq => ?_) ⟨_, (N _ (.head _)).1, rfl⟩ l0.length ((hInv _ _).mpr ⟨h, tk0, mm, us0, l0, nn0, ln0, tl0, tok0, tt0, rfl, rfl, F, N, hs0, hG0, hK0, hlen0⟩) ?_ hE
  · with_unfolding_all exact ld F (by with_unfolding_all rfl) hq
  · intro n s' hI
    obtain ⟨h, tk, m', us, l, nn, ln, tl, tok, tt, rfl, rfl, F, N, hs, hG, hK, hlen⟩ := (hInv _ _).mp hI
    clear hI
    have hIL : L' ≠ I := fun e => (N _ (.head _)).2.1 e.symm
    refine cit_next (q := q) (fr := 74) (t0 := t0) (self := .ref z.x) (ofr := ord) (fd := fdr) rfl (N _ (.head _)).1 (N _ (.tail _ (.head _))).1 (F.keep _ _ hrd) hrfd ?_
    with_unfolding_all refine' read_any w [] loose mean mg mb p z us l nn ln tl [] np own I q _ _ hq1 hq2 hz hs (by omega) kMark _ _ _ _ _ _ _ _ _ _ _ _ _ _ _ _ ?k1 F X N T ?k6 ?k7 ?k8 codeHd ?_
    case k1 => exact B
    case k6 => with_unfolding_all rfl
    case k7 => ktr_room
    case k8 => ktr_units
    intro t us' n' ln' tl' h' tk' hs' hk' F' N'
    refine ⟨rdc l, t, rfl, (N' _ (.head _)).1, (N' _ (.tail _ (.head _))).1, F'.keep _ _ hrd, ?_, ?_⟩
    · cases hs with
      | nil => intro hx; exact absurd rfl hx
      | @cons c u vs l hs =>
        intro _
        dsimp only [rdc, List.tail_cons] at hs' hk' ⊢
        obtain ⟨o0, o1, o2, o3, o4, o5, o6, o7, o8, o9, hcell, hcode⟩ := id hz
        have q1 : AllLt z.cl own := allLt_up (by omega) o0
        have q2 : AllLt z.dx own := allLt_up (by omega) o0
        dsimp only [Lx.led, lamP, lamB, lamS] at N'
        simp only [List.cons_append, List.nil_append] at N'
        dsimp only [gtS] at *
        have hlen1 : tok.length + l.length + 1 ≤ 1000 := by simp at hlen; omega
        have hlen2 : l.length ≤ 1000 := by omega
        clear N hlen
        have hgo : ∀ (n : Nat) (h : Heap) (tk : Nat) (m' : Str → Option Value) (us : List Value) (l : List Nat) (nn : Nat) (ln : Int) (tl : Nat) (tok : Str) (tt : Nat), l.length < n → Fr g L' h m' → m' (Str.ofString "self") = some (Value.ref z.x) → m' (Str.ofString "token") = some (Value.str tok tt) → m' (Str.ofString "fiter") = some (Value.ref I) →
            News g L' h ((I, citObj q t0) :: (q, methodObj (.ref 74) (.ref z.x)) :: (z.led w us nn ln tl [] np ++ own)) → SigAre us l → gt2 l (cs tok) = G → ln + cnt l = K → tok.length + l.length ≤ 1000 → Go n { s with heap := h, toks := tk } :=
          fun n h tk m' us l nn ln tl tok tt c1 F a b c N c2 c3 c4 c5 => (hGo _ _).mpr ⟨l.length, c1, (hInv _ _).mpr ⟨h, tk, m', us, l, nn, ln, tl, tok, tt, rfl, rfl, fr_pack F a b c, N, c2, c3, c4, c5⟩⟩
        have hrl := rdc_len l
        have hl0 : l.tail.length = l.length - 1 := List.length_tail
        have ho1 := one_len c
        k_steps
        all_goals first
          | (have e := sq_1 (c := c) (by assumption)
             subst e
             have e := gt2_q (r := l) (tok := cs tok)
             rw [hG] at e
             subst e
             refine' hret tok tt _ _ _ us' _ ln' _ rfl hs' (hk'.trans hK) ?a2 ?a6
             case a2 => assumption
             case a6 => with_unfolding_all assumption)
          | (have e := sg_1 (c := c) (by assumption)
             subst e
             obtain ⟨b1, b2⟩ : _ ∧ (tok ++ rdc l).length ≤ _ := by assumption
             refine' hgo _ _ _ _ _ l.tail _ _ _ (tok ++ rdc l) _ ?a1 ?a2 ?a3 ?a4 ?a5 ?a6 ?a7 ?a8 ?a9 ?a10
             case a1 => simp only [List.length_cons]; omega
             case a2 => assumption
             case a6 => with_unfolding_all assumption
             case a7 => assumption
             case a3 => with_unfolding_all rfl
             case a4 => with_unfolding_all rfl
             case a5 => with_unfolding_all rfl
             case a8 => rw [cs_app, ← hG, gt2_b]
             case a9 => omega
             case a10 => omega)
          | (obtain ⟨b1, b2⟩ : _ ∧ (tok ++ (⟨#[c]⟩ : Str)).length ≤ _ := by assumption
             refine' hgo _ _ _ _ _ l _ _ _ (tok ++ (⟨#[c]⟩ : Str)) _ ?a1 ?a2 ?a3 ?a4 ?a5 ?a6 ?a7 ?a8 ?a9 ?a10
             case a1 => simp only [List.length_cons]; omega
             case a2 => assumption
             case a6 => with_unfolding_all assumption
             case a7 => assumption
             case a3 => with_unfolding_all rfl
             case a4 => with_unfolding_all rfl
             case a5 => with_unfolding_all rfl
             case a8 => rw [cs_app, ← hG]; exact (gt2_o (sq_2 (by assumption)) (sg_2 (by assumption))).symm
             case a9 => omega
             case a10 => omega)
    · cases hs with
      | cons c u hs => intro hx; exact absurd hx (by intro e; have := congrArg Str.length e; exact absurd this (by show ¬ 1 = _; decide))
      | nil =>
        intro _ h'' hk'' hE''
        dsimp only [List.tail_nil] at hs' hk'
        cases hs'
        have e0 : cnt ([] : List Nat) = 0 := rfl
        refine hnext tok tt h'' _ m' n' ln' tl' (by rw [← hG]; rfl) (by rw [← hG]; rfl) (by omega) (fr_but F' hIL (N' _ (.head _)).2.2 hk'') (news_but N' (led_ne hz hq1 hq2) hk'' hE'')
end
section
theorem calm_L1gt1 : True ∧ True := by
  w_top off
  k_with_none
  first
    | (walk1; fail)
    | exact ⟨trivial, trivial⟩
/-- what get_token makes of the signs to come -/
noncomputable def gtT : List Nat → List Nat × List Nat
  | [] => ([], [])
  | c :: r => if isWs c then gtT r else if c = 34 then gt2 r [] else if c = 92 then gt3 r.tail (cs (rdc r)) else gt3 r [c]
theorem rows_L1gt1_10 : True := by
  k_with "call ref" => (k_here; refine wpAny_call ?_; (with_unfolding_all refine' read_any _ [] _ _ _ _ _ _ _ _ _ _ _ _ _ _ _ _ _ _ ?h1 ?h2 ?h3 ?h4 ?h5 ?h6 _ _ _ _ _ _ _ _ _ _ _ _ _ _ _ _ ?k1 ?k2 ?k3 ?k4 ?k5 ?k6 ?k7 ?k8 ?k9 ?_); (case h3 => assumption); (case k2 => k_asm); (case k4 => with_unfolding_all assumption); (case k1 => k_asm); (case k3 => k_asm); (case k5 => k_asm); (case k6 => with_unfolding_all rfl); (case k7 => ktr_room); (case k8 => ktr_units); (case h4 => assumption); (case h5 => assumption); (case h1 => assumption); (case h2 => assumption); (case h6 => assumption); (case k9 => assumption); intro tqRow usqRow nqRow lnqRow tlqRow hqRow tkqRow hsqRow hkqRow FqRow NqRow; (try dsimp only [Lx.led, lamP, lamB, lamS] at NqRow); (try simp only [List.cons_append, List.nil_append] at NqRow))
  trivial
theorem gt_L1 (w : World) (news : CbLed) (loose : List Str) (mean : ExcName → Option Value) (mg mb : Str → Option Value) (p : Program) (z : Lx) (us0 : List Value) (l0 : List Nat) (nn0 : Nat) (ln0 : Int) (tl0 : Nat) (np : Nat) (own : CbLed) (I q t0 : Nat) (hq1 : z.pb < q) (hq2 : q < I) (hz : z.Ok own) (hs0 : SigAre us0 l0) (tt0 : Nat) (kMark : KstMark)
  (G : List Nat × List Nat) (K : Int) (hG0 : gtT l0 = G) (hK0 : ln0 + cnt l0 = K) (hlen0 : l0.length ≤ 900)
  (rest : List Stmt) (dp un : Nat) (gd : Option (List Code)) (cn : Str) (sc : Scope) (a' : CbAddr) (ccd : CbVal) (cl : List (Str × CbAddr)) (outer : List Env) (base g h : Heap) (L L' : CbAddr) (mm : Str → Option Value) (s : Shared) (tk0 : Nat)
  (Q : Flow → Shared → Prop) (E : Value → Shared → Prop)
  (B : Below (ktrTop dp un gd cn sc L a' ccd cl outer) base (envX cn sc L a' ccd cl :: outer) g) (hdp : dp + 100 < recursionLimit) (hun : un + 500 < cLine)
  (N : News g L' h news) (X : (Mine.hd.heap_39 w.params).In g) (T : Top p loose mean mg mb g)
  (hE : PassesOwn (model PySem.Challenge.rw_rw0047_01.prog w) ((ktrTop dp un gd cn sc L a' ccd cl outer).deeper (envOf (Str.ofString "_netrclex.get_token") gtS.1 L' 81 (.ref 80))) (envOf (Str.ofString "_netrclex.get_token") gtS.1 L' 81 (.ref 80)) E)
  (codeHd : CodeHd base 115 111) (hkk : sc.kind = .function)
  (F : Fr g L' h (fun y => if y = Str.ofString "self" then some (Value.ref z.x) else if y = Str.ofString "token" then some (Value.str (Str.ofString "") tt0) else if y = Str.ofString "fiter" then some (Value.ref I) else mm y))
  (hN : news = (I, citObj q t0) :: (q, methodObj (.ref 74) (.ref z.x)) :: (z.led w us0 nn0 ln0 tl0 [] np ++ own))
  (hret : ∀ v t h' tk' m' us' n' ln' tl', cs v = G.1 → SigAre us' G.2 → ln' + cnt G.2 = K → Fr g L' h' m' → News g L' h' (z.led w us' n' ln' tl' [] np ++ own) → Q (.ret (.str v t)) { s with heap := h', toks := tk' })
  (hnext : ∀ v t h' tk' (m' : Str → Option Value) us' n' ln' tl', cs v = G.1 → SigAre us' G.2 → ln' + cnt G.2 = K → Fr g L' h' m' → m' (Str.ofString "token") = some (.str v t) → News g L' h' (z.led w us' n' ln' tl' [] np ++ own) → Q .next { s with heap := h', toks := tk' }) :
  wpAny (model PySem.Challenge.rw_rw0047_01.prog w) ((ktrTop dp un gd cn sc L a' ccd cl outer).deeper (envOf (Str.ofString "_netrclex.get_token") gtS.1 L' 81 (.ref 80)))
    (exec gtL1.1 (envOf (Str.ofString "_netrclex.get_token") gtS.1 L' 81 (.ref 80))) Q E { s with heap := h, toks := tk0 } := by
  subst hN
  revert X; k_fill; intro X
  have hread := fn_read (f := 74) X (by k_dflt k_is)
  obtain ⟨ord, fdr, hrd, hrfd⟩ := hread
  obtain ⟨Inv, hInv⟩ := opaque_go (fun n s' => ∃ (h : Heap) (tk : Nat) (m' : Str → Option Value) (us : List Value) (l : List Nat) (nn : Nat) (ln : Int) (tl : Nat) (tok : Str) (tt : Nat) (oI : Obj), s' = { s with heap := h, toks := tk } ∧ ln + cnt l = K ∧ SigAre us l ∧
      Fr g L' h (fun y => if y = Str.ofString "self" then some (Value.ref z.x) else if y = Str.ofString "token" then some (Value.str tok tt) else if y = Str.ofString "fiter" then some (Value.ref I) else m' y) ∧
      News g L' h ((I, oI) :: (q, methodObj (.ref 74) (.ref z.x)) :: (z.led w us nn ln tl [] np ++ own)) ∧
      ((n = l.length + 1 ∧ oI = citObj q t0 ∧ tok = Str.ofString "" ∧ gtT l = G ∧ l.length ≤ 900) ∨ (n = 0 ∧ oI = citEnd ∧ cs tok = G.1 ∧ G.2 = l)))
  obtain ⟨Go, hGo⟩ := opaque_go (fun n s' => ∃ m, m < n ∧ Inv m s')
  refine for_cit (I := I) (Inv := Inv) (Go := Go) (hGo := fun n s h => (hGo n s).mp h) (by with_unfolding_all rfl) (fun Q' hq => ?_) ⟨_, (N _ (.head _)).1, rfl⟩ (l0.length + 1) ((hInv _ _).mpr ⟨h, tk0, mm, us0, l0, nn0, ln0, tl0, Str.ofString "", tt0, _, rfl, hK0, hs0, F, N, .inl ⟨rfl, rfl, rfl, hG0, hlen0⟩⟩) ?_ hE
  · with_unfolding_all exact ld F (by with_unfolding_all rfl) hq
  · intro n s' hI
    obtain ⟨h, tk, m', us, l, nn, ln, tl, tok, tt, oI, rfl, hK, hs, F, N, hI2⟩ := (hInv _ _).mp hI
    clear hI
    have hIL : L' ≠ I := fun e => (N _ (.head _)).2.1 e.symm
    rcases hI2 with ⟨rfl, rfl, rfl, hG, hlen⟩ | ⟨rfl, rfl, hG, hG2⟩
    · refine cit_next (q := q) (fr := 74) (t0 := t0) (self := .ref z.x) (ofr := ord) (fd := fdr) rfl (N _ (.head _)).1 (N _ (.tail _ (.head _))).1 (F.keep _ _ hrd) hrfd ?_
      with_unfolding_all refine' read_any w [] loose mean mg mb p z us l nn ln tl [] np own I q _ _ hq1 hq2 hz hs (by omega) kMark _ _ _ _ _ _ _ _ _ _ _ _ _ _ _ _ ?k1 F X N T ?k6 ?k7 ?k8 codeHd ?_
      case k1 => exact B
      case k6 => with_unfolding_all rfl
      case k7 => ktr_room
      case k8 => ktr_units
      intro t us' n' ln' tl' h' tk' hs' hk' F' N'
      refine ⟨rdc l, t, rfl, (N' _ (.head _)).1, (N' _ (.tail _ (.head _))).1, F'.keep _ _ hrd, ?_, ?_⟩
      · cases hs with
        | nil => intro hx; exact absurd rfl hx
        | @cons c u vs l hs =>
          intro _
          dsimp only [rdc, List.tail_cons] at hs' hk' ⊢
          obtain ⟨o0, o1, o2, o3, o4, o5, o6, o7, o8, o9, hcell, hcode⟩ := id hz
          have q1 : AllLt z.cl own := allLt_up (by omega) o0
          have q2 : AllLt z.dx own := allLt_up (by omega) o0
          dsimp only [Lx.led, lamP, lamB, lamS] at N'
          simp only [List.cons_append, List.nil_append] at N'
          dsimp only [gtS] at *
          have hlen1 : l.length + 1 ≤ 900 := by simp at hlen; omega
          have hlen2 : l.length ≤ 1000 := by omega
          clear N hlen
          have hrl := rdc_len l
          have hl0 : l.tail.length = l.length - 1 := List.length_tail
          have ho1 := one_len c
          have eE : cs (Str.ofString "") = [] := by decide +kernel
          have eL : (Str.ofString "").length = 0 := by decide +kernel
          k_steps
          · have e := sq_1 (c := c) (by assumption); subst e
            rename Fr _ _ _ _ => FF
            rename News _ _ _ _ => NN
            have F2 := fr_pack (x1 := .ref z.x) (x2 := .str (Str.ofString "") _) (x3 := .ref I) FF (by with_unfolding_all rfl) (by with_unfolding_all rfl) (by with_unfolding_all rfl)
            with_unfolding_all refine' gt_L2 w _ loose mean mg mb p z _ l _ _ _ np own I q t0 hq1 hq2 hz ?hs0 _ _ kMark G K ?hG0 ?hK0 ?hlen0 [] dp un gd cn sc a' ccd cl outer base g _ L L' _ s _ _ E B hdp hun NN X T hE codeHd hkk F2 ?hN ?hr ?hn
            case hN => with_unfolding_all rfl
            case hs0 => assumption
            case hG0 => rw [eE, ← hG]; simp [gtT, isWs]
            case hK0 => omega
            case hlen0 => omega
            case hr => exact fun v t h' tk' m' us' n' ln' tl' e1 e2 e3 F N => hret v t h' tk' m' us' n' ln' tl' e1 e2 e3 F (fun p hp => N p (.tail _ (.tail _ hp)))
            case hn =>
              intro v t h' tk' m' n' ln' tl' e1 e2 e3 F N
              repeat refine wpAny_execs_nil ?_
              exact (hGo _ _).mpr ⟨0, Nat.succ_pos _, (hInv _ _).mpr ⟨h', tk', m', [], [], n', ln', tl', v, t, _, rfl, by rw [show cnt ([] : List Nat) = 0 from rfl, e3]; exact Int.add_zero _, .nil, F, N, .inr ⟨rfl, rfl, e1, e2⟩⟩⟩
          · have e := sg_1 (c := c) (by assumption); subst e; obtain ⟨b1, b2⟩ : _ ∧ (Str.ofString "" ++ rdc l).length ≤ _ := by assumption
            rename Fr _ _ _ _ => FF
            rename News _ _ _ _ => NN
            have F2 := fr_pack (x1 := .ref z.x) (x2 := .str (Str.ofString "" ++ rdc l) _) (x3 := .ref I) FF (by with_unfolding_all rfl) (by with_unfolding_all rfl) (by with_unfolding_all rfl)
            with_unfolding_all refine' gt_L3 w _ loose mean mg mb p z _ l.tail _ _ _ np own I q t0 hq1 hq2 hz ?hs0 _ _ kMark G K ?hG0 ?hK0 ?hlen0 [] dp un gd cn sc a' ccd cl outer base g _ L L' _ s _ _ E B hdp hun NN X T hE codeHd hkk F2 ?hN ?hr ?hn
            case hN => with_unfolding_all rfl
            case hs0 => assumption
            case hG0 => rw [cs_app, eE, List.nil_append, ← hG]; simp [gtT, isWs]
            case hK0 => omega
            case hlen0 => omega
            case hr => exact fun v t h' tk' m' us' n' ln' tl' e1 e2 e3 F N => hret v t h' tk' m' us' n' ln' tl' e1 e2 e3 F (fun p hp => N p (.tail _ (.tail _ hp)))
            case hn =>
              intro v t h' tk' m' n' ln' tl' e1 e2 e3 F N
              repeat refine wpAny_execs_nil ?_
              exact (hGo _ _).mpr ⟨0, Nat.succ_pos _, (hInv _ _).mpr ⟨h', tk', m', [], [], n', ln', tl', v, t, _, rfl, by rw [show cnt ([] : List Nat) = 0 from rfl, e3]; exact Int.add_zero _, .nil, F, N, .inr ⟨rfl, rfl, e1, e2⟩⟩⟩
          · obtain ⟨b1, b2⟩ : _ ∧ (Str.ofString "" ++ (⟨#[c]⟩ : Str)).length ≤ _ := by assumption
            rename Fr _ _ _ _ => FF
            rename News _ _ _ _ => NN
            have F2 := fr_pack (x1 := .ref z.x) (x2 := .str (Str.ofString "" ++ (⟨#[c]⟩ : Str)) _) (x3 := .ref I) FF (by with_unfolding_all rfl) (by with_unfolding_all rfl) (by with_unfolding_all rfl)
            with_unfolding_all refine' gt_L3 w _ loose mean mg mb p z _ l _ _ _ np own I q t0 hq1 hq2 hz ?hs0 _ _ kMark G K ?hG0 ?hK0 ?hlen0 [] dp un gd cn sc a' ccd cl outer base g _ L L' _ s _ _ E B hdp hun NN X T hE codeHd hkk F2 ?hN ?hr ?hn
            case hN => with_unfolding_all rfl
            case hs0 => assumption
            case hG0 => rw [cs_app, eE, List.nil_append, ← hG]; have h1 := ws_2 (c := c) (by assumption); have h2 := sq_2 (c := c) (by assumption); have h3 := sg_2 (c := c) (by assumption); simp [gtT, h1, h2, h3]; rfl
            case hK0 => omega
            case hlen0 => omega
            case hr => exact fun v t h' tk' m' us' n' ln' tl' e1 e2 e3 F N => hret v t h' tk' m' us' n' ln' tl' e1 e2 e3 F (fun p hp => N p (.tail _ (.tail _ hp)))
            case hn =>
              intro v t h' tk' m' n' ln' tl' e1 e2 e3 F N
              repeat refine wpAny_execs_nil ?_
              exact (hGo _ _).mpr ⟨0, Nat.succ_pos _, (hInv _ _).mpr ⟨h', tk', m', [], [], n', ln', tl', v, t, _, rfl, by rw [show cnt ([] : List Nat) = 0 from rfl, e3]; exact Int.add_zero _, .nil, F, N, .inr ⟨rfl, rfl, e1, e2⟩⟩⟩
          · rename Fr _ _ _ _ => FF
            rename News _ _ _ _ => NN
            have F2 := fr_pack (x1 := .ref z.x) (x2 := .str (Str.ofString "") _) (x3 := .ref I) FF (by with_unfolding_all rfl) (by with_unfolding_all rfl) (by with_unfolding_all rfl)
            refine (hGo _ _).mpr ⟨l.length + 1, Nat.lt_succ_self _, (hInv _ _).mpr ⟨_, _, _, us', l, _, ln', _, Str.ofString "", _, _, rfl, hk'.trans hK, hs', F2, NN, .inl ⟨rfl, rfl, rfl, ?_, by omega⟩⟩⟩
            have h1 := ws_1 (c := c) (by assumption)
            rw [← hG]
            simp [gtT, h1]
      · cases hs with
        | cons c u hs => intro hx; exact absurd hx (by intro e; have := congrArg Str.length e; exact absurd this (by show ¬ 1 = _; decide))
        | nil =>
          intro _ h'' hk'' hE''
          dsimp only [List.tail_nil] at hs' hk'
          cases hs'
          have e0 : cnt ([] : List Nat) = 0 := rfl
          have hN := news_but N' (led_ne hz hq1 hq2) hk'' hE''
          refine hnext (Str.ofString "") tt h'' _ _ [] n' ln' tl' (by rw [← hG]; rfl) (by rw [← hG]; exact .nil) (by rw [← hG]; exact hk'.trans hK) (fr_but F' hIL (N' _ (.head _)).2.2 hk'') (by with_unfolding_all rfl) (fun p hp => hN p (.tail _ (.tail _ hp)))
    · refine cit_next_end rfl (N _ (.head _)).1 fun h' hk => ?_
      refine hnext tok tt h' _ _ us nn ln tl hG (hG2 ▸ hs) (hG2 ▸ hK) (F.keptAll hk) (by with_unfolding_all rfl) fun p hp => ?_
      obtain ⟨a, b⟩ := N p (.tail _ (.tail _ hp))
      exact ⟨hk _ _ a, b⟩
end
section
theorem calm_L1gt : True ∧ True := by
  w_top off
  k_with_none
  first
    | (walk1; fail)
    | exact ⟨trivial, trivial⟩
theorem rows_L1gt_11 : True := by
  k_with "truthy ref" => (k_here; (with_unfolding_all refine' truthy_cons ?h1 ?h2 ?h3 ?_); (case h1 => k_asm); (case h2 => k_mem); (case h3 => omega))
  k_with "truthy ref" => (k_here; (with_unfolding_all refine' truthy_nil ?h1 ?h2 ?_); (case h1 => k_asm); (case h2 => k_mem))
  k_with "call builtin:list.pop" => (k_here; (with_unfolding_all refine' pop_first ?h1 ?h2 ?h3 ?h4 ?_); (case h1 => k_asm); (case h2 => k_asm); (case h3 => k_upd); (case h4 => omega); intro hqRow FqRow NqRow; (try k_sweep))
  k_with "call builtin:iter" => (k_here; (with_unfolding_all refine' iter_call ?h1 ?h2 ?h3 ?_); (case h1 => k_asm); (case h2 => k_asm); (case h3 => k_mem); intro IqRow hqRow FqRow NqRow lqRow; (try k_lt lqRow); (try k_sweep))
  trivial
theorem fr_pack1 {g h : Heap} {L : Addr} {m : Str → Option Value} {x2 : Value} (F : Fr g L h m) (b : m (Str.ofString "token") = some x2) :
    Fr g L h (fun y => if y = Str.ofString "token" then some x2 else m y) := by
  have e : (fun y => if y = Str.ofString "token" then some x2 else m y) = m := by
    funext y
    split
    · next e => rw [e, b]
    · rfl
  rw [e]; exact F
theorem gt_walk (w : World) (news : CbLed) (loose : List Str) (mean : ExcName → Option Value) (mg mb : Str → Option Value) (p : Program) (z : Lx) (us : List Value) (l : List Nat) (nn : Nat) (ln : Int) (tl np : Nat) (own : CbLed) (hz : z.Ok own) (hs : SigAre us l) (hlen : l.length ≤ 900) (hN : news = z.led w us nn ln tl [] np ++ own) (kMark : KstMark)
  (dp un : Nat) (gd : Option (List Code)) (cn : Str) (sc : Scope) (a' : CbAddr) (ccd : CbVal) (cl : List (Str × CbAddr)) (outer : List Env) (A₀ : Around) (base h₀ : Heap) (L : CbAddr) (mm : Str → Option Value) (s : Shared)
  (Q E : Value → Shared → Prop)
  (B : Below A₀ base outer h₀) (F : Fr h₀ L s.heap mm) (X : (Mine.hd.heap_39 w.params).In h₀) (N : News h₀ L s.heap news) (T : Top p loose mean mg mb h₀) (hk : sc.kind = .function) (hdp : dp + 200 < recursionLimit) (hun : un + 1000 < cLine)
  (hret : ∀ v t h' tk' us' n' ln' tl', cs v = (gtT l).1 → SigAre us' (gtT l).2 → ln' + cnt (gtT l).2 = ln + cnt l → Fr h₀ L h' mm → News h₀ L h' (z.led w us' n' ln' tl' [] np ++ own) → Q (.str v t) { s with heap := h', toks := tk' }) (codeHd : CodeHd base 115 111) :
  wpAny (model PySem.Challenge.rw_rw0047_01.prog w) (ktrTop dp un gd cn sc L a' ccd cl outer) (call (.ref 81) [.ref z.x]) Q E s := by
  revert X; k_fill; intro X
  subst hN
  obtain ⟨o0, o1, o2, o3, o4, o5, o6, o7, o8, o9, hcell, hcode⟩ := id hz
  have q1 : AllLt z.cl own := allLt_up (by omega) o0
  have q2 : AllLt z.dx own := allLt_up (by omega) o0
  dsimp only [Lx.led, lamP, lamB, lamS] at N
  simp only [List.cons_append, List.nil_append] at N
  refine wpAny_call ?_
  k_dflt cell_enter
  k_steps
  rename Fr _ _ _ _ => FF
  rename News _ _ _ _ => NN
  rename Frag.In _ _ => XX
  rename Below _ _ _ _ => BB
  rename Top _ _ _ _ _ _ => TT
  have F2 := fr_pack (x1 := .ref z.x) (x2 := .str (Str.ofString "") _) (x3 := .ref _) FF (by with_unfolding_all rfl) (by with_unfolding_all rfl) (by with_unfolding_all rfl)
  with_unfolding_all refine' gt_L1 w _ loose mean mg mb p z us l _ _ _ np own _ _ _ ?hq1 ?hq2 hz hs _ kMark (gtT l) (ln + cnt l) rfl rfl hlen [] dp un gd cn sc a' ccd cl outer base _ _ L _ _ s _ _ _ BB ?hdp ?hun NN XX TT ?hE codeHd hk F2 ?hN ?hr ?hn
  case hN => with_unfolding_all rfl
  case hdp => omega
  case hun => omega
  case hE => passes_own
  case hq1 => omega
  case hq2 => omega
  case hr =>
    intro v t h' tk' m' us' n' ln' tl' e1 e2 e3 F N
    dsimp only [Lx.led, lamP, lamB, lamS] at N
    simp only [List.cons_append, List.nil_append] at N
    k_steps
    exact hret v t h' _ us' n' ln' tl' e1 e2 e3 (by assumption) (by assumption)
  case hn =>
    intro v t h' tk' m' us' n' ln' tl' e1 e2 e3 F e4 N
    dsimp only [Lx.led, lamP, lamB, lamS] at N
    simp only [List.cons_append, List.nil_append] at N
    have F := fr_pack1 F e4
    clear FF F2
    k_steps
    exact hret v t h' _ us' n' ln' tl' e1 e2 e3 (by assumption) (by assumption)
end
section
theorem calm_L1lexer : True ∧ True := by
  w_top off
  k_with_none
  first
    | (walk1; fail)
    | exact ⟨trivial, trivial⟩
theorem strs_carried : ∀ {ys : List Value} {l : List Str}, CarriedAll ys (l.map PyData.str) → StrsAre ys l
  | [], [], _ => .nil
  | _ :: _, [], h => by cases h
  | [], _ :: _, h => by cases h
  | y :: ys, x :: l, h => by
    cases h with
    | cons a b =>
      have : ∃ t, y = .str x t := by cases a; exact ⟨_, rfl⟩
      obtain ⟨t, rfl⟩ := this
      exact .cons _ _ (strs_carried b)
theorem list_strN {prog : Program} {w : World} {A : Around} {E : Value → Shared → Prop} {s : Shared} {h₀ : Heap} {L : Addr} {m : Str → Option Value} {news : List (Addr × Obj)} {x : Str} {t : Tok} {Q : Value → Shared → Prop}
    (hh : A.handled = none) (F : Fr h₀ L s.heap m) (N : News h₀ L s.heap news) (hsz : x.length ≤ sizeLine)
    (h : ∀ D us c h' tk, Fr h₀ L h' m → News h₀ L h' ((D, listOf (List.toArray us) c) :: news) → (∀ p ∈ news, p.1 < D) → StrsAre us (signs x) → Q (.ref D) { s with heap := h', toks := tk }) :
    wpAny (model prog w) A (call (.type "list") [.str x t]) Q E s := by
  refine list_strD hh F N (fun h' tk ys F' N' hk hg hl hp hc => ?_) hsz
  obtain ⟨⟨n, e⟩, _⟩ := hp
  refine h _ ys n h' tk F' (fun p hp => ?_) (fun p hp => Heap.lt_size (N p hp).1) (strs_carried hc)
  rcases List.mem_cons.mp hp with rfl | hp
  · exact ⟨e, Nat.ne_of_gt F.ns.lt, hg⟩
  · exact N' p hp
theorem rows_L1lexer_12 : True := by
  k_with "call type:list" => (k_here; (with_reducible show wpAny _ _ (call (Value.type _) [Value.str _ _]) _ _ _); (with_unfolding_all refine' list_strN ?h1 ?h2 ?h3 ?h4 ?_); (case h1 => with_unfolding_all rfl); (case h2 => k_asm); (case h3 => k_asm); (case h4 => (rw [sizeLine_eq]; omega)); intro DqRow vsqRow cqRow hqRow tkqRow FqRow NqRow l1Row hIqRow; (try k_lt l1Row); (try k_sweep))
  trivial
theorem sig_of {us : List Value} {a : Str} (h : StrsAre us (signs a)) : SigAre us (cs a) := by
  have key : ∀ (l : List Nat) (us : List Value), StrsAre us (l.map fun c => (⟨#[c]⟩ : Str)) → SigAre us l := by
    intro l
    induction l with
    | nil => intro us h; cases h; exact .nil
    | cons c l ih => intro us h; cases h with | cons u _ h => exact .cons _ _ (ih _ h)
  exact key _ _ h
/-- the table of codes, with the lambda's code -/
noncomputable abbrev lamTab (c : Nat) : Array Value := #[rawInt 122, rawInt 16, .ref c]
noncomputable abbrev lamQ : Str := (Str.ofString "_law_lexer" ++ Str.ofString ".<locals>.") ++ Str.ofString "<lambda>"
theorem lexer_walk (w : World) (news : CbLed) (loose : List Str) (mean : ExcName → Option Value) (mg mb : Str → Option Value) (p : Program) (a : Str) (ta : CbTok) (ha : a.length ≤ 100) (own : CbLed) (hn : news = (111, tabObj #[]) :: own) (hoff : OwnOff own [111]) (kMark : KstMark)
  (dp un : Nat) (gd : Option (List Code)) (cn : Str) (sc : Scope) (a' : CbAddr) (ccd : CbVal) (cl : List (Str × CbAddr)) (outer : List Env) (A₀ : Around) (base h₀ : Heap) (L : CbAddr) (mm : Str → Option Value) (s : Shared)
  (Q E : Value → Shared → Prop)
  (B : Below A₀ base outer h₀) (F : Fr h₀ L s.heap mm) (X : (Mine.hd.heap_39 w.params).In h₀) (N : News h₀ L s.heap news) (T : Top p loose mean mg mb h₀) (hk : sc.kind = .function) (hdp : dp + 200 < recursionLimit) (hun : un + 1000 < cLine)
  (hret : ∀ (z : Lx) (us : List Value) (c tl : Nat) h' tk', z.Ok ((111, tabObj (lamTab z.cc)) :: own) → z.pb2 < z.cc → z.ql = lamQ → SigAre us (cs a) → Fr h₀ L h' mm → News h₀ L h' (z.led w us c 1 tl [] 0 ++ (111, tabObj (lamTab z.cc)) :: own) → Q (.ref z.x) { s with heap := h', toks := tk' }) (codeHd : CodeHd base 115 111) :
  wpAny (model PySem.Challenge.rw_rw0047_01.prog w) (ktrTop dp un gd cn sc L a' ccd cl outer) (call (.ref 116) [Value.str a ta]) Q E s := by
  revert X; k_fill; intro X
  subst hn
  refine wpAny_call ?_
  refine' code_defC ?k1 ?k2 ?k3 ?k4 ?k5 ?kA ?kF ?kK ?k6 ?k7 ?k8 ?k9 ?kB ?kD ?_ ?c2 ?c3 ?c4
  case kA => exact rfl
  case kF => exact rfl
  case kK => assumption
  case k1 => k_asm
  case k2 => k_asm
  case k3 => k_asm
  case k4 => k_asm
  case k5 => k_asm
  case k6 => k_dflt k_is
  case k7 => k_dflt k_is
  case k8 => ktr_room
  case k9 => exact BindsTo.of_eq rfl
  case kB => exact rfl
  case kD => decide +kernel
  case c2 => exact rfl
  case c3 => exact rfl
  case c4 => exact rfl
  intro g' L' h' tk' cells' FG' F' N' Y' B' X' T' l1
  k_lt l1
  k_cells Y'
  try simp only [List.cons_append, List.nil_append] at N'
  try dsimp only
  try k_lift B'
  try k_fold
  have l1' : AllLt (L' + 1) own := allLt_of fun p hp => Nat.lt_succ_of_lt (kst_ltOf l1.2 p hp)
  k_steps
  refine' hret ⟨_, _, _, _, _, _, _, _, _, _, _, _, _, _, _, _, _, _, _, _, _, _, _, _, _, _, _⟩ _ _ _ _ _ ?ok ?oc ?ql ?sg ?hF ?hN
  case hN => with_unfolding_all assumption
  case hF => assumption
  case sg => exact sig_of (by assumption)
  case ql => with_unfolding_all rfl
  case oc => dsimp only; omega
  case ok => exact ⟨⟨Nat.lt_succ_of_lt l1.1, l1'⟩, by dsimp only; omega, by dsimp only; omega, by dsimp only; omega, by dsimp only; omega, by dsimp only; omega, by dsimp only; omega, by dsimp only; omega, by dsimp only; omega, by dsimp only; omega, by assumption, ⟨_, _, by assumption, by with_unfolding_all assumption⟩⟩
theorem news_ins {g h : Heap} {L : Addr} {a1 a2 a3 a4 b c d e f t cc : Addr × Obj} {own : CbLed} (N : News g L h (a1 :: a2 :: a3 :: a4 :: b :: c :: d :: e :: f :: t :: cc :: own)) :
    News g L h (a1 :: a2 :: a3 :: a4 :: cc :: b :: c :: d :: e :: f :: t :: cc :: own) := by
  intro p hp
  rcases List.mem_cons.mp hp with rfl | hp
  · exact N _ (by simp)
  rcases List.mem_cons.mp hp with rfl | hp
  · exact N _ (by simp)
  rcases List.mem_cons.mp hp with rfl | hp
  · exact N _ (by simp)
  rcases List.mem_cons.mp hp with rfl | hp
  · exact N _ (by simp)
  rcases List.mem_cons.mp hp with rfl | hp
  · exact N _ (by simp)
  exact N p (.tail _ (.tail _ (.tail _ (.tail _ hp))))
theorem lexer_again (w : World) (news : CbLed) (loose : List Str) (mean : ExcName → Option Value) (mg mb : Str → Option Value) (p : Program) (a : Str) (ta : CbTok) (ha : a.length ≤ 100) (own : CbLed) (ca : Nat) (oca : Obj) (hca : ∃ vs t, oca.data = .fields vs ∧ vs[1]? = some (.str lamQ t)) (hn : news = (111, tabObj (lamTab ca)) :: (ca, oca) :: own) (hoff : OwnOff own [111]) (hca0 : 111 < ca) (kMark : KstMark)
  (dp un : Nat) (gd : Option (List Code)) (cn : Str) (sc : Scope) (a' : CbAddr) (ccd : CbVal) (cl : List (Str × CbAddr)) (outer : List Env) (A₀ : Around) (base h₀ : Heap) (L : CbAddr) (mm : Str → Option Value) (s : Shared)
  (Q E : Value → Shared → Prop)
  (B : Below A₀ base outer h₀) (F : Fr h₀ L s.heap mm) (X : (Mine.hd.heap_39 w.params).In h₀) (N : News h₀ L s.heap news) (T : Top p loose mean mg mb h₀) (hk : sc.kind = .function) (hdp : dp + 200 < recursionLimit) (hun : un + 1000 < cLine)
  (hret : ∀ (z : Lx) (us : List Value) (c tl : Nat) h' tk', z.Ok ((111, tabObj (lamTab ca)) :: (ca, oca) :: own) → z.ql = lamQ → SigAre us (cs a) → Fr h₀ L h' mm → News h₀ L h' (z.led w us c 1 tl [] 0 ++ (111, tabObj (lamTab ca)) :: (ca, oca) :: own) → Q (.ref z.x) { s with heap := h', toks := tk' }) (codeHd : CodeHd base 115 111) :
  wpAny (model PySem.Challenge.rw_rw0047_01.prog w) (ktrTop dp un gd cn sc L a' ccd cl outer) (call (.ref 116) [Value.str a ta]) Q E s := by
  revert X; k_fill; intro X
  subst hn
  obtain ⟨cavs, cat, hca1, hca2⟩ := hca
  dsimp only [lamTab] at N
  dsimp only [lamQ] at hca2
  refine wpAny_call ?_
  refine' code_defC ?k1 ?k2 ?k3 ?k4 ?k5 ?kA ?kF ?kK ?k6 ?k7 ?k8 ?k9 ?kB ?kD ?_ ?c2 ?c3 ?c4
  case kA => exact rfl
  case kF => exact rfl
  case kK => assumption
  case k1 => k_asm
  case k2 => k_asm
  case k3 => k_asm
  case k4 => k_asm
  case k5 => k_asm
  case k6 => k_dflt k_is
  case k7 => k_dflt k_is
  case k8 => ktr_room
  case k9 => exact BindsTo.of_eq rfl
  case kB => exact rfl
  case kD => decide +kernel
  case c2 => exact rfl
  case c3 => exact rfl
  case c4 => exact rfl
  intro g' L' h' tk' cells' FG' F' N' Y' B' X' T' l1
  k_lt l1
  k_cells Y'
  try simp only [List.cons_append, List.nil_append] at N'
  try dsimp only
  try k_lift B'
  try k_fold
  have l1' : AllLt (L' + 1) own := allLt_of fun p hp => Nat.lt_succ_of_lt (kst_ltOf l1.2.2 p hp)
  k_steps
  rename News _ _ _ _ => NN
  have NN := news_ins NN
  refine' hret ⟨_, _, _, _, _, _, _, _, _, _, _, _, _, _, _, _, _, _, _, _, _, _, _, _, _, _, _⟩ _ _ _ _ _ ?ok ?ql ?sg ?hF ?hN
  case hN => with_unfolding_all exact NN
  case hF => assumption
  case sg => exact sig_of (by assumption)
  case ql => with_unfolding_all rfl
  case ok => exact ⟨⟨Nat.lt_succ_of_lt l1.1, Nat.lt_succ_of_lt l1.2.1, l1'⟩, by dsimp only; omega, by dsimp only; omega, by dsimp only; omega, by dsimp only; omega, by dsimp only; omega, by dsimp only; omega, by dsimp only; omega, by dsimp only; omega, by dsimp only; omega, by assumption, ⟨_, _, by assumption, by with_unfolding_all assumption⟩⟩

/-- the table of codes, and the lambda's code if it stands there -/
inductive TabSt : CbLed → Prop where
  | new : TabSt [(111, tabObj #[])]
  | old (ca : Nat) (oca : Obj) : (∃ vs t, oca.data = .fields vs ∧ vs[1]? = some (.str lamQ t)) → 111 < ca → TabSt [(111, tabObj (lamTab ca)), (ca, oca)]
theorem lexer_any (w : World) (news : CbLed) (loose : List Str) (mean : ExcName → Option Value) (mg mb : Str → Option Value) (p : Program) (a : Str) (ta : CbTok) (ha : a.length ≤ 100) (tab own : CbLed) (htab : TabSt tab) (hn : news = tab ++ own) (hoff : OwnOff own [111]) (kMark : KstMark)
  (dp un : Nat) (gd : Option (List Code)) (cn : Str) (sc : Scope) (a' : CbAddr) (ccd : CbVal) (cl : List (Str × CbAddr)) (outer : List Env) (A₀ : Around) (base h₀ : Heap) (L : CbAddr) (mm : Str → Option Value) (s : Shared)
  (Q E : Value → Shared → Prop)
  (B : Below A₀ base outer h₀) (F : Fr h₀ L s.heap mm) (X : (Mine.hd.heap_39 w.params).In h₀) (N : News h₀ L s.heap news) (T : Top p loose mean mg mb h₀) (hk : sc.kind = .function) (hdp : dp + 200 < recursionLimit) (hun : un + 1000 < cLine)
  (hret : ∀ (z : Lx) (us : List Value) (c tl : Nat) (pre tab' : CbLed) h' tk', z.Ok (pre ++ own) → TabSt tab' → (∀ q ∈ tab', q ∈ pre ∨ q = (z.cc, z.oc)) → (∀ q ∈ tab', q ∈ tab ∨ q.1 = 111 ∨ ∀ o ∈ own, o.1 < q.1) → SigAre us (cs a) → Fr h₀ L h' mm → News h₀ L h' (z.led w us c 1 tl [] 0 ++ (pre ++ own)) → Q (.ref z.x) { s with heap := h', toks := tk' }) (codeHd : CodeHd base 115 111) :
  wpAny (model PySem.Challenge.rw_rw0047_01.prog w) (ktrTop dp un gd cn sc L a' ccd cl outer) (call (.ref 116) [Value.str a ta]) Q E s := by
  cases htab with
  | new =>
    refine lexer_walk w news loose mean mg mb p a ta ha own hn hoff kMark dp un gd cn sc a' ccd cl outer A₀ base h₀ L mm s Q E B F X N T hk hdp hun (fun z us c tl h' tk' ok oc ql sg F' N' => ?_) codeHd
    obtain ⟨o0, o1, o2, o3, o4, o5, o6, o7, o8, o9, hcell, vs, t, hc1, hc2⟩ := id ok
    have hlt : ∀ q ∈ (111, tabObj (lamTab z.cc)) :: own, q.1 < z.cc := fun q hq => Nat.lt_trans (kst_ltOf o0 q hq) (by omega)
    refine hret z us c tl [(111, tabObj (lamTab z.cc))] [(111, tabObj (lamTab z.cc)), (z.cc, z.oc)] h' tk' ok (.old _ _ ⟨vs, t, hc1, ql ▸ hc2⟩ (hlt _ (.head _))) (fun q hq => ?_) (fun q hq => ?_) sg F' N'
    · rcases List.mem_cons.mp hq with rfl | hq
      · exact .inl (.head _)
      · exact .inr (List.mem_singleton.mp hq)
    · rcases List.mem_cons.mp hq with rfl | hq
      · exact .inr (.inl rfl)
      · rw [List.mem_singleton.mp hq]; exact .inr (.inr fun o ho => hlt o (.tail _ ho))
  | old ca oca h hca =>
    refine lexer_again w news loose mean mg mb p a ta ha own ca oca h hn hoff hca kMark dp un gd cn sc a' ccd cl outer A₀ base h₀ L mm s Q E B F X N T hk hdp hun (fun z us c tl h' tk' ok ql sg F' N' => ?_) codeHd
    exact hret z us c tl [(111, tabObj (lamTab ca)), (ca, oca)] _ h' tk' ok (.old _ _ h hca) (fun q hq => .inl hq) (fun q hq => .inl hq) sg F' N'
end
section
theorem calm_L1pm1 : True ∧ True := by
  w_top off
  k_with_none
  first
    | (walk1; fail)
    | exact ⟨trivial, trivial⟩
/-- the signs of a doubled, an escaped word -/
noncomputable def dblL (l : List Nat) : List Nat := l.flatMap fun c => cs (dblC c)
noncomputable def escL (l : List Nat) : List Nat := l.flatMap fun c => cs (escC c)
theorem cs_dblS (x : Str) : cs (dblS x) = dblL (cs x) := by simp [dblS, cs, dblL]
theorem cs_escS (x : Str) : cs (escS x) = escL (cs x) := by simp [escS, cs, escL]
theorem dblL_nil : dblL [] = [] := rfl
theorem escL_nil : escL [] = [] := rfl
theorem dblL_q (r : List Nat) : dblL (34 :: r) = 34 :: 34 :: dblL r := rfl
theorem dblL_o {c : Nat} (r : List Nat) (h : c ≠ 34) : dblL (c :: r) = c :: dblL r := by
  unfold dblL; rw [List.flatMap_cons, dblC, if_neg h]; rfl
theorem escL_y {c : Nat} (r : List Nat) (h : c = 34 ∨ c = 92) : escL (c :: r) = 92 :: c :: escL r := by
  unfold escL; rw [List.flatMap_cons, escC, if_pos h]; rfl
theorem escL_o {c : Nat} (r : List Nat) (h : ¬ (c = 34 ∨ c = 92)) : escL (c :: r) = c :: escL r := by
  unfold escL; rw [List.flatMap_cons, escC, if_neg h]; rfl
theorem dblL_app (a b : List Nat) : dblL (a ++ b) = dblL a ++ dblL b := by simp [dblL]
theorem escL_app (a b : List Nat) : escL (a ++ b) = escL a ++ escL b := by simp [escL]
theorem cnt_nil : cnt [] = 0 := rfl
theorem gt2_acc : ∀ (n : Nat) (r tok : List Nat), r.length ≤ n → gt2 r tok = (tok ++ (gt2 r []).1, (gt2 r []).2)
  | _, [], tok, _ => by simp [gt2]
  | 0, _ :: _, _, h => absurd h (by simp)
  | n + 1, c :: r, tok, h => by
    have h : r.length ≤ n := by simpa using h
    by_cases h1 : c = 34
    · subst h1; rw [gt2_q, gt2_q]; simp
    · by_cases h2 : c = 92
      · subst h2
        have ht : r.tail.length ≤ n := by rw [List.length_tail]; omega
        rw [gt2_b, gt2_b, gt2_acc n _ _ ht, gt2_acc n r.tail ([] ++ cs (rdc r)) ht]
        simp
      · rw [gt2_o h1 h2, gt2_o h1 h2, gt2_acc n _ _ h, gt2_acc n r ([] ++ [c]) h]
        simp
theorem gt2_dbl : ∀ (n : Nat) (x acc : List Nat), x.length ≤ n → (gt2 (dblL x ++ [34]) acc).1 = acc ++ tdgo x ∧ cnt (dblL x ++ [34]) = cnt (tdgo x) + cnt (gt2 (dblL x ++ [34]) acc).2
  | _, [], acc, _ => by
    rw [dblL_nil, List.nil_append, gt2_q]; exact ⟨by simp [tdgo], rfl⟩
  | 0, _ :: _, _, h => absurd h (by simp)
  | n + 1, c :: r, acc, h => by
    have h : r.length ≤ n := by simpa using h
    by_cases h1 : c = 34
    · subst h1
      rw [dblL_q, List.cons_append, List.cons_append, gt2_q, td_q]
      refine ⟨by simp, ?_⟩
      rw [cnt_cons, cnt_cons, cnt_nil]
      simp
    · by_cases h2 : c = 92
      · subst h2
        rw [dblL_o _ h1, List.cons_append, gt2_b]
        cases r with
        | nil =>
          rw [td_be]
          refine ⟨?_, rfl⟩
          show acc ++ cs (rdc [34]) = _
          rfl
        | cons d r =>
          by_cases h3 : d = 34
          · subst h3
            rw [dblL_q, List.cons_append, List.cons_append, List.tail_cons, gt2_q, td_bq]
            refine ⟨rfl, ?_⟩
            simp only [cnt_cons, cnt_nil]
            simp
          · rw [dblL_o _ h3, List.cons_append, List.tail_cons, td_b _ h3]
            have hr : r.length ≤ n := by simp at h; omega
            obtain ⟨e1, e2⟩ := gt2_dbl n r (acc ++ cs (rdc (d :: (dblL r ++ [34])))) hr
            refine ⟨?_, ?_⟩
            · rw [e1]; simp [rdc, cs]
            · rw [cnt_cons, cnt_cons, e2, cnt_cons]; simp; omega
      · rw [dblL_o _ h1, List.cons_append, gt2_o h1 h2, td_o _ h1 h2]
        obtain ⟨e1, e2⟩ := gt2_dbl n r (acc ++ [c]) h
        refine ⟨?_, ?_⟩
        · rw [e1]; simp
        · rw [cnt_cons, e2, cnt_cons]; omega
theorem gt2_esc : ∀ (x acc : List Nat), gt2 (escL x ++ [34]) acc = (acc ++ x, [])
  | [], acc => by rw [escL_nil, List.nil_append, gt2_q]; simp
  | c :: r, acc => by
    by_cases h : c = 34 ∨ c = 92
    · rw [escL_y _ h, List.cons_append, gt2_b, List.cons_append, List.tail_cons, gt2_esc r]; simp [rdc, cs]
    · rw [escL_o _ h, List.cons_append, gt2_o (fun e => h (.inl e)) (fun e => h (.inr e)), gt2_esc r]; simp
theorem cnt_app (a b : List Nat) : cnt (a ++ b) = cnt a + cnt b := by
  unfold cnt; rw [List.count_append]; omega
theorem cnt_esc : ∀ (x : List Nat), cnt (escL x) = cnt x
  | [] => rfl
  | c :: r => by
    by_cases h : c = 34 ∨ c = 92
    · rw [escL_y _ h, cnt_cons, cnt_cons, cnt_cons, cnt_esc r]; simp
    · rw [escL_o _ h, cnt_cons, cnt_cons, cnt_esc r]
theorem gtT_q (r : List Nat) : gtT (34 :: r) = gt2 r [] := by simp [gtT, isWs]
theorem cs_q : cs (Str.ofString "\"") = [34] := by rw [str_q]; rfl
/-- what the lexer tells, and on which line it ends -/
theorem tok_dbl {s v : Str} {ln' : Int} {l : List Nat} (hl : l = 34 :: (dblL (cs s) ++ [34])) (h1 : cs v = (gtT l).1) (h2 : ln' + cnt (gtT l).2 = 1 + cnt l) : v = tokD s ∧ ln' = 1 + cnt (cs v) := by
  subst hl
  rw [gtT_q] at h1 h2
  obtain ⟨e1, e2⟩ := gt2_dbl _ (cs s) [] (Nat.le_refl _)
  rw [e1, List.nil_append] at h1
  refine ⟨td_eq h1, ?_⟩
  rw [cnt_cons, e2, if_neg (by decide)] at h2
  rw [h1]
  omega
theorem tok_esc {s v : Str} {ln' : Int} {l : List Nat} (hl : l = 34 :: (escL (cs s) ++ [34])) (h1 : cs v = (gtT l).1) (h2 : ln' + cnt (gtT l).2 = 1 + cnt l) : v = s ∧ ln' = 1 + cnt (cs v) := by
  subst hl
  rw [gtT_q, gt2_esc, List.nil_append] at h1
  rw [gtT_q, gt2_esc, cnt_cons, cnt_app, cnt_esc] at h2
  refine ⟨str_ext h1, ?_⟩
  rw [h1]
  have e1 : cnt [34] = 0 := by decide
  have e2 : cnt [] = 0 := rfl
  rw [if_neg (by decide), e1] at h2
  dsimp only at h2 ⊢
  omega
theorem go_dbl : ∀ (x : List Nat), p257go (dblL x ++ [34]) = x
  | [] => by simp [dblL_nil, p257go]
  | c :: r => by
    by_cases h : c = 34
    · subst h; rw [dblL_q, List.cons_append, List.cons_append, go_qq, go_dbl r]
    · rw [dblL_o _ h, List.cons_append, go_other h, go_dbl r]
/-- the first sign of what is escaped is no quotation mark -/
theorem escL_hd (c : Nat) (r : List Nat) : ∃ d t, escL (c :: r) = d :: t ∧ d ≠ 34 := by
  by_cases h : c = 34 ∨ c = 92
  · exact ⟨_, _, escL_y _ h, by decide⟩
  · exact ⟨_, _, escL_o _ h, fun e => h (.inl e)⟩
theorem go_esc : ∀ (x : List Nat), p257go (escL x ++ [34]) = if 34 ∈ x.dropLast then escL (x.takeWhile (· != 34)) ++ [92] else escL x
  | [] => by simp [escL_nil, p257go]
  | c :: r => by
    by_cases h : c = 34
    · subst h
      rw [escL_y _ (.inl rfl), List.cons_append, List.cons_append, go_other (by decide)]
      cases r with
      | nil => rw [escL_nil]; simp [p257go]
      | cons d r =>
        obtain ⟨e, t, he, hne⟩ := escL_hd d r
        have e0 : (34 :: d :: r).takeWhile (· != 34) = [] := by simp
        rw [he, List.cons_append, go_q _ hne, e0, escL_nil, if_pos (by simp [List.dropLast])]
        rfl
    · have e1 : (c :: r).takeWhile (· != 34) = c :: r.takeWhile (· != 34) := by
        rw [List.takeWhile_cons_of_pos]; simpa using h
      have e2 : 34 ∈ (c :: r).dropLast ↔ 34 ∈ r.dropLast := by
        cases r with
        | nil => simp
        | cons d r => simp only [List.dropLast_cons_cons, List.mem_cons]; constructor
                      · rintro (e | e)
                        · exact absurd e.symm h
                        · exact e
                      · exact .inr
      rw [e1]
      simp only [e2]
      by_cases h2 : c = 92
      · subst h2
        rw [escL_y _ (.inr rfl), escL_y _ (.inr rfl), List.cons_append, List.cons_append, go_other (by decide), go_other (by decide), go_esc r]
        split <;> rfl
      · have h3 : ¬ (c = 34 ∨ c = 92) := fun e => e.elim h h2
        rw [escL_o _ h3, escL_o _ h3, List.cons_append, go_other h, go_esc r]
        split <;> rfl
theorem p257_of {s r : Str} (h : cs r = [50,53,55,32,34] ++ (dblL (cs s) ++ [34])) : p257 r = s := by
  apply str_ext
  unfold p257
  rw [h]
  show p257go (dblL (cs s) ++ [34]) = _
  exact go_dbl _
theorem p257_ofE {s r : Str} (h : cs r = [50,53,55,32,34] ++ (escL (cs s) ++ [34])) : p257 r = nameE s := by
  apply str_ext
  unfold p257
  rw [h]
  show p257go (escL (cs s) ++ [34]) = _
  rw [go_esc]
  unfold nameE
  split
  · rw [cs_append, cs_escS]; rfl
  · rw [cs_escS]
theorem dblS_len (x : Str) : x.length ≤ (dblS x).length ∧ (dblS x).length ≤ 2 * x.length := by
  rw [← cs_len, ← cs_len (dblS x), cs_dblS]
  generalize cs x = l
  induction l with
  | nil => simp [dblL]
  | cons c l ih =>
    by_cases h : c = 34
    · subst h; rw [dblL_q]; simp only [List.length_cons]; omega
    · rw [dblL_o _ h]; simp only [List.length_cons]; omega
theorem escS_len2 (x : Str) : x.length ≤ (escS x).length ∧ (escS x).length ≤ 2 * x.length := by
  rw [← cs_len, ← cs_len (escS x), cs_escS]
  generalize cs x = l
  induction l with
  | nil => simp [escL]
  | cons c l ih =>
    by_cases h : c = 34 ∨ c = 92
    · rw [escL_y _ h]; simp only [List.length_cons]; omega
    · rw [escL_o _ h]; simp only [List.length_cons]; omega
end
section
theorem calm_L1pm2 : True ∧ True := by
  w_top off
  k_with_none
  first
    | (walk1; fail)
    | exact ⟨trivial, trivial⟩
theorem D_sub {a b : List Nat} (h : a.Sublist b) : D a b + 2 * a.length = 2 * b.length := by
  have h1 := D_len a b
  suffices h2 : D a b + 2 * a.length ≤ 2 * b.length by omega
  clear h1
  induction h with
  | slnil => simp [D]
  | @cons a b y _ ih => have := D_cons_le' y a b; simp only [List.length_cons]; omega
  | @cons_cons a b x _ ih => rw [D_same]; simp only [List.length_cons]; omega
theorem sub_dbl (l : List Nat) : l.Sublist (dblL l) := by
  induction l with
  | nil => exact List.Sublist.refl _
  | cons c l ih =>
    by_cases h : c = 34
    · subst h; rw [dblL_q]; exact .cons _ (.cons_cons _ ih)
    · rw [dblL_o _ h]; exact .cons_cons _ ih
theorem sub_esc (l : List Nat) : l.Sublist (escL l) := by
  induction l with
  | nil => exact List.Sublist.refl _
  | cons c l ih =>
    by_cases h : c = 34 ∨ c = 92
    · rw [escL_y _ h]; exact .cons _ (.cons_cons _ ih)
    · rw [escL_o _ h]; exact .cons_cons _ ih
/-- a way, each step chosen at once -/
noncomputable def gal : List Nat → List Nat → Nat
  | [], b => 2 * b.length
  | a, [] => 2 * a.length
  | x :: a, y :: b => if x = y then gal a b else if a.length < b.length then gal (x :: a) b + 2 else gal a b + 2
termination_by a b => a.length + b.length
theorem gal_D : ∀ (a b : List Nat), D a b ≤ gal a b
  | [], b => by rw [D_nil, gal]; exact Nat.le_refl _
  | x :: a, [] => by rw [D_nil', gal]; exact Nat.le_refl _; simp
  | x :: a, y :: b => by
    rw [gal]
    split
    · next h => subst h; rw [D_same]; exact gal_D a b
    · split
      · have := gal_D (x :: a) b; have := D_cons_le' y (x :: a) b; omega
      · have := gal_D a b; have := sc_le x y; rw [D_cons]; omega
termination_by a b => a.length + b.length
/-- the same, by fuel: it computes -/
noncomputable def galF : Nat → List Nat → List Nat → Nat
  | 0, a, b => 2 * a.length + 2 * b.length
  | _ + 1, [], b => 2 * b.length
  | _ + 1, a, [] => 2 * a.length
  | n + 1, x :: a, y :: b => if x = y then galF n a b else if a.length < b.length then galF n (x :: a) b + 2 else galF n a b + 2
theorem D_all (a b : List Nat) : D a b ≤ 2 * a.length + 2 * b.length := by
  induction a with
  | nil => rw [D_nil]; simp
  | cons x a ih => have := D_cons_le x a b; simp only [List.length_cons]; omega
theorem galF_D : ∀ (n : Nat) (a b : List Nat), D a b ≤ galF n a b
  | 0, a, b => D_all a b
  | n + 1, [], b => by rw [D_nil, galF]; exact Nat.le_refl _
  | n + 1, x :: a, [] => by rw [D_nil', galF]; exact Nat.le_refl _; simp
  | n + 1, x :: a, y :: b => by
    rw [galF]
    split
    · next h => subst h; rw [D_same]; exact galF_D n a b
    · split
      · have := galF_D n (x :: a) b; have := D_cons_le' y (x :: a) b; omega
      · have := galF_D n a b; have := sc_le x y; rw [D_cons]; omega
noncomputable def app : List Bool → List Nat → List Nat
  | [], l => l
  | h :: hs, l => app hs (if h then dblL l else escL l)
theorem app_app (hs : List Bool) : ∀ (a b : List Nat), app hs (a ++ b) = app hs a ++ app hs b := by
  induction hs with
  | nil => intro a b; rfl
  | cons h hs ih => intro a b; cases h <;> simp [app, dblL_app, escL_app, ih]
theorem app_snoc (hs : List Bool) (h : Bool) : ∀ (a : List Nat), app (hs ++ [h]) a = if h then dblL (app hs a) else escL (app hs a) := by
  induction hs with
  | nil => intro a; rfl
  | cons g hs ih => intro a; rw [List.cons_append, app, ih]; rfl
noncomputable def alph : List Nat := [34, 92, 97, 32, 10]
noncomputable def Alph (l : List Nat) : Prop := ∀ c ∈ l, c ∈ alph
theorem alph_dbl {l : List Nat} (h : Alph l) : Alph (dblL l) := by
  intro c hc
  obtain ⟨d, hd, hc⟩ := List.mem_flatMap.mp hc
  unfold dblC at hc
  split at hc
  · next e => have : c = 34 := by simpa [cs] using hc
              subst this; decide
  · have : c = d := by simpa [cs] using hc
    subst this; exact h _ hd
theorem alph_esc {l : List Nat} (h : Alph l) : Alph (escL l) := by
  intro c hc
  obtain ⟨d, hd, hc⟩ := List.mem_flatMap.mp hc
  unfold escC at hc
  split at hc
  · have : c = 92 ∨ c = d := by simpa [cs] using hc
    rcases this with rfl | rfl
    · decide
    · exact h _ hd
  · have : c = d := by simpa [cs] using hc
    subst this; exact h _ hd
theorem alph_app (hs : List Bool) : ∀ {l : List Nat}, Alph l → Alph (app hs l) := by
  induction hs with
  | nil => intro l h; exact h
  | cons g hs ih => intro l h; cases g
                    · exact ih (alph_esc h)
                    · exact ih (alph_dbl h)
theorem sc_alph : ∀ x ∈ alph, ∀ y ∈ alph, x ≠ y → sc x y = 2 := by decide +kernel
theorem al_cnt {a b : List Nat} {n : Nat} (h : Al a b n) : Alph a → Alph b → 2 * b.count 92 ≤ n + 2 * a.count 92 := by
  induction h with
  | nil => intro _ _; simp
  | @sub a b n x y _ ih =>
    intro ha hb
    have := ih (fun c hc => ha c (.tail _ hc)) (fun c hc => hb c (.tail _ hc))
    rw [List.count_cons, List.count_cons]
    by_cases e : x = y
    · subst e; omega
    · rw [sc_alph x (ha x (.head _)) y (hb y (.head _)) e]
      split <;> split <;> omega
  | @del a b n x _ ih =>
    intro ha hb
    have := ih (fun c hc => ha c (.tail _ hc)) hb
    rw [List.count_cons]
    omega
  | @ins a b n y _ ih =>
    intro ha hb
    have := ih ha (fun c hc => hb c (.tail _ hc))
    rw [List.count_cons]
    split <;> omega
noncomputable def hands : List (List Bool) := [[], [true], [false], [true, true], [true, false], [false, true], [false, false], [true, true, true], [true, true, false], [true, false, true], [true, false, false],
  [false, true, true], [false, true, false], [false, false, true], [false, false, false]]
noncomputable def escs (k : Nat) : List Bool := List.replicate k false
theorem hands_all : ∀ (hs : List Bool), hs.length ≤ 3 → hs ∈ hands
  | [], _ => by decide
  | [a], _ => by cases a <;> decide
  | [a, b], _ => by cases a <;> cases b <;> decide
  | [a, b, c], _ => by cases a <;> cases b <;> cases c <;> decide
  | _ :: _ :: _ :: _ :: _, h => by simp at h
theorem one_cost : ∀ hs ∈ hands, ∀ c ∈ alph, galF 20 (app hs [c]) (app (escs hs.length) [c]) + 2 * (app hs [c]).count 92 ≤ 2 * (app (escs hs.length) [c]).count 92 := by decide +kernel
theorem cost_le (hs : List Bool) (h3 : hs.length ≤ 3) : ∀ (l : List Nat), Alph l → D (app hs l) (app (escs hs.length) l) + 2 * (app hs l).count 92 ≤ 2 * (app (escs hs.length) l).count 92
  | [], _ => by
    have e : ∀ hs : List Bool, app hs [] = [] := by
      intro hs; induction hs with
      | nil => rfl
      | cons h hs ih => cases h <;> exact ih
    rw [e, e]; simp [D]
  | c :: l, h => by
    have e : c :: l = [c] ++ l := rfl
    rw [e, app_app, app_app]
    have h1 := one_cost hs (hands_all hs h3) c (h c (.head _))
    have h2 := cost_le hs h3 l fun c hc => h c (.tail _ hc)
    have h3 := D_le_al ((al_D (app hs [c]) (app (escs hs.length) [c])).append (al_D (app hs l) (app (escs hs.length) l)))
    have h4 := galF_D 20 (app hs [c]) (app (escs hs.length) [c])
    rw [List.count_append, List.count_append]
    omega
theorem cost_eq (hs : List Bool) (h3 : hs.length ≤ 3) (l : List Nat) (h : Alph l) : D (app hs l) (app (escs hs.length) l) + 2 * (app hs l).count 92 = 2 * (app (escs hs.length) l).count 92 := by
  have h1 := cost_le hs h3 l h
  have h2 := al_cnt (al_D (app hs l) (app (escs hs.length) l)) (alph_app _ h) (alph_app _ h)
  omega
/-- the hands at work: what they wrote, and what hands of the kind 1 would have written -/
inductive Ch (w0 : Str) : Nat → List Str → List Str → Str → Str → Prop where
  | nil : Ch w0 0 [] [] w0 w0
  | dbl {n ss es s e} : Ch w0 n ss es s e → s.length ≤ 5 → Ch w0 (n + 1) (ss ++ [s]) (es ++ [e]) (dblS s) (escS e)
  | esc {n ss es s e} : Ch w0 n ss es s e → s.length ≤ 5 → Ch w0 (n + 1) (ss ++ [s]) (es ++ [e]) (escS s) (escS e)
theorem Ch.len {w0 : Str} {n : Nat} {ss es : List Str} {s e : Str} (h : Ch w0 n ss es s e) (h1 : 1 ≤ w0.length) (h3 : w0.length ≤ 3) :
    1 ≤ s.length ∧ s.length ≤ 10 ∧ e.length ≤ 3 * 2 ^ n ∧ ss.length = n ∧ es.length = n := by
  induction h with
  | nil => simp; omega
  | @dbl n ss es s e _ h5 ih => have := dblS_len s; have := escS_len2 e; simp [Nat.pow_succ]; omega
  | @esc n ss es s e _ h5 ih => have := escS_len2 s; have := escS_len2 e; simp [Nat.pow_succ]; omega
theorem Ch.all_len {w0 : Str} {n : Nat} {ss es : List Str} {s e : Str} (h : Ch w0 n ss es s e) (h1 : 1 ≤ w0.length) (h3 : w0.length ≤ 3) :
    (∀ x ∈ ss ++ [s], x.length ≤ 10) ∧ (∀ x ∈ es ++ [e], x.length ≤ 3 * 2 ^ n) := by
  have key : ∀ {n : Nat} {ss es : List Str} {s e : Str}, Ch w0 n ss es s e → (∀ x ∈ ss, x.length ≤ 10) ∧ (∀ x ∈ es, x.length ≤ 3 * 2 ^ n) := by
    intro n ss es s e h
    induction h with
    | nil => simp
    | @dbl n ss es s e hc h5 ih =>
      have hl := hc.len h1 h3
      refine ⟨fun x hx => ?_, fun x hx => ?_⟩
      · rcases List.mem_append.mp hx with hx | hx
        · exact ih.1 x hx
        · rw [List.mem_singleton.mp hx]; omega
      · rw [Nat.pow_succ]
        rcases List.mem_append.mp hx with hx | hx
        · have := ih.2 x hx; omega
        · rw [List.mem_singleton.mp hx]; omega
    | @esc n ss es s e hc h5 ih =>
      have hl := hc.len h1 h3
      refine ⟨fun x hx => ?_, fun x hx => ?_⟩
      · rcases List.mem_append.mp hx with hx | hx
        · exact ih.1 x hx
        · rw [List.mem_singleton.mp hx]; omega
      · rw [Nat.pow_succ]
        rcases List.mem_append.mp hx with hx | hx
        · have := ih.2 x hx; omega
        · rw [List.mem_singleton.mp hx]; omega
  have hl := h.len h1 h3
  refine ⟨fun x hx => ?_, fun x hx => ?_⟩
  · rcases List.mem_append.mp hx with hx | hx
    · exact (key h).1 x hx
    · rw [List.mem_singleton.mp hx]; omega
  · rcases List.mem_append.mp hx with hx | hx
    · exact (key h).2 x hx
    · rw [List.mem_singleton.mp hx]; omega
theorem Ch.sub {w0 : Str} {n : Nat} {ss es : List Str} {s e : Str} (h : Ch w0 n ss es s e) : (ss ++ [s]).Pairwise fun a b => (cs a).Sublist (cs b) := by
  have key : ∀ {ss : List Str} {s t : Str}, (ss ++ [s]).Pairwise (fun a b => (cs a).Sublist (cs b)) → (cs s).Sublist (cs t) → ((ss ++ [s]) ++ [t]).Pairwise fun a b => (cs a).Sublist (cs b) := by
    intro ss s t hp hs
    refine List.pairwise_append.mpr ⟨hp, by simp, fun a ha b hb => ?_⟩
    rw [List.mem_singleton.mp hb]
    rcases List.mem_append.mp ha with ha | ha
    · exact ((List.pairwise_append.mp hp).2.2 a ha s (by simp)).trans hs
    · rw [List.mem_singleton.mp ha]; exact hs
  induction h with
  | nil => simp
  | dbl _ _ ih => exact key ih (by rw [cs_dblS]; exact sub_dbl _)
  | esc _ _ ih => exact key ih (by rw [cs_escS]; exact sub_esc _)
theorem Ch.app {w0 : Str} {n : Nat} {ss es : List Str} {s e : Str} (h : Ch w0 n ss es s e) : ∃ hs : List Bool, hs.length = n ∧ cs s = app hs (cs w0) ∧ cs e = app (escs n) (cs w0) := by
  have e1 : ∀ n, escs (n + 1) = escs n ++ [false] := fun n => List.replicate_succ'
  induction h with
  | nil => exact ⟨[], rfl, rfl, rfl⟩
  | @dbl n ss es s e _ _ ih =>
    obtain ⟨hs, a, b, c⟩ := ih
    exact ⟨hs ++ [true], by simp [a], by rw [cs_dblS, app_snoc, b]; rfl, by rw [cs_escS, e1, app_snoc, c]; rfl⟩
  | @esc n ss es s e _ _ ih =>
    obtain ⟨hs, a, b, c⟩ := ih
    exact ⟨hs ++ [false], by simp [a], by rw [cs_escS, app_snoc, b]; rfl, by rw [cs_escS, e1, app_snoc, c]; rfl⟩
theorem Ch.at {w0 : Str} {n : Nat} {ss es : List Str} {s e : Str} (h : Ch w0 n ss es s e) : ∀ {k : Nat} {x y : Str}, (ss ++ [s])[k]? = some x → (es ++ [e])[k]? = some y → ∃ hs : List Bool, hs.length = k ∧ hs.length ≤ n ∧ cs x = Mine.app hs (cs w0) ∧ cs y = Mine.app (escs k) (cs w0) := by
  have hlen : ss.length = n ∧ es.length = n := by
    have : ∀ {n : Nat} {ss es : List Str} {s e : Str}, Ch w0 n ss es s e → ss.length = n ∧ es.length = n := by
      intro n ss es s e h
      induction h with
      | nil => exact ⟨rfl, rfl⟩
      | dbl _ _ ih => simp [ih.1, ih.2]
      | esc _ _ ih => simp [ih.1, ih.2]
    exact this h
  have key : ∀ {n : Nat} {ss es : List Str} {s e : Str}, Ch w0 n ss es s e → ss.length = n → es.length = n → (∀ {k : Nat} {x y : Str}, ss[k]? = some x → es[k]? = some y → ∃ hs : List Bool, hs.length = k ∧ hs.length ≤ n ∧ cs x = Mine.app hs (cs w0) ∧ cs y = Mine.app (escs k) (cs w0)) →
      ∀ {k : Nat} {x y : Str}, (ss ++ [s])[k]? = some x → (es ++ [e])[k]? = some y → ∃ hs : List Bool, hs.length = k ∧ hs.length ≤ n ∧ cs x = Mine.app hs (cs w0) ∧ cs y = Mine.app (escs k) (cs w0) := by
    intro n ss es s e h hl1 hl2 hb k x y hx hy
    rcases Nat.lt_trichotomy k n with hk | hk | hk
    · rw [List.getElem?_append_left (by omega)] at hx
      rw [List.getElem?_append_left (by omega)] at hy
      exact hb hx hy
    · rw [List.getElem?_append_right (by omega), hl1, hk, Nat.sub_self] at hx
      rw [List.getElem?_append_right (by omega), hl2, hk, Nat.sub_self] at hy
      have hx : s = x := by simpa using hx
      have hy : e = y := by simpa using hy
      subst hx hy
      obtain ⟨hs, a, b, c⟩ := h.app
      exact ⟨hs, by omega, by omega, b, by rw [hk]; exact c⟩
    · rw [List.getElem?_eq_none (by simp; omega)] at hx
      cases hx
  intro k x y hx hy
  refine key h hlen.1 hlen.2 ?_ hx hy
  clear hx hy key k x y
  induction h with
  | nil => intro k x y hx; simp at hx
  | @dbl n ss es s e hc _ ih =>
    intro k x y hx hy
    have hl : ss.length = n ∧ es.length = n := by simpa using hlen
    rcases Nat.lt_trichotomy k n with hk | hk | hk
    · rw [List.getElem?_append_left (by omega)] at hx
      rw [List.getElem?_append_left (by omega)] at hy
      obtain ⟨hs, a, b, c⟩ := ih hl hx hy
      exact ⟨hs, a, by omega, c⟩
    · rw [List.getElem?_append_right (by omega), hl.1, hk, Nat.sub_self] at hx
      rw [List.getElem?_append_right (by omega), hl.2, hk, Nat.sub_self] at hy
      have hx : s = x := by simpa using hx
      have hy : e = y := by simpa using hy
      subst hx hy
      obtain ⟨hs, a, b, c⟩ := hc.app
      exact ⟨hs, by omega, by omega, b, by rw [hk]; exact c⟩
    · rw [List.getElem?_eq_none (by simp; omega)] at hx
      cases hx
  | @esc n ss es s e hc _ ih =>
    intro k x y hx hy
    have hl : ss.length = n ∧ es.length = n := by simpa using hlen
    rcases Nat.lt_trichotomy k n with hk | hk | hk
    · rw [List.getElem?_append_left (by omega)] at hx
      rw [List.getElem?_append_left (by omega)] at hy
      obtain ⟨hs, a, b, c⟩ := ih hl hx hy
      exact ⟨hs, a, by omega, c⟩
    · rw [List.getElem?_append_right (by omega), hl.1, hk, Nat.sub_self] at hx
      rw [List.getElem?_append_right (by omega), hl.2, hk, Nat.sub_self] at hy
      have hx : s = x := by simpa using hx
      have hy : e = y := by simpa using hy
      subst hx hy
      obtain ⟨hs, a, b, c⟩ := hc.app
      exact ⟨hs, by omega, by omega, b, by rw [hk]; exact c⟩
    · rw [List.getElem?_eq_none (by simp; omega)] at hx
      cases hx
/-- from an elder one to a later one -/
theorem Ch.due1 {w0 : Str} {n : Nat} {ss es : List Str} {s e : Str} (h : Ch w0 n ss es s e) {j k : Nat} {x y : Str} {v : Int} (hjk : j < k) (hx : (ss ++ [s])[j]? = some x) (hy : (ss ++ [s])[k]? = some y)
    (hv : LevOk x y (2 * ((y.length : Int) - x.length)) v) : v = 2 * ((y.length : Int) - x.length) := by
  have hs : (cs x).Sublist (cs y) := by
    obtain ⟨h1, e1⟩ := List.getElem?_eq_some_iff.mp hx
    obtain ⟨h2, e2⟩ := List.getElem?_eq_some_iff.mp hy
    have := List.pairwise_iff_getElem.mp h.sub j k h1 h2 hjk
    rwa [e1, e2] at this
  have hD := D_sub hs
  rw [cs_len, cs_len] at hD
  rcases hv with hv | hv <;> omega
/-- from what some hands have made to what as many hands of the kind 1 make -/
theorem Ch.due2 {w0 : Str} {n : Nat} {ss es : List Str} {s e : Str} (h : Ch w0 n ss es s e) (hn : n ≤ 3) (ha : Alph (cs w0)) {k : Nat} {x y : Str} (hx : (ss ++ [s])[k]? = some x) (hy : (es ++ [e])[k]? = some y) :
    (D (cs x) (cs y) : Int) = 2 * (((cs y).count 92 : Nat) - ((cs x).count 92 : Nat) : Int) := by
  obtain ⟨hs, e1, e2, e3, e4⟩ := h.at hx hy
  have := cost_eq hs (by omega) (cs w0) ha
  rw [e1, ← e3, ← e4] at this
  omega
end
section
theorem calm_L1lt0 : True ∧ True := by
  w_top off
  k_with_none
  first
    | (walk1; fail)
    | exact ⟨trivial, trivial⟩
noncomputable def lawB : {l : List Stmt // fnBody (fnOfName (Str.ofString "law") PySem.Challenge.rw_rw0047_01.prog.main.body) = l} := by
  apply Subtype.mk
  conv => lhs; whnf
noncomputable def lawS : {l : Scope // fnScope (fnOfName (Str.ofString "law") PySem.Challenge.rw_rw0047_01.prog.main.body) = l} := by
  apply Subtype.mk
  conv => lhs; whnf
noncomputable def lawF1 : {l : Stmt // lawB.1.getD 4 default = l} := by
  apply Subtype.mk
  conv => lhs; whnf
noncomputable def lawF2 : {l : Stmt // lawB.1.getD 5 default = l} := by
  apply Subtype.mk
  conv => lhs; whnf
theorem mem_a {α : Type} {a b q : α} {l r o : List α} (h : q ∈ a :: b :: (l ++ (r ++ o))) : q ∈ l ++ (r ++ a :: b :: o) := by
  simp only [List.mem_cons, List.mem_append] at h ⊢
  rcases h with h | h | h | h | h <;> simp [h]
theorem mem_b {α : Type} {a b q : α} {l o : List α} (h : q ∈ l ++ a :: b :: o) : q ∈ a :: b :: (l ++ o) := by
  simp only [List.mem_cons, List.mem_append] at h ⊢
  rcases h with h | h | h | h <;> simp [h]
theorem mem_c {α : Type} {a b q : α} {l o : List α} (h : q ∈ a :: b :: (l ++ o)) : q ∈ l ++ a :: b :: o := by
  simp only [List.mem_cons, List.mem_append] at h ⊢
  rcases h with h | h | h | h <;> simp [h]
theorem lexer_law (w : World) (news : CbLed) (loose : List Str) (mean : ExcName → Option Value) (mg mb : Str → Option Value) (p : Program) (a : Str) (ta : CbTok) (tab own : CbLed) (oS oE : Addr × Obj) (ha : a.length ≤ 100) (htab : TabSt tab) (hn : news = oS :: oE :: (tab ++ own)) (hoff : OwnOff (oS :: oE :: own) [111]) (kMark : KstMark)
  (dp un : Nat) (gd : Option (List Code)) (cn : Str) (sc : Scope) (a' : CbAddr) (ccd : CbVal) (cl : List (Str × CbAddr)) (outer : List Env) (A₀ : Around) (base h₀ : Heap) (L : CbAddr) (mm : Str → Option Value) (s : Shared)
  (Q E : Value → Shared → Prop)
  (B : Below A₀ base outer h₀) (F : Fr h₀ L s.heap mm) (X : (Mine.hd.heap_39 w.params).In h₀) (N : News h₀ L s.heap news) (T : Top p loose mean mg mb h₀) (hk : sc.kind = .function) (hdp : dp + 200 < recursionLimit) (hun : un + 1000 < cLine)
  (hret : ∀ (z : Lx) (us : List Value) (c tl : Nat) (pre tab' : CbLed) h' tk', z.Ok (oS :: oE :: (pre ++ own)) → TabSt tab' → (∀ q ∈ tab', q ∈ pre ∨ q = (z.cc, z.oc)) → (∀ q ∈ tab', q ∈ tab ∨ q.1 = 111 ∨ ∀ o ∈ oS :: oE :: own, o.1 < q.1) → SigAre us (cs a) → Fr h₀ L h' mm → News h₀ L h' (oS :: oE :: (z.led w us c 1 tl [] 0 ++ (pre ++ own))) → Q (.ref z.x) { s with heap := h', toks := tk' }) (codeHd : CodeHd base 115 111) :
  wpAny (model PySem.Challenge.rw_rw0047_01.prog w) (ktrTop dp un gd cn sc L a' ccd cl outer) (call (.ref 116) [Value.str a ta]) Q E s := by
  subst hn
  refine lexer_any w (tab ++ oS :: oE :: own) loose mean mg mb p a ta ha tab (oS :: oE :: own) htab rfl hoff kMark dp un gd cn sc a' ccd cl outer A₀ base h₀ L mm s Q E B F X (fun q hq => N q (mem_b hq)) T hk hdp hun (fun z us c tl pre tab' h' tk' ok ht h1 h2 sg F' N' => ?_) codeHd
  refine hret z us c tl pre tab' h' tk' { ok with o0 := allLt_of fun q hq => kst_ltOf ok.o0 q (mem_c hq) } ht h1 h2 sg F' fun q hq => N' q (mem_a hq)
theorem gt_law (w : World) (news : CbLed) (loose : List Str) (mean : ExcName → Option Value) (mg mb : Str → Option Value) (p : Program) (z : Lx) (us : List Value) (l : List Nat) (nn : Nat) (ln : Int) (tl np : Nat) (own : CbLed) (oS oE : Addr × Obj) (hz : z.Ok (oS :: oE :: own)) (hs : SigAre us l) (hlen : l.length ≤ 900) (hN : news = oS :: oE :: (z.led w us nn ln tl [] np ++ own)) (kMark : KstMark)
  (dp un : Nat) (gd : Option (List Code)) (cn : Str) (sc : Scope) (a' : CbAddr) (ccd : CbVal) (cl : List (Str × CbAddr)) (outer : List Env) (A₀ : Around) (base h₀ : Heap) (L : CbAddr) (mm : Str → Option Value) (s : Shared)
  (Q E : Value → Shared → Prop)
  (B : Below A₀ base outer h₀) (F : Fr h₀ L s.heap mm) (X : (Mine.hd.heap_39 w.params).In h₀) (N : News h₀ L s.heap news) (T : Top p loose mean mg mb h₀) (hk : sc.kind = .function) (hdp : dp + 200 < recursionLimit) (hun : un + 1000 < cLine)
  (hret : ∀ v t h' tk' us' n' ln' tl', cs v = (gtT l).1 → SigAre us' (gtT l).2 → ln' + cnt (gtT l).2 = ln + cnt l → Fr h₀ L h' mm → News h₀ L h' (oS :: oE :: (z.led w us' n' ln' tl' [] np ++ own)) → Q (.str v t) { s with heap := h', toks := tk' }) (codeHd : CodeHd base 115 111) :
  wpAny (model PySem.Challenge.rw_rw0047_01.prog w) (ktrTop dp un gd cn sc L a' ccd cl outer) (call (.ref 81) [.ref z.x]) Q E s := by
  subst hN
  refine gt_walk w (z.led w us nn ln tl [] np ++ oS :: oE :: own) loose mean mg mb p z us l nn ln tl np (oS :: oE :: own) hz hs hlen rfl kMark dp un gd cn sc a' ccd cl outer A₀ base h₀ L mm s Q E B F X (fun q hq => N q (mem_b hq)) T hk hdp hun (fun v t h' tk' us' n' ln' tl' e1 e2 e3 F' N' => hret v t h' tk' us' n' ln' tl' e1 e2 e3 F' fun q hq => N' q (mem_c hq)) codeHd
section
variable {prog : Program} {w : World} {A : Around} {E : Value → Shared → Prop} {s : Shared} {h₀ : Heap} {L : Addr} {m : Str → Option Value} {news : List (Addr × Obj)} {value slice : PySem.Expr} {D : Addr} {Q : Value → Shared → Prop}
/-- the last item of a list -/
theorem item_last {us : List Value} {v : Value} {n : Nat} {u : Tok} (N : News h₀ L s.heap news) (hm : (D, listOf (us ++ [v]).toArray n) ∈ news) (hz : us.length ≤ 1000) (h : Q v s)
    (hs : subscripted slice false (.ref D) (.int (-1) u) = operate [.ref D, .int (-1) u] (getItem (.ref D) (.int (-1) u)) := by with_unfolding_all rfl) :
    wpAny (model prog w) A (subscriptTail value slice (.ref D) (.int (-1) u)) Q E s := by
  have hl : s.heap.IsList D (us ++ [v]).toArray := ⟨_, (N _ hm).1, rfl, n, rfl⟩
  refine tail_any hl.typeIs slot_list_getitem.lookup (wpAny_getItem_list_neg hl (by decide) ?_ (by decide) (x := v) ?_ h) hs
  · rw [List.size_toArray, List.length_append, List.length_singleton]; omega
  · rw [List.size_toArray, List.length_append, List.length_singleton, List.getElem?_toArray]
    have e : ((-1 : Int) + ((us.length + 1 : Nat) : Int)).toNat = us.length := by omega
    rw [e, List.getElem?_append_right (Nat.le_refl _), Nat.sub_self]; rfl
/-- an item of a list of texts -/
theorem item_txt {us : List Value} {n : Nat} {u : Tok} {k : Int} {ss : List Str} (N : News h₀ L s.heap news) (hm : (D, listOf us.toArray n) ∈ news) (hi : StrsAre us ss) (h0 : 0 ≤ k) (h1 : k < ss.length) (hz : ss.length ≤ 1000)
    (h : ∀ x t, ss[k.toNat]? = some x → Q (.str x t) s)
    (hs : subscripted slice false (.ref D) (.int k u) = operate [.ref D, .int k u] (getItem (.ref D) (.int k u)) := by with_unfolding_all rfl) :
    wpAny (model prog w) A (subscriptTail value slice (.ref D) (.int k u)) Q E s := by
  have hl : s.heap.IsList D us.toArray := ⟨_, (N _ hm).1, rfl, n, rfl⟩
  obtain ⟨x, t, e1, e2⟩ : ∃ x t, ss[k.toNat]? = some x ∧ us[k.toNat]? = some (.str x t) := by
    clear hl hm
    have hk : k.toNat < ss.length := by omega
    generalize k.toNat = j at hk
    clear h h0 h1 hz hs
    induction hi generalizing j with
    | nil => simp at hk
    | @cons x t us ss hi ih =>
      cases j with
      | zero => exact ⟨x, t, rfl, rfl⟩
      | succ j => simpa using ih j (by simpa using hk)
  exact tail_any hl.typeIs slot_list_getitem.lookup (wpAny_getItem_list hl h0 (by omega) (by rw [List.getElem?_toArray]; exact e2) (h x t e1)) hs
end
end
section
theorem calm_L1lt1 : True ∧ True := by
  w_top off
  k_with_none
  first
    | (walk1; fail)
    | exact ⟨trivial, trivial⟩
/-- the frame's names that the loops need -/
noncomputable abbrev frm (ve vs vc : Value) (m : Str → Option Value) : Str → Option Value := fun y => if y = Str.ofString "ends" then some ve else if y = Str.ofString "stages" then some vs else if y = Str.ofString "second" then some vc else m y
noncomputable def Hold (P : Prop) : Prop := P
theorem hold_of {P : Prop} (h : Hold P) : P := h
theorem mem_d {α : Type} {a b c q : α} {l : List α} (hc : c ∈ l) (h : q ∈ [b, a, c]) : q ∈ l ++ [a, b] := by
  simp only [List.mem_cons, List.mem_append, List.not_mem_nil, or_false] at h ⊢
  rcases h with h | h | h <;> simp [h, hc]
theorem mem_e {α : Type} {a b c q : α} (h : q ∈ [c, b, a]) : q ∈ [a, b, c] := by
  simp only [List.mem_cons, List.not_mem_nil, or_false] at h ⊢
  rcases h with h | h | h <;> simp [h]
theorem mem_f {α : Type} {a b q : α} {l o : List α} (h : q ∈ a :: b :: (l ++ o)) : q ∈ l ++ [a, b] ++ o := by
  simp only [List.mem_cons, List.mem_append, List.not_mem_nil, or_false] at h ⊢
  rcases h with h | h | h | h <;> simp [h]
theorem strs_snoc {y : Str} {t : Tok} : ∀ {vs : List Value} {ys : List Str}, StrsAre vs ys → StrsAre (vs ++ [.str y t]) (ys ++ [y])
  | _, _, .nil => .cons y t .nil
  | _, _, .cons z u r => .cons z u (strs_snoc r)
theorem strs_len {vs : List Value} {ys : List Str} (h : StrsAre vs ys) : vs.length = ys.length := by induction h <;> simp_all
theorem str_trip (a b : Str) : (Str.ofString "\"" ++ a ++ b).length = 1 + a.length + b.length := by rw [Str.length_append, Str.length_append]; rfl
theorem cs_trip (a : Str) : cs (Str.ofString "\"" ++ a ++ Str.ofString "\"") = 34 :: (cs a ++ [34]) := by rw [cs_append, cs_append, cs_q]; simp
theorem trip_dbl (s : Str) : cs (Str.ofString "\"" ++ dblS s ++ Str.ofString "\"") = 34 :: (dblL (cs s) ++ [34]) := by rw [cs_trip, cs_dblS]
theorem trip_esc (s : Str) : cs (Str.ofString "\"" ++ escS s ++ Str.ofString "\"") = 34 :: (escL (cs s) ++ [34]) := by rw [cs_trip, cs_escS]
theorem cs_five (a : Str) : cs (Str.ofString "257 \"" ++ a ++ Str.ofString "\"") = [50,53,55,32,34] ++ (cs a ++ [34]) := by
  have e : cs (Str.ofString "257 \"") = [50,53,55,32,34] := by decide +kernel
  rw [cs_append, cs_append, cs_q, e]; simp
theorem rows_L1lt1_13 : True := by
  k_with "pyIter ref" => (k_here; refine hold_of ?_)
  trivial
theorem rk_of {n i : Nat} {k : Int} (h : (rangeKs 0 n)[i]? = some k) : i < n ∧ k = (i : Int) := by
  obtain ⟨h1, h2⟩ := List.getElem?_eq_some_iff.mp h
  simp [rangeKs] at h1 h2
  exact ⟨h1, h2.symm⟩
theorem own_off {tab own : CbLed} {oS oE : Addr × Obj} (h : TabSt tab) (o1 : 111 < oS.1) (o2 : oS.1 < oE.1) (hoff : TbOff own (tab ++ [oS, oE])) : OwnOff (oS :: oE :: own) [111] := by
  intro q hq b hb
  rw [List.mem_singleton.mp hb]
  rcases List.mem_cons.mp hq with rfl | hq
  · exact Nat.ne_of_gt o1
  rcases List.mem_cons.mp hq with rfl | hq
  · exact Nat.ne_of_gt (Nat.lt_trans o1 o2)
  have : ∃ o, (111, o) ∈ tab := by cases h <;> exact ⟨_, .head _⟩
  obtain ⟨o, ho⟩ := this
  exact hoff q hq _ (List.mem_append_left _ ho)
theorem len_q : (Str.ofString "\"").length = 1 := by decide +kernel
theorem len_257 : (Str.ofString "257 \"").length = 5 := by decide +kernel
theorem p257_d (w : World) (news : CbLed) (loose : List Str) (mean : ExcName → Option Value) (mg mb : Str → Option Value) (p : Program) (x : Str) (ta : CbTok) (hlen : x.length ≤ 100)
  (dp un : Nat) (gd : Option (List Code)) (cn : Str) (sc : Scope) (a' : CbAddr) (ccd : CbVal) (cl : List (Str × CbAddr)) (outer : List Env) (A₀ : Around) (base h₀ : Heap) (L : CbAddr) (mm : Str → Option Value) (s : Shared)
  (Q E : Value → Shared → Prop)
  (B : Below A₀ base outer h₀) (F : Fr h₀ L s.heap mm) (X : (Mine.hd.heap_39 w.params).In h₀) (N : News h₀ L s.heap news) (T : Top p loose mean mg mb h₀) (hk : sc.kind = .function) (hdp : dp + 150 < recursionLimit) (hun : un + 800 < cLine)
  (hret : ∀ t h' tk', Fr h₀ L h' mm → News h₀ L h' news → Q (.str x t) { s with heap := h', toks := tk' }) :
  wpAny (model PySem.Challenge.rw_rw0047_01.prog w) (ktrTop dp un gd cn sc L a' ccd cl outer) (call (.ref 53) [Value.str (Str.ofString "257 \"" ++ dblS x ++ Str.ofString "\"") ta]) Q E s := by
  have e := cs_five (dblS x)
  have hd := dblS_len x
  refine p257_walk _ _ _ _ _ _ _ _ ta (by rw [← cs_len, e]; simp [cs_len]; omega) (by rw [e]; rfl) dp un gd cn sc a' ccd cl outer A₀ base h₀ L mm s Q E B F X N T hk hdp hun fun t h' tk' F' N' => ?_
  rw [p257_of (s := x) (by rw [e, cs_dblS])]
  exact hret t h' tk' F' N'
theorem p257_e (w : World) (news : CbLed) (loose : List Str) (mean : ExcName → Option Value) (mg mb : Str → Option Value) (p : Program) (x : Str) (ta : CbTok) (hlen : x.length ≤ 100)
  (dp un : Nat) (gd : Option (List Code)) (cn : Str) (sc : Scope) (a' : CbAddr) (ccd : CbVal) (cl : List (Str × CbAddr)) (outer : List Env) (A₀ : Around) (base h₀ : Heap) (L : CbAddr) (mm : Str → Option Value) (s : Shared)
  (Q E : Value → Shared → Prop)
  (B : Below A₀ base outer h₀) (F : Fr h₀ L s.heap mm) (X : (Mine.hd.heap_39 w.params).In h₀) (N : News h₀ L s.heap news) (T : Top p loose mean mg mb h₀) (hk : sc.kind = .function) (hdp : dp + 150 < recursionLimit) (hun : un + 800 < cLine)
  (hret : ∀ t h' tk', Fr h₀ L h' mm → News h₀ L h' news → Q (.str (nameE x) t) { s with heap := h', toks := tk' }) :
  wpAny (model PySem.Challenge.rw_rw0047_01.prog w) (ktrTop dp un gd cn sc L a' ccd cl outer) (call (.ref 53) [Value.str (Str.ofString "257 \"" ++ escS x ++ Str.ofString "\"") ta]) Q E s := by
  have e := cs_five (escS x)
  have hd := escS_len2 x
  refine p257_walk _ _ _ _ _ _ _ _ ta (by rw [← cs_len, e]; simp [cs_len]; omega) (by rw [e]; rfl) dp un gd cn sc a' ccd cl outer A₀ base h₀ L mm s Q E B F X N T hk hdp hun fun t h' tk' F' N' => ?_
  rw [p257_ofE (s := x) (by rw [e, cs_escS])]
  exact hret t h' tk' F' N'
theorem rows_L1lt1_14 : True := by
  k_with "subscriptTail" => (k_here; (with_reducible show wpAny _ _ (subscriptTail _ _ (Value.ref _) (Value.int _ _)) _ _ _); (with_unfolding_all refine' item_last ?h1 ?h2 ?h3 ?_); (case h1 => k_asm); (case h2 => k_mem); (case h3 => omega))
  k_with "binaryOp Add str str" => (k_here; (with_unfolding_all refine' SBL.add ?_ ?h2); (case h2 => (rw [sizeLine_eq]; simp only [Str.length_append, len_q, len_257]; omega)); intros)
  k_with "call ref" => (k_here; (with_unfolding_all refine' doubled_walk _ _ _ _ _ _ _ _ _ ?p0 _ _ _ _ _ _ _ _ _ _ _ _ _ _ _ _ _ ?k1 ?k2 ?k3 ?k4 ?k5 ?k6 ?k7 ?k8 ?_); (case k2 => k_asm); (case k4 => k_asm); (case k1 => k_asm); (case k3 => k_asm); (case k5 => k_asm); (case k6 => with_unfolding_all rfl); (case k7 => ktr_room); (case k8 => ktr_units); (case p0 => omega); intros)
  k_with "call ref" => (k_here; (with_unfolding_all refine' escaped_walk _ _ _ _ _ _ _ _ _ ?p0 _ _ _ _ _ _ _ _ _ _ _ _ _ _ _ _ _ ?k1 ?k2 ?k3 ?k4 ?k5 ?k6 ?k7 ?k8 ?_); (case k2 => k_asm); (case k4 => k_asm); (case k1 => k_asm); (case k3 => k_asm); (case k5 => k_asm); (case k6 => with_unfolding_all rfl); (case k7 => ktr_room); (case k8 => ktr_units); (case p0 => omega); intros)
  k_with "call ref" => (k_here; (with_unfolding_all refine' tokofd_walk _ _ _ _ _ _ _ _ _ ?p0 _ _ _ _ _ _ _ _ _ _ _ _ _ _ _ _ _ ?k1 ?k2 ?k3 ?k4 ?k5 ?k6 ?k7 ?k8 ?_); (case k2 => k_asm); (case k4 => k_asm); (case k1 => k_asm); (case k3 => k_asm); (case k5 => k_asm); (case k6 => with_unfolding_all rfl); (case k7 => ktr_room); (case k8 => ktr_units); (case p0 => omega); intros)
  k_with "call ref" => (k_here; (with_unfolding_all refine' nameofe_walk _ _ _ _ _ _ _ _ _ ?p0 ?p1 _ _ _ _ _ _ _ _ _ _ _ _ _ _ _ _ _ ?k1 ?k2 ?k3 ?k4 ?k5 ?k6 ?k7 ?k8 ?_); (case k2 => k_asm); (case k4 => k_asm); (case k1 => k_asm); (case k3 => k_asm); (case k5 => k_asm); (case k6 => with_unfolding_all rfl); (case k7 => ktr_room); (case k8 => ktr_units); (case p0 => omega); (case p1 => omega); intros)
  k_with "call ref" => ((with_reducible show wpAny _ _ (call (Value.ref 53) [Value.str (_ ++ dblS _ ++ _) _]) _ _ _); (k_here; (with_unfolding_all refine' p257_d _ _ _ _ _ _ _ _ _ ?p0 _ _ _ _ _ _ _ _ _ _ _ _ _ _ _ _ _ ?k1 ?k2 ?k3 ?k4 ?k5 ?k6 ?k7 ?k8 ?_); (case k2 => k_asm); (case k4 => k_asm); (case k1 => k_asm); (case k3 => k_asm); (case k5 => k_asm); (case k6 => with_unfolding_all rfl); (case k7 => ktr_room); (case k8 => ktr_units); (case p0 => omega); intros))
  k_with "call ref" => ((with_reducible show wpAny _ _ (call (Value.ref 53) [Value.str (_ ++ escS _ ++ _) _]) _ _ _); (k_here; (with_unfolding_all refine' p257_e _ _ _ _ _ _ _ _ _ ?p0 _ _ _ _ _ _ _ _ _ _ _ _ _ _ _ _ _ ?k1 ?k2 ?k3 ?k4 ?k5 ?k6 ?k7 ?k8 ?_); (case k2 => k_asm); (case k4 => k_asm); (case k1 => k_asm); (case k3 => k_asm); (case k5 => k_asm); (case k6 => with_unfolding_all rfl); (case k7 => ktr_room); (case k8 => ktr_units); (case p0 => omega); intros))
  k_with "call ref" => (k_here; (with_unfolding_all refine' lexer_law _ _ _ _ _ _ _ _ _ _ _ _ _ ?p1 ?p2 ?p3 ?p4 ?p5 _ _ _ _ _ _ _ _ _ _ _ _ _ _ _ _ _ ?k1 ?k2 ?k3 ?k4 ?k5 ?k6 ?k7 ?k8 ?_ ?k9); (case k2 => k_asm); (case k4 => k_asm); (case k1 => k_asm); (case k3 => k_asm); (case k5 => k_asm); (case k6 => with_unfolding_all rfl); (case k7 => ktr_room); (case k8 => ktr_units); (case p3 => rfl); (case p2 => assumption); (case p1 => (rw [str_trip, len_q]; omega)); (case p4 => assumption); (case p5 => assumption); (case k9 => assumption); intro zqRow usqRow cqRow tlqRow preqRow tabqRow hqRow tkqRow okqRow htqRow hpqRow hqqRow sgqRow FqRow NqRow)
  k_with "call ref" => (k_here; (with_unfolding_all refine' gt_law _ _ _ _ _ _ _ _ _ _ _ _ _ _ _ _ _ ?p1 ?p2 ?p3 ?p4 ?p5 _ _ _ _ _ _ _ _ _ _ _ _ _ _ _ _ _ ?k1 ?k2 ?k3 ?k4 ?k5 ?k6 ?k7 ?k8 ?_ ?k9); (case k2 => k_asm); (case k4 => k_asm); (case p4 => with_unfolding_all rfl); (case k1 => k_asm); (case k3 => k_asm); (case k5 => k_asm); (case k6 => with_unfolding_all rfl); (case k7 => ktr_room); (case k8 => ktr_units); (case p2 => assumption); (case p1 => assumption); (case p3 => (rw [cs_len, str_trip, len_q]; omega)); (case p5 => assumption); (case k9 => assumption); intro vqRow tqRow hqRow tkqRow usqRow nqRow lnqRow tlqRow e1qRow e2qRow e3qRow FqRow NqRow; (first | ((with_reducible rename SigAre _ (cs (_ ++ dblS _ ++ _)) => sgDqRow); (have hhqRow := tok_dbl (trip_dbl _) e1qRow e3qRow)) | (have hhqRow := tok_esc (trip_esc _) e1qRow e3qRow)); (obtain ⟨hvqRow, hlqRow⟩ := hhqRow); (subst hvqRow); (subst hlqRow); (clear e1qRow e3qRow); (try dsimp only [Lx.led, lamP, lamB, lamS] at NqRow); (try simp only [List.cons_append, List.nil_append] at NqRow))
  trivial
theorem txt_cnt {x y : Str} {c : Nat} (h : y = ⟨#[c]⟩) : Txt.count x y = ((cs x).count c : Nat) := by
  subst h
  rw [PyProof.Rows.count_cnt]
  show PyProof.Rows.cnt c (cs x) = _
  induction cs x with
  | nil => rfl
  | cons d l ih => rw [PyProof.Rows.cnt_cons, ih, List.count_cons]; by_cases e : d = c <;> simp [e]; omega
theorem txt_nl (x : Str) : Txt.count x (Str.ofString "\n") = cnt (cs x) := txt_cnt str_n
section
variable {prog : Program} {w : World} {A : Around} {E : Value → Shared → Prop} {s : Shared} {h₀ : Heap} {L : Addr} {m : Str → Option Value} {D : Addr} {Q : Value → Shared → Prop} {us : List Value} {v : Value} {n : Nat} {q : Addr × Obj} {rest : CbLed}
theorem app_1 (F : Fr h₀ L s.heap m) (N : News h₀ L s.heap ((D, listOf us.toArray n) :: q :: rest)) (h1 : q.1 ≠ D) (h2 : ∀ r ∈ rest, r.1 ≠ D) (hz : us.length ≤ 1000)
    (h : ∀ h', Fr h₀ L h' m → News h₀ L h' ((D, listOf (us ++ [v]).toArray (n + 1)) :: q :: rest) → Q .none { s with heap := h' }) : wpAny (model prog w) A (call (.builtin "list.append") [.ref D, v]) Q E s :=
  append_in (own := []) F N (by simp) (fun r hr => (List.mem_cons.mp hr).elim (fun e => e ▸ h1) (h2 r)) h (by rw [sizeLine_eq]; omega)
theorem app_2 (F : Fr h₀ L s.heap m) (N : News h₀ L s.heap (q :: (D, listOf us.toArray n) :: rest)) (h1 : q.1 ≠ D) (h2 : ∀ r ∈ rest, r.1 ≠ D) (hz : us.length ≤ 1000)
    (h : ∀ h', Fr h₀ L h' m → News h₀ L h' (q :: (D, listOf (us ++ [v]).toArray (n + 1)) :: rest) → Q .none { s with heap := h' }) : wpAny (model prog w) A (call (.builtin "list.append") [.ref D, v]) Q E s :=
  append_in (own := [q]) F N (by simpa using h1) h2 h (by rw [sizeLine_eq]; omega)
end
theorem led_tab {z : Lx} {w : World} {us : List Value} {n : Nat} {ln : Int} {tl : Nat} {pbs : List Value} {np : Nat} {oS oE : Addr × Obj} {pre tab own : CbLed} {g h : Heap} {L : Addr}
    (N : News g L h (oS :: oE :: (z.led w us n ln tl pbs np ++ (pre ++ own)))) (hp : ∀ q ∈ tab, q ∈ pre ∨ q = (z.cc, z.oc)) : News g L h (oS :: oE :: (tab ++ own)) := by
  intro q hq
  rcases List.mem_cons.mp hq with rfl | hq
  · exact N _ (.head _)
  rcases List.mem_cons.mp hq with rfl | hq
  · exact N _ (.tail _ (.head _))
  refine N q (.tail _ (.tail _ ?_))
  rcases List.mem_append.mp hq with hq | hq
  · rcases hp q hq with hq | rfl
    · exact List.mem_append_right _ (List.mem_append_left _ hq)
    · exact List.mem_append_left _ (.tail _ (.tail _ (.tail _ (.tail _ (.head _)))))
  · exact List.mem_append_right _ (List.mem_append_right _ hq)
theorem frm_pack {g h : Heap} {L : Addr} {m : Str → Option Value} {x1 x2 x3 : Value} (F : Fr g L h m) (a : m (Str.ofString "ends") = some x1) (b : m (Str.ofString "stages") = some x2) (c : m (Str.ofString "second") = some x3) : Fr g L h (frm x1 x2 x3 m) := by
  have e : frm x1 x2 x3 m = m := by
    funext y
    unfold frm
    split
    · next e => rw [e, a]
    · split
      · next e => rw [e, b]
      · split
        · next e => rw [e, c]
        · rfl
  rw [e]; exact F
theorem tab_ne {tab tab' own : CbLed} {oS oE : Addr × Obj} {St En : Nat} {lo : Nat} (eS : oS.1 = St) (eE : oE.1 = En) (o1 : lo < St) (o2 : St < En) (ht : ∀ q ∈ tab, q.1 ≠ St ∧ q.1 ≠ En)
    (hq : ∀ q ∈ tab', q ∈ tab ∨ q.1 = lo ∨ ∀ o ∈ oS :: oE :: own, o.1 < q.1) : ∀ q ∈ tab', q.1 ≠ St ∧ q.1 ≠ En := by
  intro q h
  rcases hq q h with h | h | h
  · exact ht q h
  · rw [h]; exact ⟨Nat.ne_of_lt o1, Nat.ne_of_lt (Nat.lt_trans o1 o2)⟩
  · exact ⟨Nat.ne_of_gt (eS ▸ h _ (.head _)), Nat.ne_of_gt (eE ▸ h _ (.tail _ (.head _)))⟩
theorem tab_off {tab tab' own : CbLed} {oS oE : Addr × Obj} (h0 : TabSt tab) (hoff : TbOff own (tab ++ [oS, oE]))
    (hq : ∀ q ∈ tab', q ∈ tab ∨ q.1 = 111 ∨ ∀ o ∈ oS :: oE :: own, o.1 < q.1) (oS' oE' : Addr × Obj) (eS : oS'.1 = oS.1) (eE : oE'.1 = oE.1) : TbOff own (tab' ++ [oS', oE']) := by
  intro p hp q h
  rcases List.mem_append.mp h with h | h
  · rcases hq q h with h | h | h
    · exact hoff p hp q (List.mem_append_left _ h)
    · have : ∃ o, (111, o) ∈ tab := by cases h0 <;> exact ⟨_, .head _⟩
      obtain ⟨o, ho⟩ := this
      rw [h]
      exact hoff p hp _ (List.mem_append_left _ ho)
    · exact Nat.ne_of_lt (h p (.tail _ (.tail _ hp)))
  · rcases List.mem_cons.mp h with rfl | h
    · rw [eS]; exact hoff p hp _ (List.mem_append_right _ (.head _))
    · rw [List.mem_singleton.mp h, eE]; exact hoff p hp _ (List.mem_append_right _ (.tail _ (.head _)))
theorem mem_h {α : Type} {a b c q : α} {l o : List α} (hc : c ∈ l) (h : q ∈ [b, a, c]) : q ∈ a :: b :: (l ++ o) := by
  simp only [List.mem_cons, List.mem_append, List.not_mem_nil, or_false] at h ⊢
  rcases h with h | h | h <;> simp [h, hc]
theorem tab_mem {tab : CbLed} (h : TabSt tab) : ∃ ps, (111, tabObj ps) ∈ tab := by cases h <;> exact ⟨_, .head _⟩
theorem off_ne1 {tab' tab own : CbLed} {St En : Nat} {x y : Obj} (h : ∀ q ∈ tab', q.1 ≠ St ∧ q.1 ≠ En) (ho : TbOff own (tab ++ [(St, x), (En, y)])) : ∀ r ∈ tab' ++ own, r.1 ≠ St := by
  intro r hr
  rcases List.mem_append.mp hr with hr | hr
  · exact (h r hr).1
  · exact ho r hr _ (List.mem_append_right _ (.head _))
theorem off_ne2 {tab' tab own : CbLed} {St En : Nat} {x y : Obj} (h : ∀ q ∈ tab', q.1 ≠ St ∧ q.1 ≠ En) (ho : TbOff own (tab ++ [(St, x), (En, y)])) : ∀ r ∈ tab' ++ own, r.1 ≠ En := by
  intro r hr
  rcases List.mem_append.mp hr with hr | hr
  · exact (h r hr).2
  · exact ho r hr _ (List.mem_append_right _ (.tail _ (.head _)))
theorem mem_g {α : Type} {a b q : α} {l o : List α} (h : q ∈ l ++ [a, b]) : q ∈ a :: b :: (l ++ o) := by
  simp only [List.mem_cons, List.mem_append, List.not_mem_nil, or_false] at h ⊢
  rcases h with h | h | h <;> simp [h]
theorem rows_L1lt1_15 : True := by
  k_with "call builtin:list.append" => (k_here; first
    | ((with_reducible refine' app_1 ?h1 ?h2 ?h3 ?h4 ?h5 ?_); (case h1 => k_asm); (case h2 => assumption); (case h3 => assumption); (case h4 => assumption); (case h5 => (simp only [List.length_append, List.length_cons, List.length_nil]; omega)); intro hqRow FqRow NqRow)
    | ((with_reducible refine' app_2 ?h1 ?h2 ?h3 ?h4 ?h5 ?_); (case h1 => k_asm); (case h2 => assumption); (case h3 => assumption); (case h4 => assumption); (case h5 => (simp only [List.length_append, List.length_cons, List.length_nil]; omega)); intro hqRow FqRow NqRow))
  trivial
/-- what holds ahead of each turn -/
noncomputable def TurnJ (w0 : Str) (St En : Nat) (sec : Int) (tsec : Nat) (i : Nat) (m : Str → Option Value) (nx : CbLed) : Prop :=
  ∃ (ss es : List Str) (s' e : Str) (us ue : List Value) (ts te n1 n2 : Nat) (m' : Str → Option Value) (tab : CbLed), Ch w0 i ss es s' e ∧ StrsAre us ss ∧ StrsAre ue es ∧ TabSt tab ∧ (∀ q ∈ tab, q.1 ≠ St ∧ q.1 ≠ En) ∧ m = frm (.ref En) (.ref St) (.int sec tsec) m' ∧
    nx = tab ++ [(St, listOf (us ++ [Value.str s' ts]).toArray n1), (En, listOf (ue ++ [Value.str e te]).toArray n2)]
theorem law_turns (w : World) (news : CbLed) (loose : List Str) (mean : ExcName → Option Value) (mg mb : Str → Option Value) (p : Program) (w0 : Str) (h1 : 1 ≤ w0.length) (h3 : w0.length ≤ 3) (St En : Nat) (tw te n1 n2 : Nat) (sec : Int) (c0 : 0 ≤ sec) (c1 : sec < 1000000) (tsec : Nat) (o1 : 111 < St) (o2 : St < En)
  (L fa : Nat) (cd : Value) (g h : Heap) (mm : Str → Option Value) (s : Shared) (tk0 : Nat) (Q : Flow → Shared → Prop) (E : Value → Shared → Prop) (kMark : KstMark)
  (B : Below callerA g [] g) (T : Top p loose mean mg mb g) (X : (Mine.hd.heap_39 w.params).In g) (codeHd : CodeHd g 115 111)
  (F : Fr g L h (frm (.ref En) (.ref St) (.int sec tsec) mm))
  (N : News g L h [(En, listOf (List.toArray [Value.str w0 te]) n2), (St, listOf (List.toArray [Value.str w0 tw]) n1), (111, tabObj #[])])
  (hE : PassesOwn (model PySem.Challenge.rw_rw0047_01.prog w) (callerA.deeper (envOfC (Str.ofString "law") lawS.1 L fa cd)) (envOfC (Str.ofString "law") lawS.1 L fa cd) E)
  (hend : ∀ n ss es s' e us ue n1 n2 m' ps h' tk', Ch w0 n ss es s' e → n ≤ 3 → StrsAre us (ss ++ [s']) → StrsAre ue (es ++ [e]) → Fr g L h' (frm (.ref En) (.ref St) (.int sec tsec) m') →
    News g L h' [(En, listOf (List.toArray ue) n2), (St, listOf (List.toArray us) n1), (111, tabObj ps)] → Q .next { s with heap := h', toks := tk' }) :
  wpAny (model PySem.Challenge.rw_rw0047_01.prog w) (callerA.deeper (envOfC (Str.ofString "law") lawS.1 L fa cd))
    (exec lawF1.1 (envOfC (Str.ofString "law") lawS.1 L fa cd)) Q E { s with heap := h, toks := tk0 } := by
  revert X; k_fill; intro X
  refine For_invV g (by rfl) (by rfl) ?_ (by intro _; rfl) hE
  k_steps
  rename IsRange _ _ _ _ _ _ _ _ => hR
  rename Fr _ _ _ _ => FF
  rename News _ _ _ _ => NN
  show wpAny _ _ _ _ _ _
  refine tbr_invG (TurnJ w0 St En sec tsec) (by with_unfolding_all rfl) hR (by decide) (n := 3) (by decide) FF (news := [(111, tabObj #[]), (St, listOf (List.toArray [Value.str w0 tw]) n1), (En, listOf (List.toArray [Value.str w0 te]) n2)]) (fun q hq => NN q (mem_e hq)) ?_ ?_ ?_
  · unfold TurnJ
    exact ⟨[], [], w0, w0, [], [], tw, te, n1, n2, mm, [(111, tabObj #[])], .nil, .nil, .nil, .new, (fun q hq => by rw [List.mem_singleton.mp hq]; exact ⟨Nat.ne_of_lt o1, Nat.ne_of_lt (Nat.lt_trans o1 o2)⟩), rfl, rfl⟩
  · clear FF NN hR
    rintro i k t m₁ nx h tk own hk hoff ⟨ss, es, s', e, us, ue, ts, te, n1, n2, m', tab, hch, hus, hue, htab, htn, rfl, rfl⟩ F N
    have N : News g (envOfC (Str.ofString "law") lawS.1 L fa cd).locals h ((St, listOf (us ++ [Value.str s' ts]).toArray n1) :: (En, listOf (ue ++ [Value.str e te]).toArray n2) :: (tab ++ own)) := fun q hq => N q (mem_f hq)
    obtain ⟨hi, hk⟩ : i < 3 ∧ k = (i : Int) := rk_of hk
    obtain ⟨l1, l2, l3, l4, l5⟩ := hch.len h1 h3
    have l3 : e.length ≤ 12 := Nat.le_trans l3 (by have : i = 0 ∨ i = 1 ∨ i = 2 := by omega
                                                   rcases this with rfl | rfl | rfl <;> decide)
    have d1 := dblS_len s'
    have d2 := escS_len2 s'
    have d3 := escS_len2 e
    have lu : us.length ≤ 3 := by rw [strs_len hus]; omega
    have le : ue.length ≤ 3 := by rw [strs_len hue]; omega
    have hk0 : 0 ≤ k := by omega
    have hk3 : k < 3 := by omega
    have hof : OwnOff ((St, listOf (us ++ [Value.str s' ts]).toArray n1) :: (En, listOf (ue ++ [Value.str e te]).toArray n2) :: own) [111] := own_off htab o1 o2 hoff
    have lus := strs_len hus
    have lue := strs_len hue
    clear l4 l5 lus lue
    k_steps
    all_goals first
      | exact absurd (by assumption) (show ¬ ((_ : Str) != _) = true by simp)
      | contradiction
      | (exfalso; rename (1 + cnt _ ≠ 1 + Txt.count _ _) => hx; exact hx (by rw [txt_nl]))
      | skip
    · obtain ⟨ps, hps⟩ := tab_mem htab
      exact hend i ss es s' e _ _ _ _ _ ps _ _ hch (by omega) (strs_snoc hus) (strs_snoc hue) (frm_pack (by assumption) (by with_unfolding_all rfl) (by with_unfolding_all rfl) (by with_unfolding_all rfl)) (fun q hq => by rename News _ _ _ _ => N2; exact N2 q (mem_h hps hq))
    all_goals
      rename TabSt _ => ht2
      rename Lx.Ok _ _ => ok2
      rename (∀ q ∈ _, q ∈ _ ∨ q = (Lx.cc _, Lx.oc _)) => hp2
      rename (∀ q ∈ _, q ∈ tab ∨ _) => hq2
      rename News _ _ _ _ => N2
      have tn2 := tab_ne rfl rfl o1 o2 htn hq2
      have to2 := tab_off htab hoff hq2
      have hr1 := off_ne1 tn2 hoff
      have hr2 := off_ne2 tn2 hoff
      have hSE : St ≠ En := Nat.ne_of_lt o2
      have hES : En ≠ St := Nat.ne_of_gt o2
      with_unfolding_all have N3 := led_tab (oS := (St, _)) (oE := (En, _)) N2 hp2
      clear N2 N ok2 hp2 hq2
      k_steps
      rename News _ _ _ _ => N4
      rename Fr _ _ _ _ => F4
      refine ⟨_, _, _, _, _, rfl, frm_pack F4 (by with_unfolding_all rfl) (by with_unfolding_all rfl) (by with_unfolding_all rfl), N4, fun q hq => mem_g hq, fun q hq => .tail _ (.tail _ (List.mem_append_right _ hq)), to2 _ _ rfl rfl, ?_⟩
      unfold TurnJ
      first
        | exact ⟨_, _, _, _, _, _, _, _, _, _, _, _, .dbl hch (by omega), strs_snoc hus, strs_snoc hue, ht2, tn2, rfl, rfl⟩
        | exact ⟨_, _, _, _, _, _, _, _, _, _, _, _, .esc hch (by omega), strs_snoc hus, strs_snoc hue, ht2, tn2, rfl, rfl⟩
  · rintro m₁ nx h' tk ⟨ss, es, s', e, us, ue, ts, te, n1, n2, m', tab, hch, hus, hue, htab, htn, rfl, rfl⟩ F N
    obtain ⟨ps, hps⟩ := tab_mem htab
    exact hend 3 ss es s' e _ _ n1 n2 m' ps h' tk hch (by decide) (strs_snoc hus) (strs_snoc hue) F fun q hq => N q (mem_d hps hq)
end
section
theorem calm_L1lt2 : True ∧ True := by
  w_top off
  k_with_none
  first
    | (walk1; fail)
    | exact ⟨trivial, trivial⟩
theorem item_txtB {prog : Program} {w : World} {A : Around} {E : Value → Shared → Prop} {s : Shared} {h₀ : Heap} {L : Addr} {news : List (Addr × Obj)} {value slice : PySem.Expr} {D : Addr} {Q : Value → Shared → Prop}
    {us : List Value} {n : Nat} {u : Tok} {k : Int} {ss : List Str} {M : Nat} (N : News h₀ L s.heap news) (hm : (D, listOf us.toArray n) ∈ news) (hi : StrsAre us ss) (h0 : 0 ≤ k) (h1 : k < ss.length) (hz : ss.length ≤ 1000) (hB : ∀ x ∈ ss, x.length ≤ M)
    (h : ∀ t, ss[k.toNat]? = some (ss.getD k.toNat Str.empty) → (ss.getD k.toNat Str.empty).length ≤ M → Q (.str (ss.getD k.toNat Str.empty) t) s)
    (hs : subscripted slice false (.ref D) (.int k u) = operate [.ref D, .int k u] (getItem (.ref D) (.int k u)) := by with_unfolding_all rfl) :
    wpAny (model prog w) A (subscriptTail value slice (.ref D) (.int k u)) Q E s :=
  item_txt N hm hi h0 h1 hz (fun x t e => by
    have e2 : x = ss.getD k.toNat Str.empty := by rw [List.getD_eq_getElem?_getD, e]; rfl
    subst e2
    exact h t e (hB _ (List.mem_of_getElem? e))) hs
theorem pow_24 {n : Nat} (h : n ≤ 3) : 3 * 2 ^ n ≤ 24 := by
  have : n = 0 ∨ n = 1 ∨ n = 2 ∨ n = 3 := by omega
  rcases this with rfl | rfl | rfl | rfl <;> decide
theorem txt_bs (x : Str) : Txt.count x (Str.ofString "\\") = ((cs x).count 92 : Nat) := txt_cnt str_b
theorem rows_L1lt2_16 : True := by
  k_with "pyIter ref" => (k_here; refine hold_of ?_)
  k_with "subscriptTail Name Name ref int" => (k_here; (with_reducible show wpAny _ _ (subscriptTail _ _ (Value.ref _) (Value.int _ _)) _ _ _); (with_unfolding_all refine' item_txtB ?h1 ?h2 ?h3 ?h4 ?h5 ?h6 ?h7 ?_); (case h1 => k_asm); (case h2 => k_mem); (case h3 => assumption); (case h4 => omega); (case h5 => omega); (case h6 => omega); (case h7 => assumption); intro tqRow eqRow bqRow)
  k_with "call ref" => (k_here; (with_unfolding_all refine' lev_walk _ _ _ _ _ _ _ _ _ _ _ _ _ ?p0 ?p1 _ _ _ _ _ _ _ _ _ _ _ _ _ _ _ _ _ ?k1 ?k2 ?k3 ?k4 ?k5 ?k6 ?k7 ?k8 ?_); (case k2 => k_asm); (case k4 => k_asm); (case k1 => k_asm); (case k3 => k_asm); (case k5 => k_asm); (case k6 => with_unfolding_all rfl); (case k7 => ktr_room); (case k8 => ktr_units); (case p0 => omega); (case p1 => omega); intros)
  trivial
theorem mem_i {α : Type} {a b c q : α} {l : List α} (h : q ∈ a :: b :: c :: l) : q ∈ l ++ [a, b, c] := by
  simp only [List.mem_cons, List.mem_append, List.not_mem_nil, or_false] at h ⊢
  rcases h with h | h | h | h <;> simp [h]
theorem mem_j {α : Type} {a b q : α} {l o : List α} (h : q ∈ a :: b :: (l ++ o)) : q ∈ l ++ a :: b :: o := by
  simp only [List.mem_cons, List.mem_append] at h ⊢
  rcases h with h | h | h | h <;> simp [h]
theorem mem_k {α : Type} {a b q : α} {l o : List α} (h : q ∈ l ++ a :: b :: o) : q ∈ a :: b :: (l ++ o) := mem_b h
theorem mem_i2 {α : Type} {a b c q : α} {l : List α} (h : q ∈ l ++ [a, b, c]) : q ∈ a :: b :: c :: l := by
  simp only [List.mem_cons, List.mem_append, List.not_mem_nil, or_false] at h ⊢
  rcases h with h | h | h | h <;> simp [h]
theorem nm_1 {y : Str} {m u2 : Str → Option Value} {x1 x2 : Option Value} (h1 : y ≠ Str.ofString "early") (h2 : [Str.ofString "due"].contains y = false) :
    (if y = Str.ofString "due" then x1 else if y = Str.ofString "early" then x2 else if [Str.ofString "due"].contains y = true then u2 y else m y) = m y := by
  have h3 : y ≠ Str.ofString "due" := by rintro rfl; simp at h2
  rw [if_neg h3, if_neg h1, h2]; rfl
theorem nm_2 {y : Str} {m u u2 : Str → Option Value} {x1 x2 x3 : Option Value} (h1 : y ≠ Str.ofString "late") (h2 : [Str.ofString "early", Str.ofString "due"].contains y = false) :
    (if y = Str.ofString "due" then x1 else if y = Str.ofString "early" then x2 else if [Str.ofString "due"].contains y = true then u2 y else if y = Str.ofString "late" then x3 else if [Str.ofString "early", Str.ofString "due"].contains y = true then u y else m y) = m y := by
  have h3 : y ≠ Str.ofString "due" := by rintro rfl; simp at h2
  have h4 : y ≠ Str.ofString "early" := by rintro rfl; simp at h2
  have h5 : [Str.ofString "due"].contains y = false := by simpa using h3
  rw [if_neg h3, if_neg h4, h5, if_neg h1, h2]; rfl
theorem Ch.due2v {w0 : Str} {n : Nat} {ss es : List Str} {s e : Str} (h : Ch w0 n ss es s e) (hn : n ≤ 3) (ha : Alph (cs w0)) {k : Nat} {x y : Str} {v : Int} (hy : (es ++ [e])[k]? = some y) (hx : (ss ++ [s])[k]? = some x)
    (hv : LevOk x y (2 * (((cs y).count 92 : Nat) - ((cs x).count 92 : Nat) : Int)) v) : v = 2 * (((cs y).count 92 : Nat) - ((cs x).count 92 : Nat) : Int) := by
  have := h.due2 hn ha hx hy
  rcases hv with hv | hv <;> omega
theorem Ch.due2w {w0 : Str} {n : Nat} {ss es : List Str} {s e : Str} (h : Ch w0 n ss es s e) (hn : n ≤ 3) (ha : Alph (cs w0)) {k : Nat} {x y : Str} {v : Int} (hy : (es ++ [e])[k]? = some y) (hx : (ss ++ [s])[k]? = some x)
    (hv : LevOk y x (2 * (((cs y).count 92 : Nat) - ((cs x).count 92 : Nat) : Int) - 1) v) : ¬ v < 2 * (((cs y).count 92 : Nat) - ((cs x).count 92 : Nat) : Int) := by
  have := h.due2 hn ha hx hy
  rw [D_comm] at this
  rcases hv with hv | hv <;> omega
/-- the loops that ask how far the texts are apart -/
theorem law_dues (w : World) (news : CbLed) (loose : List Str) (mean : ExcName → Option Value) (mg mb : Str → Option Value) (p : Program) (w0 : Str) (h1 : 1 ≤ w0.length) (h3 : w0.length ≤ 3) (ha : Alph (cs w0)) (St En : Nat) (n1 n2 n : Nat) (ss es : List Str) (s' e : Str) (us ue : List Value) (oT : Addr × Obj) (hch : Ch w0 n ss es s' e) (hn : n ≤ 3) (hus : StrsAre us (ss ++ [s'])) (hue : StrsAre ue (es ++ [e])) (vc : Value)
  (L fa : Nat) (cd : Value) (g h : Heap) (mm : Str → Option Value) (s : Shared) (tk0 : Nat) (Q : Flow → Shared → Prop) (E : Value → Shared → Prop) (kMark : KstMark)
  (B : Below callerA g [] g) (T : Top p loose mean mg mb g) (X : (Mine.hd.heap_39 w.params).In g)
  (F : Fr g L h (frm (.ref En) (.ref St) vc mm))
  (N : News g L h [(En, listOf (List.toArray ue) n2), (St, listOf (List.toArray us) n1), oT])
  (hE : PassesOwn (model PySem.Challenge.rw_rw0047_01.prog w) (callerA.deeper (envOfC (Str.ofString "law") lawS.1 L fa cd)) (envOfC (Str.ofString "law") lawS.1 L fa cd) E)
  (hend : ∀ m' h' tk', Fr g L h' (frm (.ref En) (.ref St) vc m') → News g L h' [(En, listOf (List.toArray ue) n2), (St, listOf (List.toArray us) n1), oT] → Q .next { s with heap := h', toks := tk' }) :
  wpAny (model PySem.Challenge.rw_rw0047_01.prog w) (callerA.deeper (envOfC (Str.ofString "law") lawS.1 L fa cd))
    (exec lawF2.1 (envOfC (Str.ofString "law") lawS.1 L fa cd)) Q E { s with heap := h, toks := tk0 } := by
  revert X; k_fill; intro X
  have lus := strs_len hus
  have lue := strs_len hue
  obtain ⟨_, _, _, l4, l5⟩ := hch.len h1 h3
  obtain ⟨b1, b2⟩ := hch.all_len h1 h3
  have b2 : ∀ x ∈ es ++ [e], x.length ≤ 24 := fun x hx => Nat.le_trans (b2 x hx) (pow_24 hn)
  have ls : (ss ++ [s']).length = n + 1 := by rw [List.length_append, l4]; rfl
  have le : (es ++ [e]).length = n + 1 := by rw [List.length_append, l5]; rfl
  refine For_invV g (by rfl) (by rfl) ?_ (by intro _; rfl) hE
  k_steps
  rename IsRange _ _ _ _ _ _ _ _ => hR
  rename Fr _ _ _ _ => FF
  rename News _ _ _ _ => NN
  show wpAny _ _ _ _ _ _
  refine iter_rangeLaw (n := n + 1) [Str.ofString "early", Str.ofString "due"] (by with_unfolding_all rfl) hR (small_one (by omega) (by omega) (by omega) (by omega)) (by rw [rangeSize_nat]; omega) FF NN ?_ ?_
  · clear FF NN hR
    intro k t u h tk own hk0 hk1 F N
    have N : News g (envOfC (Str.ofString "law") lawS.1 L fa cd).locals h ((En, listOf (List.toArray ue) n2) :: (St, listOf (List.toArray us) n1) :: oT :: own) := fun q hq => N q (mem_i hq)
    k_steps
    rename IsRange _ _ _ _ _ _ _ _ => hR
    rename Fr _ _ _ _ => FF
    rename News _ _ _ _ => NN
    show wpAny _ _ _ _ _ _
    refine iter_rangeLaw (n := k.toNat) [Str.ofString "due"] (by with_unfolding_all rfl) hR (small_one (by omega) (by omega) (by omega) (by omega)) (by rw [rangeSize_nat]; omega) FF NN ?_ ?_
    · clear FF NN hR
      intro j t2 u2 h' tk' own' hj0 hj1 F N
      have N : News g (envOfC (Str.ofString "law") lawS.1 L fa cd).locals h' ((En, listOf (List.toArray ue) n2) :: (St, listOf (List.toArray us) n1) :: (own' ++ oT :: own)) := fun q hq => N q (mem_j hq)
      k_steps
      · rename LevOk _ _ _ _ => hl
        exact absurd (hch.due1 (j := j.toNat) (k := k.toNat) (by omega) (by assumption) (by assumption) hl) (by assumption)
      · rename News _ _ _ _ => N4
        rename Fr _ _ _ _ => F4
        exact TurnEnd.intro F4 N4 (fun q hq => mem_k hq) (fun y y1 y2 => by
          have h3 : y ≠ Str.ofString "due" := by rintro rfl; simp at y2
          simp only [if_neg y1, if_neg h3, y2, Bool.false_eq_true, if_false])
    · intro u2 h' tk' F N
      k_steps
      · rename LevOk _ _ _ _ => hl
        exact absurd (hch.due2v hn ha (by assumption) (by assumption) (by rw [← txt_bs, ← txt_bs]; exact hl)) (by rw [← txt_bs, ← txt_bs]; assumption)
      · rename LevOk _ _ _ _ => hl
        exact absurd trivial fun _ => (hch.due2w hn ha (by assumption) (by assumption) (by rw [← txt_bs, ← txt_bs]; exact hl)) (by rw [← txt_bs, ← txt_bs]; assumption)
      · rename News _ _ _ _ => N4
        rename Fr _ _ _ _ => F4
        exact TurnEnd.intro F4 N4 (fun q hq => mem_i2 hq) (fun y y1 y2 => by
          have h3 : y ≠ Str.ofString "due" := by rintro rfl; simp at y2
          have h4 : y ≠ Str.ofString "early" := by rintro rfl; simp at y2
          have h5 : [Str.ofString "due"].contains y = false := by simpa using h3
          simp only [if_neg y1, if_neg h3, if_neg h4, y2, h5, Bool.false_eq_true, if_false])
  · intro u h' tk F N
    exact hend _ h' tk (frm_pack F (by with_unfolding_all rfl) (by with_unfolding_all rfl) (by with_unfolding_all rfl)) N
end
section
theorem calm_L1law : True ∧ True := by
  w_top off
  k_with_none
  first
    | (walk1; fail)
    | exact ⟨trivial, trivial⟩
section
variable {prog : Program} {w : World} {A : Around} {E : Value → Shared → Prop} {s : Shared} {h₀ : Heap} {L : Addr} {m : Str → Option Value} {news : List (Addr × Obj)}
/-- the sum of a part of a list of integers: some integer -/
theorem sum_picked {D : Addr} {vs : List Value} {ns : List Int} {lo hi st : Option Int} {n : Nat} {Q : Value → Shared → Prop} (hh : A.handled = none) (F : Fr h₀ L s.heap m) (N : News h₀ L s.heap news) (hi' : IntsAre vs ns)
    (hm : (D, { cls := .type "list", data := .seq (slicePick vs.toArray lo hi st) n }) ∈ news)
    (h : ∀ k h' tk t', Fr h₀ L h' m → News h₀ L h' news → Q (.int k t') { s with heap := h', toks := tk }) :
    wpAny (model prog w) A (call (.builtin "sum") [.ref D]) Q E s :=
  sumK (vs := (slicePick vs.toArray lo hi st).toList) hh F N ⟨_, (N _ hm).1, rfl, n, by simp⟩ (hi'.pick lo hi st) fun h' tk t' F' N' => h _ h' tk t' F' N'
end
theorem rows_L1law_17 : True := by
  k_with "call builtin:sum" => (k_here; ((with_unfolding_all refine' sum_picked ?h0 ?h1 ?h2 ?h3 ?h4 ?_); (case h0 => with_unfolding_all rfl); (case h1 => k_asm); (case h2 => k_asm); (case h3 => assumption); (case h4 => with_unfolding_all (first | exact .head _ | exact .tail _ (.head _)))); intro kqRow hqRow tkqRow tqRow FqRow NqRow; (try simp only [List.cons_append, List.nil_append] at NqRow))
  trivial
/-- a sign of the word -/
noncomputable def gW (n k : Int) : Str := Txt.item (Str.ofString "\"\\a \n") ((n.fdiv (3 * 5 ^ k.toNat)).fmod 5)
theorem pow_b (k : Int) (h : k < 3) : (0 : Int) < 3 * 5 ^ k.toNat ∧ (3 * 5 ^ k.toNat : Int) ≤ 75 := by
  have h2 : k.toNat < 3 := by omega
  generalize k.toNat = n at h2
  match n, h2 with
  | 0, _ => decide
  | 1, _ => decide
  | 2, _ => decide
theorem wl_1 {y : Int} (h : 0 ≤ y) : 1 ≤ (y + 1 - 0).toNat := by omega
theorem wl_3 {y : Int} (h : y < 3) : (y + 1 - 0).toNat ≤ 3 := by omega
theorem pw3 {k y : Int} (h : k < 0 + ((y + 1 - 0).toNat : Int)) (h2 : y < 3) : k < 3 := by omega
theorem pw_ne {x : Int} (h : 0 < x ∧ x ≤ 75) : x ≠ 0 := by omega
theorem pw_sm {x : Int} (h : 0 < x ∧ x ≤ 75) : x.natAbs < 1073741824 := by omega
local macro_rules | `(tactic| walk_at "eval ListComp") => `(tactic| (k_here; k_dflt (refine LCg.ListComp_U (F₀ := by k_asm) (by with_unfolding_all rfl) (by decide) (by rfl) (by decide) (by rfl) ?_)))
local macro_rules | `(tactic| walk_at "CompSrc") => `(tactic| (k_here; (try k_fmods); (k_dflt (refine LCg.CompSrc.range (by rfl) (by k_asm) (by k_asm) (by assumption) (by first | decide | exact small_one (by l_bnd) (by l_bnd) (by l_bnd) (by l_bnd)) (by first | exact rangeSize_nat _ _ | rfl) (by first | exact Nat.le_of_ble_eq_true rfl | (rw [PySem.sizeLine_eq]; omega) | size_fits) ?_; intro g'; (refine' kct_range (gW _) (fun k' t' I' oI' C' oC' D' m' ys' h' tk' E' hlo' hhi' hC' hx' F' N' off' ne' => ?_) ?_); (all_goals (try ((show KPfMark → _); intro hMark'; have hk3 := pw3 hhi' (by assumption); have hpw := pow_b k' hk3)))))))
theorem rows_L1law_18 : True := by
  k_with "binaryOp FloorDiv int int" => (k_here; (with_reducible refine floordiv_int ?kbe ?_ (Or.inl (PyProof.noPylong_small ?kbp))); (case kbe => first | exact pw_ne (by assumption) | omega); (case kbp => first | exact pw_sm (by assumption) | omega))
  k_with "CompEnd" => (refine LCg.CompEnd.intro (by assumption) (by assumption) _ (fun pRow hpRow => hpRow) (by with_unfolding_all assumption) True.intro ?_)
  k_with "KCtEl" => (refine kct_el ?kce (by with_unfolding_all rfl) (by with_unfolding_all rfl); (case kce => with_unfolding_all rfl))
  k_with "exec For Name Call cons nil" => (k_here; refine hold_of ?_)
  trivial
theorem gW_cs (n k : Int) : cs (gW n k) = [alph.getD ((n.fdiv (3 * 5 ^ k.toNat)).fmod 5).toNat 0] := by
  have h0 := Int.fmod_nonneg_of_pos (n.fdiv (3 * 5 ^ k.toNat)) (show (0 : Int) < 5 by decide)
  have h1 := Int.fmod_lt_of_pos (n.fdiv (3 * 5 ^ k.toNat)) (show (0 : Int) < 5 by decide)
  have hl : (Str.ofString "\"\\a \n").length = 5 := by decide +kernel
  have hc : cs (Str.ofString "\"\\a \n") = alph := by decide +kernel
  unfold gW
  rw [item_cs h0 (by rw [hl]; exact h1), hc]
  rfl
theorem gW_alph (n k : Int) : Alph (cs (gW n k)) := by
  rw [gW_cs]
  intro c hc
  rw [List.mem_singleton.mp hc]
  have h0 := Int.fmod_nonneg_of_pos (n.fdiv (3 * 5 ^ k.toNat)) (show (0 : Int) < 5 by decide)
  have h1 := Int.fmod_lt_of_pos (n.fdiv (3 * 5 ^ k.toNat)) (show (0 : Int) < 5 by decide)
  have h2 : ((n.fdiv (3 * 5 ^ k.toNat)).fmod 5).toNat < 5 := by omega
  generalize ((n.fdiv (3 * 5 ^ k.toNat)).fmod 5).toNat = j at h2
  match j, h2 with
  | 0, _ => decide
  | 1, _ => decide
  | 2, _ => decide
  | 3, _ => decide
  | 4, _ => decide
theorem word_alph (n : Int) (l : List Int) : Alph (cs (Txt.join (Str.ofString "") (l.map (gW n)))) := by
  rw [cs_joinE]
  intro c hc
  obtain ⟨x, hx, hc⟩ := List.mem_flatMap.mp hc
  obtain ⟨k, _, rfl⟩ := List.mem_map.mp hx
  exact gW_alph n k c hc
theorem word_len (n : Int) (l : List Int) : (Txt.join (Str.ofString "") (l.map (gW n))).length = l.length := by
  rw [← cs_len, cs_joinE]
  induction l with
  | nil => rfl
  | cons k l ih => rw [List.map_cons, List.flatMap_cons, List.length_append, ih, gW_cs]; simp; omega
theorem rk_len (a : Int) (n : Nat) : (rangeKs a n).length = n := rangeKs_length a n
theorem news_pick {g h : Heap} {L : Addr} {a b c d e f t : Addr × Obj} (N : News g L h [a, b, c, d, e, f, t]) : News g L h [a, b, t] := by
  intro q hq
  refine N q ?_
  simp only [List.mem_cons, List.not_mem_nil, or_false] at hq ⊢
  rcases hq with h | h | h <;> simp [h]
theorem law1_holds : PySem.Challenge.rw_rw0047_01.Holds := hd (by
  k_go0
  k_steps
  rename News _ _ _ _ => N1
  rename Fr _ _ _ _ => F1
  rename Frag.In _ _ => X1
  rename Top _ _ _ _ _ _ => T1
  rename Below _ _ _ _ => B1
  rename CodeHd _ _ _ => C1
  have N2 := news_pick N1
  show wpAny _ _ _ _ _ _
  have F2 := frm_pack F1 (by with_unfolding_all rfl) (by with_unfolding_all rfl) (by with_unfolding_all rfl)
  clear F1 N1
  have Z := fun (h1 : 1 ≤ Str.length _) h3 c0 c1 o1 o2 fa cd s tk0 Q E => law_turns _ [] _ _ _ _ _ (Txt.join _ _) h1 h3 _ _ _ _ _ _ _ c0 c1 _ o1 o2 _ fa cd _ _ _ s tk0 Q E kstMark B1 T1 X1 C1 F2 N2
  with_unfolding_all refine' Z ?h1 ?h3 ?c0 ?c1 ?o1 ?o2 _ _ _ _ _ _ ?hE ?hend
  clear Z
  case h1 => rw [word_len, rangeKs_length]; exact wl_1 (Int.fmod_nonneg_of_pos _ (by decide))
  case h3 => rw [word_len, rangeKs_length]; exact wl_3 (Int.fmod_lt_of_pos _ (by decide))
  case c0 => exact Int.fmod_nonneg_of_pos _ (by decide)
  case c1 => exact Int.fmod_lt_of_pos _ (by decide)
  case o1 => omega
  case o2 => omega
  case hE => passes_own
  case hend =>
    intro n ss es s' e us ue n1 n2 m' ps h' tk' hch hn hus hue F N
    clear F2 N2
    k_steps
    rename News _ _ _ _ => N3
    rename Fr _ _ _ _ => F3
    show wpAny _ _ _ _ _ _
    have Z := fun h1 h3 fa cd s tk0 Q E => law_dues _ [] _ _ _ _ _ _ h1 h3 (word_alph _ _) _ _ _ _ n ss es s' e us ue _ hch hn hus hue _ _ fa cd _ _ _ s tk0 Q E kstMark B1 T1 X1 F3 N3
    with_unfolding_all refine' Z ?h1 ?h3 _ _ _ _ _ _ ?hE ?hend
    clear Z
    case h1 => rw [word_len, rangeKs_length]; exact wl_1 (Int.fmod_nonneg_of_pos _ (by decide))
    case h3 => rw [word_len, rangeKs_length]; exact wl_3 (Int.fmod_lt_of_pos _ (by decide))
    case hE => passes_own
    case hend =>
      intro m'' h'' tk'' F N
      k_steps)
end
end Mine
theorem PySem.Challenge.cw_rw0047_01_holds : PySem.Challenge.rw_rw0047_01.Holds :=
  Mine.law1_holds
