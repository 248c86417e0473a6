import PyProof.Rows.All
import Wide.All
import OpenK.AllK
import Wide.FinOn
import PySem.Challenge.RW_rw0047_02
open PySem PySem.W PyProof.Rows
set_option Elab.async false
set_option maxRecDepth 100000
set_option maxHeartbeats 8000000
set_option linter.unusedVariables false
namespace Mine
set_option genSizeOfSpec false
set_option genInjectivity false
local macro_rules | `(tactic| k_room) => `(tactic| ktr_room)
local macro_rules | `(tactic| passes_own) => `(tactic| assumption)
local macro_rules | `(tactic| omega) => `(tactic| lia)
local macro_rules | `(tactic| k_ne) => `(tactic| k_extra "ne")
section
open_top hd for PySem.Challenge.rw_rw0047_02
end
section
theorem calm_PU : True ∧ True := by
  w_top off
  k_with_none
  first
    | (walk1; fail)
    | exact ⟨trivial, trivial⟩
/-- an address off a list of addresses -/
noncomputable def Offs (a : Nat) (l : List Nat) : Prop := ∀ x ∈ l, x ≠ a
section
variable {a : Nat} {o o' : Obj} {x0 x1 x2 x3 x4 x5 x6 x7 x8 x9 x10 x11 x12 x13 x14 x15 : Addr × Obj} {rest : List (Addr × Obj)}
theorem Offs.fin (h : Offs a (rest.map Prod.fst)) : ∀ p ∈ rest, p.1 ≠ a := fun p hp => h p.1 (List.mem_map_of_mem hp)
theorem Offs.at {x : Nat} {l : List Nat} (h : Offs a (x :: l)) : x ≠ a := h x (.head _)
theorem Offs.tl {x : Nat} {l : List Nat} (h : Offs a (x :: l)) : Offs a l := fun y hy => h y (.tail _ hy)
theorem Offs.nil : Offs a [] := fun x hx => nomatch hx
theorem Offs.cons {x : Nat} {l : List Nat} (h : x ≠ a) (t : Offs a l) : Offs a (x :: l) := fun y hy => by rcases List.mem_cons.mp hy with rfl | hy; exact h; exact t y hy
theorem updAt0 (h : Offs a (rest.map Prod.fst)) : Upd a o o' ((a, o) :: rest) ((a, o') :: rest) := .head h.fin
theorem updFAt0 (h : Offs a (rest.map Prod.fst)) : UpdF a o ((a, o) :: rest) (fun o' => (a, o') :: rest) := .head h.fin
theorem updAt1 (h : Offs a (x0.1 :: rest.map Prod.fst)) : Upd a o o' (x0 :: (a, o) :: rest) (x0 :: (a, o') :: rest) := .tail h.at (updAt0 h.tl)
theorem updFAt1 (h : Offs a (x0.1 :: rest.map Prod.fst)) : UpdF a o (x0 :: (a, o) :: rest) (fun o' => x0 :: (a, o') :: rest) := .tail h.at (updFAt0 h.tl)
theorem updAt2 (h : Offs a (x0.1 :: x1.1 :: rest.map Prod.fst)) : Upd a o o' (x0 :: x1 :: (a, o) :: rest) (x0 :: x1 :: (a, o') :: rest) := .tail h.at (updAt1 h.tl)
theorem updFAt2 (h : Offs a (x0.1 :: x1.1 :: rest.map Prod.fst)) : UpdF a o (x0 :: x1 :: (a, o) :: rest) (fun o' => x0 :: x1 :: (a, o') :: rest) := .tail h.at (updFAt1 h.tl)
theorem updAt3 (h : Offs a (x0.1 :: x1.1 :: x2.1 :: rest.map Prod.fst)) : Upd a o o' (x0 :: x1 :: x2 :: (a, o) :: rest) (x0 :: x1 :: x2 :: (a, o') :: rest) := .tail h.at (updAt2 h.tl)
theorem updFAt3 (h : Offs a (x0.1 :: x1.1 :: x2.1 :: rest.map Prod.fst)) : UpdF a o (x0 :: x1 :: x2 :: (a, o) :: rest) (fun o' => x0 :: x1 :: x2 :: (a, o') :: rest) := .tail h.at (updFAt2 h.tl)
theorem updAt4 (h : Offs a (x0.1 :: x1.1 :: x2.1 :: x3.1 :: rest.map Prod.fst)) : Upd a o o' (x0 :: x1 :: x2 :: x3 :: (a, o) :: rest) (x0 :: x1 :: x2 :: x3 :: (a, o') :: rest) := .tail h.at (updAt3 h.tl)
theorem updFAt4 (h : Offs a (x0.1 :: x1.1 :: x2.1 :: x3.1 :: rest.map Prod.fst)) : UpdF a o (x0 :: x1 :: x2 :: x3 :: (a, o) :: rest) (fun o' => x0 :: x1 :: x2 :: x3 :: (a, o') :: rest) := .tail h.at (updFAt3 h.tl)
theorem updAt5 (h : Offs a (x0.1 :: x1.1 :: x2.1 :: x3.1 :: x4.1 :: rest.map Prod.fst)) : Upd a o o' (x0 :: x1 :: x2 :: x3 :: x4 :: (a, o) :: rest) (x0 :: x1 :: x2 :: x3 :: x4 :: (a, o') :: rest) := .tail h.at (updAt4 h.tl)
theorem updFAt5 (h : Offs a (x0.1 :: x1.1 :: x2.1 :: x3.1 :: x4.1 :: rest.map Prod.fst)) : UpdF a o (x0 :: x1 :: x2 :: x3 :: x4 :: (a, o) :: rest) (fun o' => x0 :: x1 :: x2 :: x3 :: x4 :: (a, o') :: rest) := .tail h.at (updFAt4 h.tl)
theorem updAt6 (h : Offs a (x0.1 :: x1.1 :: x2.1 :: x3.1 :: x4.1 :: x5.1 :: rest.map Prod.fst)) : Upd a o o' (x0 :: x1 :: x2 :: x3 :: x4 :: x5 :: (a, o) :: rest) (x0 :: x1 :: x2 :: x3 :: x4 :: x5 :: (a, o') :: rest) := .tail h.at (updAt5 h.tl)
theorem updFAt6 (h : Offs a (x0.1 :: x1.1 :: x2.1 :: x3.1 :: x4.1 :: x5.1 :: rest.map Prod.fst)) : UpdF a o (x0 :: x1 :: x2 :: x3 :: x4 :: x5 :: (a, o) :: rest) (fun o' => x0 :: x1 :: x2 :: x3 :: x4 :: x5 :: (a, o') :: rest) := .tail h.at (updFAt5 h.tl)
theorem updAt7 (h : Offs a (x0.1 :: x1.1 :: x2.1 :: x3.1 :: x4.1 :: x5.1 :: x6.1 :: rest.map Prod.fst)) : Upd a o o' (x0 :: x1 :: x2 :: x3 :: x4 :: x5 :: x6 :: (a, o) :: rest) (x0 :: x1 :: x2 :: x3 :: x4 :: x5 :: x6 :: (a, o') :: rest) := .tail h.at (updAt6 h.tl)
theorem updFAt7 (h : Offs a (x0.1 :: x1.1 :: x2.1 :: x3.1 :: x4.1 :: x5.1 :: x6.1 :: rest.map Prod.fst)) : UpdF a o (x0 :: x1 :: x2 :: x3 :: x4 :: x5 :: x6 :: (a, o) :: rest) (fun o' => x0 :: x1 :: x2 :: x3 :: x4 :: x5 :: x6 :: (a, o') :: rest) := .tail h.at (updFAt6 h.tl)
theorem updAt8 (h : Offs a (x0.1 :: x1.1 :: x2.1 :: x3.1 :: x4.1 :: x5.1 :: x6.1 :: x7.1 :: rest.map Prod.fst)) : Upd a o o' (x0 :: x1 :: x2 :: x3 :: x4 :: x5 :: x6 :: x7 :: (a, o) :: rest) (x0 :: x1 :: x2 :: x3 :: x4 :: x5 :: x6 :: x7 :: (a, o') :: rest) := .tail h.at (updAt7 h.tl)
theorem updFAt8 (h : Offs a (x0.1 :: x1.1 :: x2.1 :: x3.1 :: x4.1 :: x5.1 :: x6.1 :: x7.1 :: rest.map Prod.fst)) : UpdF a o (x0 :: x1 :: x2 :: x3 :: x4 :: x5 :: x6 :: x7 :: (a, o) :: rest) (fun o' => x0 :: x1 :: x2 :: x3 :: x4 :: x5 :: x6 :: x7 :: (a, o') :: rest) := .tail h.at (updFAt7 h.tl)
theorem updAt9 (h : Offs a (x0.1 :: x1.1 :: x2.1 :: x3.1 :: x4.1 :: x5.1 :: x6.1 :: x7.1 :: x8.1 :: rest.map Prod.fst)) : Upd a o o' (x0 :: x1 :: x2 :: x3 :: x4 :: x5 :: x6 :: x7 :: x8 :: (a, o) :: rest) (x0 :: x1 :: x2 :: x3 :: x4 :: x5 :: x6 :: x7 :: x8 :: (a, o') :: rest) := .tail h.at (updAt8 h.tl)
theorem updFAt9 (h : Offs a (x0.1 :: x1.1 :: x2.1 :: x3.1 :: x4.1 :: x5.1 :: x6.1 :: x7.1 :: x8.1 :: rest.map Prod.fst)) : UpdF a o (x0 :: x1 :: x2 :: x3 :: x4 :: x5 :: x6 :: x7 :: x8 :: (a, o) :: rest) (fun o' => x0 :: x1 :: x2 :: x3 :: x4 :: x5 :: x6 :: x7 :: x8 :: (a, o') :: rest) := .tail h.at (updFAt8 h.tl)
theorem updAt10 (h : Offs a (x0.1 :: x1.1 :: x2.1 :: x3.1 :: x4.1 :: x5.1 :: x6.1 :: x7.1 :: x8.1 :: x9.1 :: rest.map Prod.fst)) : Upd a o o' (x0 :: x1 :: x2 :: x3 :: x4 :: x5 :: x6 :: x7 :: x8 :: x9 :: (a, o) :: rest) (x0 :: x1 :: x2 :: x3 :: x4 :: x5 :: x6 :: x7 :: x8 :: x9 :: (a, o') :: rest) := .tail h.at (updAt9 h.tl)
theorem updFAt10 (h : Offs a (x0.1 :: x1.1 :: x2.1 :: x3.1 :: x4.1 :: x5.1 :: x6.1 :: x7.1 :: x8.1 :: x9.1 :: rest.map Prod.fst)) : UpdF a o (x0 :: x1 :: x2 :: x3 :: x4 :: x5 :: x6 :: x7 :: x8 :: x9 :: (a, o) :: rest) (fun o' => x0 :: x1 :: x2 :: x3 :: x4 :: x5 :: x6 :: x7 :: x8 :: x9 :: (a, o') :: rest) := .tail h.at (updFAt9 h.tl)
theorem updAt11 (h : Offs a (x0.1 :: x1.1 :: x2.1 :: x3.1 :: x4.1 :: x5.1 :: x6.1 :: x7.1 :: x8.1 :: x9.1 :: x10.1 :: rest.map Prod.fst)) : Upd a o o' (x0 :: x1 :: x2 :: x3 :: x4 :: x5 :: x6 :: x7 :: x8 :: x9 :: x10 :: (a, o) :: rest) (x0 :: x1 :: x2 :: x3 :: x4 :: x5 :: x6 :: x7 :: x8 :: x9 :: x10 :: (a, o') :: rest) := .tail h.at (updAt10 h.tl)
theorem updFAt11 (h : Offs a (x0.1 :: x1.1 :: x2.1 :: x3.1 :: x4.1 :: x5.1 :: x6.1 :: x7.1 :: x8.1 :: x9.1 :: x10.1 :: rest.map Prod.fst)) : UpdF a o (x0 :: x1 :: x2 :: x3 :: x4 :: x5 :: x6 :: x7 :: x8 :: x9 :: x10 :: (a, o) :: rest) (fun o' => x0 :: x1 :: x2 :: x3 :: x4 :: x5 :: x6 :: x7 :: x8 :: x9 :: x10 :: (a, o') :: rest) := .tail h.at (updFAt10 h.tl)
theorem updAt12 (h : Offs a (x0.1 :: x1.1 :: x2.1 :: x3.1 :: x4.1 :: x5.1 :: x6.1 :: x7.1 :: x8.1 :: x9.1 :: x10.1 :: x11.1 :: rest.map Prod.fst)) : Upd a o o' (x0 :: x1 :: x2 :: x3 :: x4 :: x5 :: x6 :: x7 :: x8 :: x9 :: x10 :: x11 :: (a, o) :: rest) (x0 :: x1 :: x2 :: x3 :: x4 :: x5 :: x6 :: x7 :: x8 :: x9 :: x10 :: x11 :: (a, o') :: rest) := .tail h.at (updAt11 h.tl)
theorem updFAt12 (h : Offs a (x0.1 :: x1.1 :: x2.1 :: x3.1 :: x4.1 :: x5.1 :: x6.1 :: x7.1 :: x8.1 :: x9.1 :: x10.1 :: x11.1 :: rest.map Prod.fst)) : UpdF a o (x0 :: x1 :: x2 :: x3 :: x4 :: x5 :: x6 :: x7 :: x8 :: x9 :: x10 :: x11 :: (a, o) :: rest) (fun o' => x0 :: x1 :: x2 :: x3 :: x4 :: x5 :: x6 :: x7 :: x8 :: x9 :: x10 :: x11 :: (a, o') :: rest) := .tail h.at (updFAt11 h.tl)
theorem updAt13 (h : Offs a (x0.1 :: x1.1 :: x2.1 :: x3.1 :: x4.1 :: x5.1 :: x6.1 :: x7.1 :: x8.1 :: x9.1 :: x10.1 :: x11.1 :: x12.1 :: rest.map Prod.fst)) : Upd a o o' (x0 :: x1 :: x2 :: x3 :: x4 :: x5 :: x6 :: x7 :: x8 :: x9 :: x10 :: x11 :: x12 :: (a, o) :: rest) (x0 :: x1 :: x2 :: x3 :: x4 :: x5 :: x6 :: x7 :: x8 :: x9 :: x10 :: x11 :: x12 :: (a, o') :: rest) := .tail h.at (updAt12 h.tl)
theorem updFAt13 (h : Offs a (x0.1 :: x1.1 :: x2.1 :: x3.1 :: x4.1 :: x5.1 :: x6.1 :: x7.1 :: x8.1 :: x9.1 :: x10.1 :: x11.1 :: x12.1 :: rest.map Prod.fst)) : UpdF a o (x0 :: x1 :: x2 :: x3 :: x4 :: x5 :: x6 :: x7 :: x8 :: x9 :: x10 :: x11 :: x12 :: (a, o) :: rest) (fun o' => x0 :: x1 :: x2 :: x3 :: x4 :: x5 :: x6 :: x7 :: x8 :: x9 :: x10 :: x11 :: x12 :: (a, o') :: rest) := .tail h.at (updFAt12 h.tl)
theorem updAt14 (h : Offs a (x0.1 :: x1.1 :: x2.1 :: x3.1 :: x4.1 :: x5.1 :: x6.1 :: x7.1 :: x8.1 :: x9.1 :: x10.1 :: x11.1 :: x12.1 :: x13.1 :: rest.map Prod.fst)) : Upd a o o' (x0 :: x1 :: x2 :: x3 :: x4 :: x5 :: x6 :: x7 :: x8 :: x9 :: x10 :: x11 :: x12 :: x13 :: (a, o) :: rest) (x0 :: x1 :: x2 :: x3 :: x4 :: x5 :: x6 :: x7 :: x8 :: x9 :: x10 :: x11 :: x12 :: x13 :: (a, o') :: rest) := .tail h.at (updAt13 h.tl)
theorem updFAt14 (h : Offs a (x0.1 :: x1.1 :: x2.1 :: x3.1 :: x4.1 :: x5.1 :: x6.1 :: x7.1 :: x8.1 :: x9.1 :: x10.1 :: x11.1 :: x12.1 :: x13.1 :: rest.map Prod.fst)) : UpdF a o (x0 :: x1 :: x2 :: x3 :: x4 :: x5 :: x6 :: x7 :: x8 :: x9 :: x10 :: x11 :: x12 :: x13 :: (a, o) :: rest) (fun o' => x0 :: x1 :: x2 :: x3 :: x4 :: x5 :: x6 :: x7 :: x8 :: x9 :: x10 :: x11 :: x12 :: x13 :: (a, o') :: rest) := .tail h.at (updFAt13 h.tl)
theorem updAt15 (h : Offs a (x0.1 :: x1.1 :: x2.1 :: x3.1 :: x4.1 :: x5.1 :: x6.1 :: x7.1 :: x8.1 :: x9.1 :: x10.1 :: x11.1 :: x12.1 :: x13.1 :: x14.1 :: rest.map Prod.fst)) : Upd a o o' (x0 :: x1 :: x2 :: x3 :: x4 :: x5 :: x6 :: x7 :: x8 :: x9 :: x10 :: x11 :: x12 :: x13 :: x14 :: (a, o) :: rest) (x0 :: x1 :: x2 :: x3 :: x4 :: x5 :: x6 :: x7 :: x8 :: x9 :: x10 :: x11 :: x12 :: x13 :: x14 :: (a, o') :: rest) := .tail h.at (updAt14 h.tl)
theorem updFAt15 (h : Offs a (x0.1 :: x1.1 :: x2.1 :: x3.1 :: x4.1 :: x5.1 :: x6.1 :: x7.1 :: x8.1 :: x9.1 :: x10.1 :: x11.1 :: x12.1 :: x13.1 :: x14.1 :: rest.map Prod.fst)) : UpdF a o (x0 :: x1 :: x2 :: x3 :: x4 :: x5 :: x6 :: x7 :: x8 :: x9 :: x10 :: x11 :: x12 :: x13 :: x14 :: (a, o) :: rest) (fun o' => x0 :: x1 :: x2 :: x3 :: x4 :: x5 :: x6 :: x7 :: x8 :: x9 :: x10 :: x11 :: x12 :: x13 :: x14 :: (a, o') :: rest) := .tail h.at (updFAt14 h.tl)
end
end
local macro_rules | `(tactic| k_upd) => `(tactic| k_extra "upd")
local macro_rules | `(tactic| k_updF) => `(tactic| k_extra "updF")
section
theorem calm_PL : True ∧ True := by
  w_top off
  k_with_none
  first
    | (walk1; fail)
    | exact ⟨trivial, trivial⟩
/-- the signs of a text -/
noncomputable def cs (x : Str) : List Nat := x.cps.toList
theorem cs_len (x : Str) : (cs x).length = x.length := by simp [cs, Str.length]
theorem str_ext {x y : Str} (h : cs x = cs y) : x = y := by
  cases x; cases y; simp only [cs] at h; congr 1; exact Array.toList_inj.mp h
theorem cs_append (x y : Str) : cs (x ++ y) = cs x ++ cs y := by
  show (x.cps ++ y.cps).toList = _
  simp [cs]
theorem item_cs {x : Str} {i : Int} (h0 : 0 ≤ i) (h1 : i < x.length) : Txt.item x i = ⟨#[(cs x).getD i.toNat 0]⟩ := by
  rw [item_at h0 h1 rfl]
  congr 2
  simp [cs, Array.getD_eq_getD_getElem?]
theorem item_cs_neg {x : Str} {i : Int} (h0 : i < 0) (h1 : -(x.length : Int) ≤ i) : Txt.item x i = ⟨#[(cs x).getD (i + x.length).toNat 0]⟩ := by
  have := item_closes_neg h0 h1 rfl
  rw [beq_iff_eq.mp this]
  congr 2
  simp [cs, Array.getD_eq_getD_getElem?]
theorem slice_from {x : Str} {i : Int} (h0 : 0 ≤ i) (h2 : i ≤ x.length) : cs (Txt.slice x (some i) none) = (cs x).drop i.toNat := by
  rw [slice_from_eq h0 h2 rfl]
  show ((x.cps.toList.drop i.toNat).take (x.length - i).toNat).toArray.toList = _
  rw [List.toList_toArray, cs]
  apply List.take_of_length_le
  simp [Str.length]
  omega
theorem slice_to {x : Str} {j : Int} (h0 : 0 ≤ j) (h2 : j ≤ x.length) : cs (Txt.slice x none (some j)) = (cs x).take j.toNat := by
  have := slice_closes_toL h0 h2
  rw [beq_iff_eq.mp this]
  simp [cs]
theorem slice_to_neg {x : Str} {j : Int} (h0 : j < 0) (h1 : -(x.length : Int) ≤ j) : cs (Txt.slice x none (some j)) = (cs x).take (j + x.length).toNat := by
  have e : Txt.slice x none (some j) = Txt.slice x none (some (j + x.length)) := by
    unfold Txt.slice
    rw [StrLaws.sliceIdx_neg_hi none x.length h0 h1]
  rw [e]
  exact slice_to (by omega) (by omega)
theorem slice_all (x : Str) : Txt.slice x none none = x := by
  unfold Txt.slice
  rw [if_pos]
  have : (Builtin.Str.strSliceIndices none none 1 x.length).length = x.length := by
    simp only [Builtin.Str.strSliceIndices, PySem.sliceRange, List.length_map, List.length_range]
    split <;> simp <;> omega
  simp [this]
end
section
theorem calm_PD : True ∧ True := by
  w_top off
  k_with_none
  first
    | (walk1; fail)
    | exact ⟨trivial, trivial⟩
/-- what a sign costs for another -/
noncomputable def sc (x y : Nat) : Nat := if x = y then 0 else if Txt.lower ⟨#[x]⟩ = Txt.lower ⟨#[y]⟩ then 1 else 2
theorem sc_self (x : Nat) : sc x x = 0 := by simp [sc]
theorem sc_comm (x y : Nat) : sc x y = sc y x := by
  unfold sc
  by_cases h : x = y
  · simp [h]
  · have h' : ¬ y = x := fun e => h e.symm
    rw [if_neg h, if_neg h']
    by_cases h2 : Txt.lower ⟨#[x]⟩ = Txt.lower ⟨#[y]⟩
    · rw [if_pos h2, if_pos h2.symm]
    · have h3 : ¬ Txt.lower ⟨#[y]⟩ = Txt.lower ⟨#[x]⟩ := fun e => h2 e.symm
      rw [if_neg h2, if_neg h3]
theorem sc_le (x y : Nat) : sc x y ≤ 2 := by unfold sc; split <;> (try split) <;> omega

/-- ways from one text to another, with what they cost -/
inductive Al : List Nat → List Nat → Nat → Prop where
  | nil : Al [] [] 0
  | sub {a b n} (x y : Nat) : Al a b n → Al (x :: a) (y :: b) (n + sc x y)
  | del {a b n} (x : Nat) : Al a b n → Al (x :: a) b (n + 2)
  | ins {a b n} (y : Nat) : Al a b n → Al a (y :: b) (n + 2)

/-- the least cost -/
noncomputable def D : List Nat → List Nat → Nat
  | [], b => 2 * b.length
  | _ :: a, [] => 2 * (a.length + 1)
  | x :: a, y :: b => min (D a b + sc x y) (min (D a (y :: b) + 2) (D (x :: a) b + 2))
termination_by a b => a.length + b.length

theorem D_nil (b : List Nat) : D [] b = 2 * b.length := by rw [D]
theorem D_nil' (a : List Nat) : D a [] = 2 * a.length := by cases a <;> simp [D]
theorem D_cons (x y : Nat) (a b : List Nat) : D (x :: a) (y :: b) = min (D a b + sc x y) (min (D a (y :: b) + 2) (D (x :: a) b + 2)) := by rw [D]
theorem al_ins : ∀ (b : List Nat), Al [] b (2 * b.length)
  | [] => .nil
  | y :: b => by have := Al.ins y (al_ins b); simpa [Nat.mul_add] using this
theorem al_del : ∀ (a : List Nat), Al a [] (2 * a.length)
  | [] => .nil
  | y :: b => by have := Al.del y (al_del b); simpa [Nat.mul_add] using this
theorem al_D (a b : List Nat) : Al a b (D a b) := by
  match a, b with
  | [], b => rw [D_nil]; exact al_ins b
  | x :: a, [] => rw [D_nil']; exact al_del _
  | x :: a, y :: b =>
    rw [D_cons]
    have h1 := Al.sub x y (al_D a b)
    have h2 := Al.del x (al_D a (y :: b))
    have h3 := Al.ins y (al_D (x :: a) b)
    rcases Nat.le_total (D a b + sc x y) (min (D a (y :: b) + 2) (D (x :: a) b + 2)) with h | h
    · rw [Nat.min_eq_left h]; exact h1
    · rw [Nat.min_eq_right h]
      rcases Nat.le_total (D a (y :: b) + 2) (D (x :: a) b + 2) with h' | h'
      · rw [Nat.min_eq_left h']; exact h2
      · rw [Nat.min_eq_right h']; exact h3
termination_by a.length + b.length
theorem D_cons_le (x : Nat) (a b : List Nat) : D (x :: a) b ≤ D a b + 2 := by
  cases b with
  | nil => rw [D_nil', D_nil']; simp; omega
  | cons y b => rw [D_cons]; omega
theorem D_cons_le' (y : Nat) (a b : List Nat) : D a (y :: b) ≤ D a b + 2 := by
  cases a with
  | nil => rw [D_nil, D_nil]; simp; omega
  | cons x a => rw [D_cons]; omega
theorem D_le_al {a b : List Nat} {n : Nat} (h : Al a b n) : D a b ≤ n := by
  induction h with
  | nil => simp [D]
  | sub x y _ ih => rw [D_cons]; omega
  | @del a b n x _ ih => have := D_cons_le x a b; omega
  | @ins a b n y _ ih => have := D_cons_le' y a b; omega
theorem Al.comm {a b : List Nat} {n : Nat} (h : Al a b n) : Al b a n := by
  induction h with
  | nil => exact .nil
  | sub x y _ ih => rw [sc_comm]; exact .sub y x ih
  | del x _ ih => exact .ins x ih
  | ins y _ ih => exact .del y ih
theorem D_comm (a b : List Nat) : D a b = D b a := Nat.le_antisymm (D_le_al (al_D b a).comm) (D_le_al (al_D a b).comm)
theorem Al.append {a b c d : List Nat} {n m : Nat} (h : Al a b n) (h' : Al c d m) : Al (a ++ c) (b ++ d) (n + m) := by
  induction h with
  | nil => simpa using h'
  | sub x y _ ih => have := Al.sub x y ih; simp only [List.cons_append]; rw [show ∀ p q r : Nat, p + q + r = p + r + q by omega]; exact this
  | del x _ ih => have := Al.del x ih; simp only [List.cons_append]; rw [show ∀ p q r : Nat, p + q + r = p + r + q by omega]; exact this
  | ins y _ ih => have := Al.ins y ih; simp only [List.cons_append]; rw [show ∀ p q r : Nat, p + q + r = p + r + q by omega]; exact this
theorem Al.rev {a b : List Nat} {n : Nat} (h : Al a b n) : Al a.reverse b.reverse n := by
  induction h with
  | nil => exact .nil
  | sub x y _ ih => have := Al.append ih (Al.sub x y .nil); simpa using this
  | del x _ ih => have := Al.append ih (Al.del x .nil); simpa using this
  | ins y _ ih => have := Al.append ih (Al.ins y .nil); simpa using this
theorem D_rev (a b : List Nat) : D a.reverse b.reverse = D a b := by
  refine Nat.le_antisymm (D_le_al (al_D a b).rev) ?_
  have := D_le_al (al_D a.reverse b.reverse).rev
  simpa using this
/-- a sign less on one side costs two at most -/
theorem D_drop (x : Nat) (a b : List Nat) : D a b ≤ D (x :: a) b + 2 := by
  match b with
  | [] => rw [D_nil', D_nil']; simp; omega
  | y :: b =>
    rw [D_cons]
    have h1 := D_cons_le' y a b
    have h2 := D_drop x a b
    have h3 := D_cons_le' y a b
    omega
theorem D_drop' (y : Nat) (a b : List Nat) : D a b ≤ D a (y :: b) + 2 := by
  rw [D_comm a b, D_comm a]; exact D_drop y b a
theorem D_same (x : Nat) (a b : List Nat) : D (x :: a) (x :: b) = D a b := by
  rw [D_cons, sc_self]
  have h1 := D_drop' x a b
  have h2 := D_drop x a b
  omega
theorem D_pre (c a b : List Nat) : D (c ++ a) (c ++ b) = D a b := by
  induction c with
  | nil => rfl
  | cons x c ih => rw [List.cons_append, List.cons_append, D_same, ih]
theorem D_post (c a b : List Nat) : D (a ++ c) (b ++ c) = D a b := by
  rw [← D_rev, List.reverse_append, List.reverse_append, D_pre, D_rev]
theorem D_self (a : List Nat) : D a a = 0 := by
  induction a with
  | nil => simp [D]
  | cons x a ih => rw [D_same, ih]
theorem D_snoc (x y : Nat) (a b : List Nat) : D (a ++ [x]) (b ++ [y]) = min (D a b + sc x y) (min (D a (b ++ [y]) + 2) (D (a ++ [x]) b + 2)) := by
  have h := D_cons x y a.reverse b.reverse
  rw [← D_rev (a ++ [x]), List.reverse_append, List.reverse_append, List.reverse_singleton, List.reverse_singleton, List.singleton_append, List.singleton_append, h,
    D_rev, ← D_rev a (b ++ [y]), ← D_rev (a ++ [x]) b]
  simp
/-- from some length to another -/
theorem D_len (a b : List Nat) : 2 * b.length ≤ D a b + 2 * a.length := by
  induction a with
  | nil => rw [D_nil]; omega
  | cons x a ih => have := D_drop x a b; simp only [List.length_cons]; omega
theorem D_len' (a b : List Nat) : 2 * a.length ≤ D a b + 2 * b.length := by rw [D_comm]; exact D_len b a
end
section
theorem calm_PSel : True ∧ True := by
  w_top off
  k_with_none
  first
    | (walk1; fail)
    | exact ⟨trivial, trivial⟩
/-- what a word costs at the ends of a name: the least, and where the first such end begins -/
noncomputable def sgo (a b : List Nat) : Nat → Nat × Nat
  | 0 => (2 * a.length + 1, b.length)
  | k + 1 => let r := sgo a b k; if D a (b.drop k) < r.1 then (D a (b.drop k), k) else r
noncomputable def soughtN (a b : List Nat) : Nat := 100 * (sgo a b (b.length + 1)).1 + (sgo a b (b.length + 1)).2
/-- the least cost of an end, with the first place that has it -/
noncomputable def IsM (a b : List Nat) (v : Nat) : Prop := (∀ j, j ≤ b.length → v ≤ 100 * D a (b.drop j) + j) ∧ ∃ j, j ≤ b.length ∧ v = 100 * D a (b.drop j) + j
theorem IsM.uniq {a b : List Nat} {v u : Nat} (h : IsM a b v) (h' : IsM a b u) : v = u := by
  obtain ⟨h1, j, hj, e⟩ := h
  obtain ⟨h2, i, hi, e'⟩ := h'
  have := h1 i hi
  have := h2 j hj
  omega
theorem sgo_inv (a b : List Nat) (hb : b.length < 100) : ∀ k, k ≤ b.length + 1 →
    (sgo a b k = (2 * a.length + 1, b.length) ∧ ∀ i, i < k → 2 * a.length + 1 ≤ D a (b.drop i)) ∨
    (∃ j, j < k ∧ sgo a b k = (D a (b.drop j), j) ∧ D a (b.drop j) ≤ 2 * a.length ∧ ∀ i, i < k → 100 * D a (b.drop j) + j ≤ 100 * D a (b.drop i) + i)
  | 0, _ => .inl ⟨rfl, fun i hi => absurd hi (Nat.not_lt_zero _)⟩
  | k + 1, hk => by
    have ih := sgo_inv a b hb k (by omega)
    rw [sgo]
    rcases ih with ⟨e, h⟩ | ⟨j, hj, e, hD, h⟩
    · rw [e]
      dsimp only
      by_cases hlt : D a (b.drop k) < 2 * a.length + 1
      · rw [if_pos hlt]
        refine .inr ⟨k, by omega, rfl, by omega, fun i hi => ?_⟩
        by_cases hik : i = k
        · subst hik; omega
        · have := h i (by omega); omega
      · rw [if_neg hlt]
        refine .inl ⟨rfl, fun i hi => ?_⟩
        by_cases hik : i = k
        · subst hik; omega
        · exact h i (by omega)
    · rw [e]
      dsimp only
      by_cases hlt : D a (b.drop k) < D a (b.drop j)
      · rw [if_pos hlt]
        refine .inr ⟨k, by omega, rfl, by omega, fun i hi => ?_⟩
        by_cases hik : i = k
        · subst hik; omega
        · have := h i (by omega); omega
      · rw [if_neg hlt]
        refine .inr ⟨j, by omega, rfl, hD, fun i hi => ?_⟩
        by_cases hik : i = k
        · subst hik; omega
        · exact h i (by omega)
theorem sought_is (a b : List Nat) (hb : b.length < 100) : IsM a b (soughtN a b) := by
  unfold soughtN
  rcases sgo_inv a b hb (b.length + 1) (Nat.le_refl _) with ⟨e, h⟩ | ⟨j, hj, e, hD, h⟩
  · have := h b.length (by omega)
    rw [List.drop_length, D_nil'] at this
    omega
  · rw [e]
    exact ⟨fun i hi => h i (by omega), j, by omega, rfl⟩
theorem m_nil {b : List Nat} : IsM [] b b.length := by
  refine ⟨fun j hj => ?_, b.length, Nat.le_refl _, ?_⟩
  · rw [D_nil, List.length_drop]; omega
  · rw [List.drop_length, D_nil]; simp
theorem m_first {a : List Nat} : IsM a [] (200 * a.length) := by
  refine ⟨fun j hj => ?_, 0, Nat.le_refl _, ?_⟩
  · rw [List.drop_nil, D_nil']; simp at hj; omega
  · rw [List.drop_nil, D_nil']; omega
theorem drop_snoc {b : List Nat} {y : Nat} {j : Nat} (h : j ≤ b.length) : (b ++ [y]).drop j = b.drop j ++ [y] := by
  rw [List.drop_append_of_le_length h]
theorem min3_cases (p q r : Nat) : min (min p q) r = p ∨ min (min p q) r = q ∨ min (min p q) r = r := by
  rcases Nat.le_total (min p q) r with h | h
  · rw [Nat.min_eq_left h]
    rcases Nat.le_total p q with h | h
    · exact .inl (Nat.min_eq_left h)
    · exact .inr (.inl (Nat.min_eq_right h))
  · exact .inr (.inr (Nat.min_eq_right h))
theorem lin_up {u p s j : Nat} (h : u ≤ 100 * p + j) : u + 100 * s ≤ 100 * (p + s) + j := by
  rw [Nat.mul_add, Nat.add_right_comm]
  exact Nat.add_le_add_right h _
theorem min_low {u v t s p q r j : Nat} (a1 : u ≤ 100 * p + j) (a2 : v ≤ 100 * q + j) (a3 : t ≤ 100 * r + j) : min (min (u + 100 * s) (v + 200)) (t + 200) ≤ 100 * min (min (p + s) (q + 2)) (r + 2) + j := by
  rcases min3_cases (p + s) (q + 2) (r + 2) with h | h | h
  · rw [h]; exact Nat.le_trans (Nat.min_le_left _ _) (Nat.le_trans (Nat.min_le_left _ _) (lin_up a1))
  · rw [h]; exact Nat.le_trans (Nat.min_le_left _ _) (Nat.le_trans (Nat.min_le_right _ _) (lin_up (s := 2) a2))
  · rw [h]; exact Nat.le_trans (Nat.min_le_right _ _) (lin_up (s := 2) a3)
theorem lin_dn {d u p s j : Nat} (h : d ≤ p + s) (e : u = 100 * p + j) : 100 * d + j ≤ u + 100 * s := by
  rw [e, Nat.add_right_comm, ← Nat.mul_add]
  exact Nat.add_le_add_right (Nat.mul_le_mul_left _ h) _
theorem D_sn1 (x y : Nat) (a b : List Nat) : D (a ++ [x]) (b ++ [y]) ≤ D a b + sc x y := by
  rw [D_snoc, ← Nat.min_assoc]; exact Nat.le_trans (Nat.min_le_left _ _) (Nat.min_le_left _ _)
theorem D_sn2 (x y : Nat) (a b : List Nat) : D (a ++ [x]) (b ++ [y]) ≤ D a (b ++ [y]) + 2 := by
  rw [D_snoc, ← Nat.min_assoc]; exact Nat.le_trans (Nat.min_le_left _ _) (Nat.min_le_right _ _)
theorem D_sn3 (x y : Nat) (a b : List Nat) : D (a ++ [x]) (b ++ [y]) ≤ D (a ++ [x]) b + 2 := by
  rw [D_snoc, ← Nat.min_assoc]; exact Nat.min_le_right _ _
theorem m_step {a b : List Nat} {x y u v t : Nat} (hu : IsM a b u) (hv : IsM a (b ++ [y]) v) (ht : IsM (a ++ [x]) b t) :
    IsM (a ++ [x]) (b ++ [y]) (min (min (u + 100 * sc x y) (v + 200)) (t + 200)) := by
  obtain ⟨u1, ju, hju, eu⟩ := hu
  obtain ⟨v1, jv, hjv, ev⟩ := hv
  obtain ⟨t1, jt, hjt, et⟩ := ht
  have hlen : (b ++ [y]).length = b.length + 1 := by simp
  have last : ∀ (c : List Nat), D c ((b ++ [y]).drop (b ++ [y]).length) = 2 * c.length := by
    intro c; rw [List.drop_length, D_nil']
  have low : ∀ j, j ≤ (b ++ [y]).length → min (min (u + 100 * sc x y) (v + 200)) (t + 200) ≤ 100 * D (a ++ [x]) ((b ++ [y]).drop j) + j := by
    intro j hj
    rcases Nat.lt_or_ge j (b ++ [y]).length with hj1 | hj1
    · rw [hlen] at hj1
      have hj1 := Nat.le_of_lt_succ hj1
      have a2 := v1 j hj
      rw [drop_snoc hj1] at a2 ⊢
      rw [D_snoc, ← Nat.min_assoc]
      exact min_low (u1 j hj1) a2 (t1 j hj1)
    · have e := Nat.le_antisymm hj hj1
      subst e
      have a2 := v1 _ hj
      rw [last] at a2 ⊢
      refine Nat.le_trans (Nat.min_le_left _ _) (Nat.le_trans (Nat.min_le_right _ _) ?_)
      have h := lin_up (s := 2) a2
      rw [show (a ++ [x]).length = a.length + 1 by simp]
      exact h
  refine ⟨low, ?_⟩
  have get : ∀ c j, j ≤ (b ++ [y]).length → min (min (u + 100 * sc x y) (v + 200)) (t + 200) = c → 100 * D (a ++ [x]) ((b ++ [y]).drop j) + j ≤ c → ∃ j, j ≤ (b ++ [y]).length ∧ min (min (u + 100 * sc x y) (v + 200)) (t + 200) = 100 * D (a ++ [x]) ((b ++ [y]).drop j) + j :=
    fun c j hj e h => ⟨j, hj, Nat.le_antisymm (low j hj) (e ▸ h)⟩
  have up : ∀ j, j ≤ b.length → j ≤ (b ++ [y]).length := fun j h => by rw [hlen]; exact Nat.le_succ_of_le h
  rcases min3_cases (u + 100 * sc x y) (v + 200) (t + 200) with h | h | h
  · refine get _ ju (up _ hju) h ?_
    rw [drop_snoc hju]
    exact lin_dn (D_sn1 x y a _) eu
  · refine get _ jv hjv h ?_
    rcases Nat.lt_or_ge jv (b ++ [y]).length with hj1 | hj1
    · rw [hlen] at hj1
      have hj1 := Nat.le_of_lt_succ hj1
      rw [drop_snoc hj1] at ev ⊢
      exact lin_dn (s := 2) (D_sn2 x y a _) ev
    · have e := Nat.le_antisymm hjv hj1
      subst e
      rw [last] at ev ⊢
      refine lin_dn (s := 2) ?_ ev
      rw [show (a ++ [x]).length = a.length + 1 by simp]
      exact Nat.le_refl _
  · refine get _ jt (up _ hjt) h ?_
    rw [drop_snoc hjt]
    exact lin_dn (s := 2) (D_sn3 x y a _) et
/-- the recurrences of the sought costs -/
theorem so_nil {b : List Nat} (hb : b.length < 100) : soughtN [] b = b.length := (sought_is [] b hb).uniq m_nil
theorem so_first {a : List Nat} : soughtN a [] = 200 * a.length := (sought_is a [] (by decide)).uniq m_first
theorem so_step {a b : List Nat} {x y : Nat} (hb : b.length < 99) :
    soughtN (a ++ [x]) (b ++ [y]) = min (min (soughtN a b + 100 * sc x y) (soughtN a (b ++ [y]) + 200)) (soughtN (a ++ [x]) b + 200) :=
  (sought_is _ _ (by simp; omega)).uniq (m_step (sought_is _ _ (by omega)) (sought_is _ _ (by simp; omega)) (sought_is _ _ (by omega)))
/-- the table's line behind i signs of the word -/
noncomputable def lineOf (a b : List Nat) : List Int := (List.range (b.length + 1)).map fun k => (soughtN a (b.take k) : Int)
end
section
theorem calm_L2b1 : True ∧ True := by
  w_top off
  k_with_none
  first
    | (walk1; fail)
    | exact ⟨trivial, trivial⟩
noncomputable def fnOfName (n : Str) : List Stmt → Option Stmt
  | [] => none
  | st :: r => match st with
    | .FunctionDef m .. => if m == n then some st else fnOfName n r
    | _ => fnOfName n r
noncomputable def fnBody : Option Stmt → List Stmt
  | some (.FunctionDef _ _ b ..) => b
  | _ => []
noncomputable def fnScope : Option Stmt → Scope
  | some (.FunctionDef _ _ _ _ _ _ sc ..) => sc
  | _ => default
noncomputable def levB : {l : List Stmt // fnBody (fnOfName (Str.ofString "_levenshtein_distance") PySem.Challenge.rw_rw0047_02.prog.main.body) = l} := by
  apply Subtype.mk
  conv => lhs; whnf
noncomputable def levS : {l : Scope // fnScope (fnOfName (Str.ofString "_levenshtein_distance") PySem.Challenge.rw_rw0047_02.prog.main.body) = l} := by
  apply Subtype.mk
  conv => lhs; whnf
end
section
theorem calm_PE : True ∧ True := by
  w_top off
  k_with_none
  first
    | (walk1; fail)
    | exact ⟨trivial, trivial⟩
theorem take_one {l : List Nat} {k : Nat} (h : k < l.length) : l.take (k + 1) = l.take k ++ [l.getD k 0] := by
  rw [List.take_add_one, List.getD_eq_getElem?_getD, List.getElem?_eq_getElem h]; rfl
theorem take_oneI {l : List Int} {k : Nat} (h : k < l.length) : l.take (k + 1) = l.take k ++ [l.getD k 0] := by
  rw [List.take_add_one, List.getD_eq_getElem?_getD, List.getElem?_eq_getElem h]; rfl
theorem getD_right {l r : List Int} {k : Nat} {d : Int} (h : l.length ≤ k) : (l ++ r).getD k d = r.getD (k - l.length) d := by
  rw [List.getD_eq_getElem?_getD, List.getElem?_append_right h, List.getD_eq_getElem?_getD]
theorem drop_one {l : List Nat} {k : Nat} (h : k < l.length) : l.drop k = l.getD k 0 :: l.drop (k + 1) := by
  rw [List.drop_eq_getElem_cons h, List.getD_eq_getElem?_getD, List.getElem?_eq_getElem h]; rfl
theorem drop_oneI {l : List Int} {k : Nat} (h : k < l.length) : l.drop k = l.getD k 0 :: l.drop (k + 1) := by
  rw [List.drop_eq_getElem_cons h, List.getD_eq_getElem?_getD, List.getElem?_eq_getElem h]; rfl
/-- what the distance function may answer -/
noncomputable def LevOk (a b : Str) (m v : Int) : Prop := v = (D (cs a) (cs b) : Int) ∨ (m < v ∧ m < (D (cs a) (cs b) : Int))
theorem lev_same {a b : Str} {m : Int} (h : (a == b) = true) : LevOk a b m 0 := by
  rw [beq_iff_eq.mp h]
  left
  rw [D_self]
  rfl
noncomputable def rowAt (a b : List Nat) (i : Nat) : List Int := (List.range a.length).map fun j => (D (a.take (j + 1)) (b.take i) : Int)
theorem rowAt_len (a b : List Nat) (i : Nat) : (rowAt a b i).length = a.length := by simp [rowAt]
theorem rowAt_get {a b : List Nat} {i k : Nat} (h : k < a.length) : (rowAt a b i).getD k 0 = (D (a.take (k + 1)) (b.take i) : Int) := by
  simp [rowAt, List.getD_eq_getElem?_getD, h]
noncomputable def scS (x y : Str) : Int := if x = y then 0 else if Txt.lower x = Txt.lower y then 1 else 2
theorem scS_one (x y : Nat) : scS ⟨#[x]⟩ ⟨#[y]⟩ = (sc x y : Int) := by
  unfold scS sc
  by_cases h : x = y
  · subst h; simp
  · have h' : ¬ (⟨#[x]⟩ : Str) = ⟨#[y]⟩ := fun e => h (by injection e with e; simpa using e)
    rw [if_neg h', if_neg h]
    split <;> rfl
noncomputable def Inn (a b : List Nat) (i k : Nat) (row : List Int) (dist res mini : Int) : Prop :=
  row = (rowAt a b (i + 1)).take k ++ (rowAt a b i).drop k ∧ dist = D (a.take k) (b.take i) ∧ res = (if k = 0 then 2 * (i : Int) else D (a.take k) (b.take (i + 1))) ∧ ∀ j, j < k → mini ≤ D (a.take (j + 1)) (b.take (i + 1))
noncomputable def Out (a b : List Nat) (i : Nat) (row : List Int) (res : Int) : Prop := row = rowAt a b i ∧ (i ≠ 0 → res = D a (b.take i))
theorem out_start {a b : Str} : (List.map (fun (j : Nat) => (2 : Int) + (j : Int) * 2) (List.range a.length)).length = a.length ∧ Out (cs a) (cs b) ([] : List Int).length (List.map (fun (j : Nat) => (2 : Int) + (j : Int) * 2) (List.range a.length)) 0 := by
  refine ⟨by simp, ?_, fun h => absurd rfl h⟩
  unfold rowAt
  rw [cs_len]
  apply List.map_congr_left
  intro j hj
  rw [List.mem_range] at hj
  show _ = (D ((cs a).take (j + 1)) ((cs b).take 0) : Int)
  rw [List.take_zero, D_nil', List.length_take, cs_len, Nat.min_eq_left (by omega)]
  omega
theorem inn_start {a b : Str} {i : Nat} {k res : Int} {row : List Int} (hk : k = 0 + (i : Int)) (hi : i < ((b.length : Int) - 0).toNat) (hl : row.length = a.length) (h : Out (cs a) (cs b) i row res) (big : Int) :
    row.length = a.length ∧ Inn (cs a) (cs b) i ([] : List Int).length row (k * 2) (k * 2) big := by
  refine ⟨hl, ?_, ?_, ?_, fun j hj => absurd hj (Nat.not_lt_zero _)⟩
  · simpa using h.1
  · show k * 2 = (D ((cs a).take 0) ((cs b).take i) : Int)
    rw [List.take_zero, D_nil, List.length_take, cs_len, Nat.min_eq_left (by omega)]
    omega
  · show k * 2 = 2 * (i : Int)
    omega
theorem lt_min (a b : Nat) : (if (a : Int) < (b : Int) then (a : Int) else (b : Int)) = ((min a b : Nat) : Int) := by
  by_cases h : (a : Int) < (b : Int)
  · rw [if_pos h, Nat.min_eq_left (Nat.le_of_lt (Int.ofNat_lt.mp h))]
  · rw [if_neg h, Nat.min_eq_right (Nat.le_of_not_lt fun e => h (Int.ofNat_lt.mpr e))]
theorem inn_fitN (d p x y : Nat) : (if (p : Int) + (x : Int) < (if (d : Int) < (y : Int) then (d : Int) else (y : Int)) + 2 then (p : Int) + (x : Int) else (if (d : Int) < (y : Int) then (d : Int) else (y : Int)) + 2) = ((min (p + x) (min d y + 2) : Nat) : Int) := by
  rw [lt_min d y]
  exact lt_min (p + x) (min d y + 2)
theorem inn_fit (d p x y : Nat) : (if (p : Int) + (x : Int) < (if (d : Int) < (y : Int) then (d : Int) else (y : Int)) + 2 then (p : Int) + (x : Int) else (if (d : Int) < (y : Int) then (d : Int) else (y : Int)) + 2) = ((min (p + x) (min (y + 2) (d + 2)) : Nat) : Int) := by
  rw [inn_fitN, Nat.add_min_add_right, Nat.min_comm y d]
theorem inn_low {d x i : Nat} (hx : x ≤ 2) : min (2 * i + x) (min d (2 * i) + 2) = min (2 * i + x) (min (2 * (i + 1) + 2) (d + 2)) := by omega
theorem inn_fit0 (d x i : Nat) (hx : x ≤ 2) : (if ((2 * i : Nat) : Int) + (x : Int) < (if (d : Int) < 2 * (i : Int) then (d : Int) else 2 * (i : Int)) + 2 then ((2 * i : Nat) : Int) + (x : Int) else (if (d : Int) < 2 * (i : Int) then (d : Int) else 2 * (i : Int)) + 2) = ((min (2 * i + x) (min (2 * (i + 1) + 2) (d + 2)) : Nat) : Int) := by
  rw [← inn_low hx]
  exact inn_fitN d (2 * i) x (2 * i)
theorem inn_get {a b : List Nat} {i k : Nat} {row : List Int} (hk : k < a.length) (hrow : row = (rowAt a b (i + 1)).take k ++ (rowAt a b i).drop k) : row.getD k 0 = D (a.take (k + 1)) (b.take i) := by
  rw [hrow, getD_right (by rw [List.length_take]; exact Nat.min_le_left _ _), List.length_take, rowAt_len, Nat.min_eq_left (Nat.le_of_lt hk), Nat.sub_self, drop_oneI (by rw [rowAt_len]; exact hk), List.getD_cons_zero, rowAt_get hk]
theorem inn_val {a b : Str} {i k : Nat} {row : List Int} {dist res mini ko ki : Int} (hko : ko = 0 + (i : Int)) (hi : i < ((b.length : Int) - 0).toNat) (hki : ki = 0 + (k : Int)) (hk : k < ((a.length : Int) - 0).toNat)
    (hl : row.length = a.length) (h : Inn (cs a) (cs b) i k row dist res mini) :
    row.getD ki.toNat 0 = D ((cs a).take (k + 1)) ((cs b).take i) ∧
    (if dist + scS (Txt.item b ko) (Txt.item a ki) < (if row.getD ki.toNat 0 < res then row.getD ki.toNat 0 else res) + 2 then dist + scS (Txt.item b ko) (Txt.item a ki)
      else (if row.getD ki.toNat 0 < res then row.getD ki.toNat 0 else res) + 2) = D ((cs a).take (k + 1)) ((cs b).take (i + 1)) := by
  have hkA : k < (cs a).length := by rw [cs_len]; omega
  have hiB : i < (cs b).length := by rw [cs_len]; omega
  have e1 : ki.toNat = k := by omega
  have e2 : ko.toNat = i := by omega
  have ia : Txt.item a ki = ⟨#[(cs a).getD k 0]⟩ := by rw [item_cs (by omega) (by omega), e1]
  have ib : Txt.item b ko = ⟨#[(cs b).getD i 0]⟩ := by rw [item_cs (by omega) (by omega), e2]
  rw [e1, ia, ib, scS_one]
  clear hko hki hi hk hl e1 e2 ia ib
  obtain ⟨hrow, hd, hr, _⟩ := h
  have hg := inn_get (i := i) hkA hrow
  refine ⟨hg, ?_⟩
  rw [hg, hd, hr]
  have hs := D_snoc ((cs a).getD k 0) ((cs b).getD i 0) ((cs a).take k) ((cs b).take i)
  rw [← take_one hkA, ← take_one hiB] at hs
  rw [sc_comm] at hs
  have hle := sc_le ((cs b).getD i 0) ((cs a).getD k 0)
  by_cases h0 : k = 0
  · subst h0
    have z1 : D ((cs a).take 0) ((cs b).take i) = 2 * i := by rw [List.take_zero, D_nil, List.length_take, Nat.min_eq_left (Nat.le_of_lt hiB)]
    have z2 : D ((cs a).take 0) ((cs b).take (i + 1)) = 2 * (i + 1) := by rw [List.take_zero, D_nil, List.length_take, Nat.min_eq_left hiB]
    rw [if_pos rfl, hs, z1, z2]
    exact inn_fit0 _ _ _ hle
  · rw [if_neg h0, hs]
    exact inn_fit _ _ _ _
theorem inn_row {a b : Str} {i k : Nat} {row : List Int} {dist res mini ki v : Int} (hki : ki = 0 + (k : Int)) (hk : k < ((a.length : Int) - 0).toNat)
    (h : Inn (cs a) (cs b) i k row dist res mini) (hv : v = D ((cs a).take (k + 1)) ((cs b).take (i + 1))) :
    row.set ki.toNat v = (rowAt (cs a) (cs b) (i + 1)).take (k + 1) ++ (rowAt (cs a) (cs b) i).drop (k + 1) := by
  have hkA : k < (cs a).length := by rw [cs_len]; omega
  have e1 : ki.toNat = k := by omega
  rw [e1, h.1, List.set_append_right _ _ (by rw [List.length_take, rowAt_len]; omega), List.length_take, rowAt_len, Nat.min_eq_left (by omega), Nat.sub_self,
    drop_oneI (l := rowAt (cs a) (cs b) i) (by rw [rowAt_len]; exact hkA), List.set_cons_zero, take_oneI (l := rowAt (cs a) (cs b) (i + 1)) (by rw [rowAt_len]; exact hkA), rowAt_get hkA, hv]
  simp
theorem inn_turn1 {a b : Str} {i : Nat} {pre row : List Int} {dist res mini ko ki : Int} (hko : ko = 0 + (i : Int)) (hi : i < ((b.length : Int) - 0).toNat) (hki : ki = 0 + (pre.length : Int)) (hk : pre.length < ((a.length : Int) - 0).toNat)
    (hl : row.length = a.length) (h : Inn (cs a) (cs b) i pre.length row dist res mini) {v : Int}
    (hv : v = (if dist + scS (Txt.item b ko) (Txt.item a ki) < (if row.getD ki.toNat 0 < res then row.getD ki.toNat 0 else res) + 2 then dist + scS (Txt.item b ko) (Txt.item a ki) else (if row.getD ki.toNat 0 < res then row.getD ki.toNat 0 else res) + 2))
    (hm : v < mini) :
    (row.set ki.toNat v).length = a.length ∧ Inn (cs a) (cs b) i (pre ++ [ki]).length (row.set ki.toNat v) (row.getD ki.toNat 0) v v := by
  obtain ⟨e1, e2⟩ := inn_val hko hi hki hk hl h
  rw [e2] at hv
  have hlen : (pre ++ [ki]).length = pre.length + 1 := by simp
  refine ⟨by rw [List.length_set]; exact hl, ?_, ?_, ?_, ?_⟩
  · rw [hlen]; exact inn_row hki hk h hv
  · rw [hlen]; exact e1
  · rw [hlen, if_neg (Nat.succ_ne_zero _)]; exact hv
  · rw [hlen]
    intro j hj
    rcases Nat.lt_succ_iff_lt_or_eq.mp hj with hj | hj
    · have := h.2.2.2 j hj
      omega
    · rw [hj, ← hv]
      omega
theorem inn_turn2 {a b : Str} {i : Nat} {pre row : List Int} {dist res mini ko ki : Int} (hko : ko = 0 + (i : Int)) (hi : i < ((b.length : Int) - 0).toNat) (hki : ki = 0 + (pre.length : Int)) (hk : pre.length < ((a.length : Int) - 0).toNat)
    (hl : row.length = a.length) (h : Inn (cs a) (cs b) i pre.length row dist res mini) {v : Int}
    (hv : v = (if dist + scS (Txt.item b ko) (Txt.item a ki) < (if row.getD ki.toNat 0 < res then row.getD ki.toNat 0 else res) + 2 then dist + scS (Txt.item b ko) (Txt.item a ki) else (if row.getD ki.toNat 0 < res then row.getD ki.toNat 0 else res) + 2))
    (hm : ¬ v < mini) :
    (row.set ki.toNat v).length = a.length ∧ Inn (cs a) (cs b) i (pre ++ [ki]).length (row.set ki.toNat v) (row.getD ki.toNat 0) v mini := by
  obtain ⟨e1, e2⟩ := inn_val hko hi hki hk hl h
  rw [e2] at hv
  have hlen : (pre ++ [ki]).length = pre.length + 1 := by simp
  refine ⟨by rw [List.length_set]; exact hl, ?_, ?_, ?_, ?_⟩
  · rw [hlen]; exact inn_row hki hk h hv
  · rw [hlen]; exact e1
  · rw [hlen, if_neg (Nat.succ_ne_zero _)]; exact hv
  · rw [hlen]
    intro j hj
    rcases Nat.lt_succ_iff_lt_or_eq.mp hj with hj | hj
    · exact h.2.2.2 j hj
    · rw [hj, ← hv]
      omega
theorem inn_end {a b : Str} {i : Nat} {row : List Int} {dist res mini : Int} (h : Inn (cs a) (cs b) i (rangeKs 0 ((a.length : Int) - 0).toNat).length row dist res mini) :
    Inn (cs a) (cs b) i a.length row dist res mini := by
  rw [rangeKs_length] at h
  have e : ((a.length : Int) - 0).toNat = a.length := by omega
  rwa [e] at h
theorem out_turn {a b : Str} {pre : List Int} {k : Int} {row : List Int} {dist res mini : Int} (ha : 0 < a.length) (hl : row.length = a.length) (h : Inn (cs a) (cs b) pre.length (rangeKs 0 ((a.length : Int) - 0).toNat).length row dist res mini) :
    row.length = a.length ∧ Out (cs a) (cs b) (pre ++ [k]).length row res := by
  obtain ⟨h1, h2, h3, _⟩ := inn_end h
  have hlen : (pre ++ [k]).length = pre.length + 1 := by simp
  refine ⟨hl, ?_, fun _ => ?_⟩
  · rw [hlen, h1, List.take_of_length_le (by rw [rowAt_len, cs_len]; omega), List.drop_of_length_le (by rw [rowAt_len, cs_len]; omega), List.append_nil]
  · rw [hlen, h3, if_neg (by omega), List.take_of_length_le (by rw [cs_len]; omega)]
/-- a way crosses each row -/
theorem al_cross {a b : List Nat} {n : Nat} (h : Al a b n) : ∀ i, i ≤ b.length → ∃ j n1, j ≤ a.length ∧ n1 ≤ n ∧ Al (a.take j) (b.take i) n1 := by
  induction h with
  | nil => intro i hi; exact ⟨0, 0, by simp, by omega, by simpa using Al.nil⟩
  | @sub a b n x y _ ih =>
    intro i hi
    cases i with
    | zero => exact ⟨0, 0, by simp, by omega, by simpa using Al.nil⟩
    | succ i =>
      obtain ⟨j, n1, hj, hn, hal⟩ := ih i (by simpa using hi)
      exact ⟨j + 1, n1 + sc x y, by simpa using hj, by omega, by simpa using Al.sub x y hal⟩
  | @del a b n x _ ih =>
    intro i hi
    obtain ⟨j, n1, hj, hn, hal⟩ := ih i hi
    exact ⟨j + 1, n1 + 2, by simpa using hj, by omega, by simpa using Al.del x hal⟩
  | @ins a b n y _ ih =>
    intro i hi
    cases i with
    | zero => exact ⟨0, 0, by simp, by omega, by simpa using Al.nil⟩
    | succ i =>
      obtain ⟨j, n1, hj, hn, hal⟩ := ih i (by simpa using hi)
      exact ⟨j, n1 + 2, hj, by omega, by simpa using Al.ins y hal⟩
theorem lev_cut {a b : Str} {i : Nat} {row : List Int} {dist res mini m : Int} (ha : 0 < a.length) (hi : i < ((b.length : Int) - 0).toNat)
    (h : Inn (cs a) (cs b) i (rangeKs 0 ((a.length : Int) - 0).toNat).length row dist res mini) (hm : m < mini) : LevOk a b m (m + 1) := by
  right
  refine ⟨by omega, ?_⟩
  obtain ⟨_, _, _, h4⟩ := inn_end h
  obtain ⟨j, n1, hj, hn, hal⟩ := al_cross (al_D (cs a) (cs b)) (i + 1) (by rw [cs_len]; omega)
  have hD := D_le_al hal
  rw [cs_len] at hj
  cases j with
  | zero =>
    have h0 := h4 0 ha
    have hlb := cs_len b
    rw [List.take_zero, D_nil, List.length_take, Nat.min_eq_left (by omega)] at hD
    have hA : 0 < (cs a).length := by rw [cs_len]; exact ha
    have hB : i < (cs b).length := by rw [cs_len]; omega
    have e := D_snoc ((cs a).getD 0 0) ((cs b).getD i 0) ((cs a).take 0) ((cs b).take i)
    have z : D ((cs a).take 0) ((cs b).take i) = 2 * i := by rw [List.take_zero, D_nil, List.length_take, Nat.min_eq_left (by omega)]
    rw [← take_one hA, ← take_one hB, z] at e
    have hle := sc_le ((cs a).getD 0 0) ((cs b).getD i 0)
    omega
  | succ j =>
    have := h4 j (by omega)
    omega
theorem lev_done {a b : Str} {row : List Int} {res m : Int} (hb : 0 < b.length) (h : Out (cs a) (cs b) (rangeKs 0 ((b.length : Int) - 0).toNat).length row res) : LevOk a b m res := by
  left
  rw [rangeKs_length] at h
  have e : ((b.length : Int) - 0).toNat = b.length := by omega
  rw [e] at h
  rw [h.2 (by omega), List.take_of_length_le (by rw [cs_len]; omega)]
/-- equal ahead and equal behind: what stands between decides -/
theorem lev_trim {a b a1 b1 a2 b2 : Str} {m v k q : Int} (h0 : 0 ≤ k) (hp : (cs a).take k.toNat = (cs b).take k.toNat) (ha1 : cs a1 = (cs a).drop k.toNat) (hb1 : cs b1 = (cs b).drop k.toNat)
    (hq : (cs a1).drop (a1.length + q).toNat = (cs b1).drop (b1.length + q).toNat) (ha2 : cs a2 = (cs a1).take (a1.length + q).toNat) (hb2 : cs b2 = (cs b1).take (b1.length + q).toNat) (h : LevOk a2 b2 m v) : LevOk a b m v := by
  have e : D (cs a) (cs b) = D (cs a2) (cs b2) := by
    have e1 : D (cs a) (cs b) = D (cs a1) (cs b1) := by
      rw [← List.take_append_drop k.toNat (cs a), ← List.take_append_drop k.toNat (cs b), hp, D_pre, ha1, hb1]
    rw [e1, ← List.take_append_drop (a1.length + q).toNat (cs a1), ← List.take_append_drop (b1.length + q).toNat (cs b1), hq, D_post, ha2, hb2]
  unfold LevOk at h ⊢
  rw [e]
  exact h
theorem lev_swap {a b a2 b2 : Str} {m v : Int} (h : a2 = a ∧ b2 = b ∨ a2 = b ∧ b2 = a) (hv : LevOk a2 b2 m v) : LevOk a b m v := by
  rcases h with ⟨rfl, rfl⟩ | ⟨rfl, rfl⟩
  · exact hv
  · unfold LevOk at hv ⊢
    rw [D_comm]
    exact hv
end
section
theorem calm_PComp : True ∧ True := by
  w_top off
  k_with_none
  first
    | (walk1; fail)
    | exact ⟨trivial, trivial⟩
theorem strs_of_signs {f : Nat → Str} {ys vs : List Value} (h : Paired (fun v r => ∃ c u t, v = Value.str ⟨#[c]⟩ u ∧ r = Value.str (f c) t) vs ys) :
    ∀ (l : List Nat), vs.length = l.length → (∀ (j : Nat) (v : Value), vs[j]? = some v → ∃ c u, l[j]? = some c ∧ v = .str ⟨#[c]⟩ u) → StrsAre ys (l.map f) := by
  induction h with
  | nil => intro l hl _; cases l with
    | nil => exact .nil
    | cons _ _ => cases hl
  | cons hF _ ih =>
    intro l hl hg
    cases l with
    | nil => cases hl
    | cons c l =>
      obtain ⟨c', u, t, e1, e2⟩ := hF
      obtain ⟨c2, u2, e3, e4⟩ := hg 0 _ rfl
      subst e1
      subst e2
      simp only [List.getElem?_cons_zero, Option.some.injEq] at e3
      subst e3
      injection e4 with e5 e6
      injection e5 with e5
      have : c' = c := by simpa using e5
      subst this
      exact .cons _ _ (ih l (by simpa using hl) fun j v hj => by simpa using hg (j + 1) v (by simpa using hj))
theorem comp_signs {prog : Program} {w : World} {A : Around} {E : Value → Shared → Prop} {s : Shared} {h₀ : Heap} {L : Addr} {m : Str → Option Value} {news : List (Addr × Obj)} {env : Env}
    {elt iter : Expr} {x : Str} {px : Pos} {scope : Scope} {pos : Pos} {Q : Value → Shared → Prop} {y : Str} {t : Tok} (f : Nat → Str)
    (hh : A.handled = none) (hfree : ∀ y ∈ scope.names, y.2 ≠ .free) (hcell : ∀ y ∈ scope.names, y.2 ≠ .cell) (hkind : scope.kind = .function)
    (hnames : ∀ y ∈ scope.names, y.2 = .local → scope.names.lookup y.1 = some .local) (hx : scope.names.lookup x = some .local)
    (F : Fr h₀ L s.heap m) (N : News h₀ L s.heap news) (hsz : y.length ≤ sizeLine)
    (hv : ∀ Q' : Value → Shared → Prop, Q' (.str y t) s → wpAny (model prog w) A (eval iter env) Q' E s)
    (helt : ∀ C c u s₂ m₂ E', s₂.heap.Ns (compEnv scope C env).locals m₂ → m₂ x = some (.str ⟨#[c]⟩ u) → wpAny (model prog w) A (eval elt (compEnv scope C env)) (fun r s₃ => (∃ t, r = .str (f c) t) ∧ Keeps s₂ s₃) E' s₂)
    (h : ∀ D ys h' tk, Fr h₀ L h' m → News h₀ L h' news → h'.IsList D ys → StrsAre ys.toList ((cs y).map f) → Q (.ref D) { s with heap := h', toks := tk })
    (hs : ∀ x, foldedSetIterable iter env x = pure x) :
    wpAny (model prog w) A (eval (.ListComp elt [⟨.Name x px, iter, [], 0⟩] scope pos) env) Q E s := by
  refine wpAny_ListComp_walk (fun _ => true) (fun v r => ∃ c u t, v = Value.str ⟨#[c]⟩ u ∧ r = Value.str (f c) t) hfree hcell hkind hnames hx (hv _ ?_) hs
  refine wpAny_pyIter_str fun o St W hst => ?_
  have up : ∀ (h' : Heap), (∀ b o', b ∉ [s.heap.objs.size] → (s.heap.push o).get? b = some o' → h'.get? b = some o') → ∀ b o', s.heap.get? b = some o' → h'.get? b = some o' :=
    fun h' hk b o' e => hk b o' (old_not_new e) (Heap.get?_push_of_some _ e)
  refine ⟨s.heap.objs.size, [s.heap.objs.size], [s.heap.objs.size], y.cps.size, SignAt y, St, rfl, W A hh, hsz, hst, ?_, ⟨?_, ?_⟩, ?_⟩
  · intro b hb
    show b < (s.heap.push o).objs.size
    rw [Heap.size_push, List.mem_singleton.mp hb]
    exact Nat.lt_succ_self _
  · intro C i v s₃ m₃ E' hP hn hm _ _
    exact wpAny_pure ⟨rfl, s₃.heap, s₃.toks, rfl, fun _ _ e => e⟩
  · intro C i v s₃ m₃ E' hP hp hn hm _ _
    obtain ⟨c, u, _, rfl⟩ := hP
    exact wpAny_mono (helt C c u s₃ m₃ E' hn hm) (fun r s₄ h₄ => ⟨by obtain ⟨t, e⟩ := h₄.1; exact ⟨c, u, t, rfl, e⟩, h₄.2⟩) fun _ _ e => e
  · intro D h' tk ys vs hnew hlD hplD hlen hP hF hk
    refine h D ys h' tk (F.keeps (up h' hk)) (N.grown (up h' hk)) hlD ?_
    rw [List.filter_eq_self.mpr fun _ _ => rfl] at hF
    refine strs_of_signs hF (cs y) (by rw [hlen, cs_len]; rfl) fun j v hj => ?_
    obtain ⟨c, u, hc, e⟩ := hP j v hj
    exact ⟨c, u, by rw [cs, Array.getElem?_toList]; exact hc, e⟩
theorem cs_joinE : ∀ (l : List Str), cs (Txt.join (Str.ofString "") l) = l.flatMap cs := by
  intro l
  show cs (Builtin.Str.glued _ l) = _
  rw [StrLaws.glued_eq_join]
  induction l with
  | nil => rfl
  | cons x r ih =>
    cases r with
    | nil => show cs x = _; simp
    | cons y r =>
      rw [List.flatMap_cons, ← ih]
      show cs (x ++ Str.ofString "" ++ Str.join _ (y :: r)) = _
      rw [cs_append, cs_append]
      have : cs (Str.ofString "") = [] := by decide +kernel
      rw [this, List.append_nil]
end
section
theorem calm_PCit : True ∧ True := by
  w_top off
  k_with_none
  first
    | (walk1; fail)
    | exact ⟨trivial, trivial⟩
theorem slot_cit_next : Slot "callable_iterator" "__next__" "callable_iterator.__next__" :=
  .of (owner := "callable_iterator") (n := "__next__") (by rw [typeLookup_type, builtinLookup_eq_fast]; kernel_rfl) (by decide +kernel) (by decide +kernel) (by decide +kernel)
    (by first | exact .inl (by decide +kernel) | exact .inr (by decide +kernel)) (by rw [isSubtype_type]; kernel_rfl)
theorem slot_cit_iter : Slot "callable_iterator" "__iter__" "callable_iterator.__iter__" :=
  .of (owner := "callable_iterator") (n := "__iter__") (by rw [typeLookup_type, builtinLookup_eq_fast]; kernel_rfl) (by decide +kernel) (by decide +kernel) (by decide +kernel)
    (by first | exact .inl (by decide +kernel) | exact .inr (by decide +kernel)) (by rw [isSubtype_type]; kernel_rfl)
theorem entry_cit_next : entryFor table "callable_iterator.__next__" = some Builtin.«callable_iterator.__next__» := entryFor_of_tree (by kernel_rfl)
theorem entry_cit_iter : entryFor table "callable_iterator.__iter__" = some Builtin.«dict_keyiterator.__iter__» :=
  entryFor_alias (id' := "dict_keyiterator.__iter__") (by kernel_rfl) (by first | rfl | decide +kernel | (unfold String.splitOn; simp +decide [String.splitOnAux])) (by decide +kernel) (by kernel_rfl)
theorem owner_cit : Manifest.owners.lookup (String.ofList ['r', 'o', 't', 'a', 'r', 'e', 't', 'i', '_', 'e', 'l', 'b', 'a', 'l', 'l', 'a', 'c'].reverse) = some Manifest.sig_callable_iterator := by kernel_rfl
theorem args_cit_next_1 (a : Value) : argsOk "callable_iterator.__next__" ⟨[a], []⟩ := by
  unfold argsOk; rw [signature?_of (id := "callable_iterator.__next__") (n := ['_', '_', 't', 'x', 'e', 'n', '_', '_']) (o := ['r', 'o', 't', 'a', 'r', 'e', 't', 'i', '_', 'e', 'l', 'b', 'a', 'l', 'l', 'a', 'c']) (by kernel_rfl) owner_cit]; kernel_rfl
theorem args_cit_iter_1 (a : Value) : argsOk "callable_iterator.__iter__" ⟨[a], []⟩ := by
  unfold argsOk; rw [signature?_of (id := "callable_iterator.__iter__") (n := ['_', '_', 'r', 'e', 't', 'i', '_', '_']) (o := ['r', 'o', 't', 'a', 'r', 'e', 't', 'i', '_', 'e', 'l', 'b', 'a', 'l', 'l', 'a', 'c']) (by kernel_rfl) owner_cit]; kernel_rfl
/-- an iterator that asks a call, and one at its end -/
noncomputable abbrev citObj (q : Nat) (t : Nat) : Obj := { cls := .type "callable_iterator", data := .fields #[.ref q, .str (Str.ofString "") t, .bool false] }
noncomputable abbrev citEnd : Obj := { cls := .type "callable_iterator", data := .fields #[.none, .none, .bool true] }
section
variable {prog : Program} {w : World} {A : Around} {E : Value → Shared → Prop} {s : Shared}
theorem cit_iter {I : Addr} {o : Obj} {Q : Value → Shared → Prop} (ho : s.heap.get? I = some o) (hc : o.cls = .type "callable_iterator") (h : Q (.ref I) s) : wpAny (model prog w) A (pyIter (.ref I)) Q E s := by
  have hT : s.TypeIs (.ref I) "callable_iterator" := ⟨_, ho, hc⟩
  refine wpAny_pyIter_slot hT slot_cit_iter (wpAny_call_entry slot_cit_iter hT entry_cit_iter ?_ (args_cit_iter_1 _))
  show wpAny _ _ (ret (.ref I)) _ _ s
  exact wpAny_pure ⟨_, rfl, "callable_iterator", _, hT, slot_cit_next.lookup, h⟩
theorem wpAny_callBorrowed {f : Value} {pos : List Value} {Q : Value → Shared → Prop}
    (hc : codeAny (model prog w) A (.call f ⟨pos, []⟩) (fun r s' => match r with | .ok (.ret v) => Q v s' | .ok _ => False | .error e => E e s') s) :
    wpAny (model prog w) A (callBorrowed f pos) Q E s := fun Γ p hΓ => by
  unfold callBorrowed
  rw [Sem.wp_call]
  refine wpCode_mono (fun r s' h => ?_) (hc _ p rfl (hΓ.enter _ none p (by intro x; cases x)))
  cases r with
  | error e => exact h
  | ok f => cases f with
    | ret v => exact h
    | next => exact h.elim
    | brk => exact h.elim
    | cont => exact h.elim
theorem borrows_meth {q fr : Addr} {self : Value} {ofr : Obj} {fd : FuncData} {Q : Bool → Shared → Prop} (hq : s.heap.get? q = some (methodObj (.ref fr) self)) (hf : s.heap.get? fr = some ofr) (hd : ofr.data = .func fd) (h : Q true s) :
    wpAny (model prog w) A (borrowsExactly (.ref q)) Q E s := by
  unfold borrowsExactly
  refine wpAny_bind (wpAny_load hq ?_)
  show wpAny _ _ (load fr >>= _) _ _ s
  refine wpAny_bind (wpAny_load hf ?_)
  rw [hd]
  exact wpAny_pure h
/-- what the called function gave the iterator -/
inductive CitGot (I q fr t0 : Nat) (self : Value) (ofr : Obj) (Q : Option Value → Shared → Prop) (r : Result) (s' : Shared) : Prop
  | mk (x : Str) (t : Tok) (hr : r = .ok (.ret (.str x t))) (hI : s'.heap.get? I = some (citObj q t0)) (hq : s'.heap.get? q = some (methodObj (.ref fr) self)) (hf : s'.heap.get? fr = some ofr)
    (h1 : x ≠ Str.ofString "" → Q (some (.str x t)) s') (h2 : x = Str.ofString "" → ∀ h', (∀ b o, b ≠ I → s'.heap.get? b = some o → h'.get? b = some o) → h'.get? I = some citEnd → Q none { s' with heap := h' }) : CitGot I q fr t0 self ofr Q r s'
theorem cit_next {I q fr t0 : Nat} {self : Value} {ofr : Obj} {fd : FuncData} {Q : Option Value → Shared → Prop} (hh : A.handled = none)
    (hI : s.heap.get? I = some (citObj q t0)) (hq : s.heap.get? q = some (methodObj (.ref fr) self)) (hf : s.heap.get? fr = some ofr) (hd : ofr.data = .func fd)
    (hc : codeAny (model prog w) A.in1 (.call (.ref fr) ⟨[self], []⟩) (CitGot I q fr t0 self ofr Q) s) :
    wpAny (model prog w) A (pyNext (.ref I)) Q E s := by
  have hT : s.TypeIs (.ref I) "callable_iterator" := ⟨_, hI, rfl⟩
  unfold pyNext
  refine wpAny_bind (wpAny_attempt (wpAny_callSpecial?_slot (name := Str.ofString "__next__") hT slot_cit_next
    (wpAny_call_entry slot_cit_next hT entry_cit_next ?_ (args_cit_next_1 _))))
  show wpAny _ _ (field (.ref I) 2 >>= _) _ _ s
  refine wpAny_bind (wpAny_field hI rfl (x := .bool false) rfl ?_)
  show wpAny _ _ (field (.ref I) 0 >>= _) _ _ s
  refine wpAny_bind (wpAny_field hI rfl (x := .ref q) rfl ?_)
  refine wpAny_bind (wpAny_attempt ?_)
  show wpAny _ _ (borrowsExactly (.ref q) >>= _) _ _ s
  refine wpAny_bind (borrows_meth hq hf hd ?_)
  show wpAny _ _ (callBorrowed (.ref q) []) _ _ s
  refine wpAny_callBorrowed (method_call hq (codeAny_mono hc fun r s' h => ?_))
  obtain ⟨x, t, rfl, hI', hq', hf', h1, h2⟩ := h
  show wpAny _ _ (field (.ref I) 2 >>= _) _ _ s'
  refine wpAny_bind (wpAny_field hI' rfl (x := .bool false) rfl ?_)
  show wpAny _ _ (field (.ref I) 1 >>= _) _ _ s'
  refine wpAny_bind (wpAny_field hI' rfl (x := .str (Str.ofString "") t0) rfl ?_)
  refine wpAny_bind (wpAny_holding (wpAny_eqBool_str ?_))
  by_cases hx : x = Str.ofString ""
  · subst hx
    rw [decide_eq_true rfl]
    show wpAny _ _ (rule _ >>= _) _ _ s'
    refine wpAny_bind (wpAny_rule ?_)
    show wpAny _ _ ((field (.ref I) 0 >>= fun old => slotLetsGo "callable_iterator.__next__" old _ >>= fun _ => setField (.ref I) 0 .none >>= fun _ => setField (.ref I) 1 .none >>= fun _ => setField (.ref I) 2 (.bool true)) >>= _) _ _ s'
    refine wpAny_bind (wpAny_bind (wpAny_field hI' rfl (x := .ref q) rfl ?_))
    refine wpAny_bind ?_
    unfold slotLetsGo
    show wpAny _ _ (borrowsExactly (.ref q) >>= _) _ _ s'
    refine wpAny_bind (borrows_meth hq' hf' hd ?_)
    show wpAny _ _ (pure ()) _ _ s'
    refine wpAny_pure ?_
    refine wpAny_bind (wpAny_setField_rec hI' (by simp) fun g1 k1 e1 => ?_)
    refine wpAny_bind (wpAny_setField_rec k1 (by simp) fun g2 k2 e2 => ?_)
    refine wpAny_setField_rec k2 (by simp) fun g3 k3 e3 => ?_
    show wpAny _ _ (newExc (.type "StopIteration") [] >>= _) _ _ _
    refine wpAny_bind ?_
    simp only [newExc, newTuple]
    refine wpAny_bind (wpAny_newObj_type ?_ (by size_fits))
    refine wpAny_bind (m := firstArgMember _ _) (wpAny_of_eq (a := Value.none) (by first | rfl | (simp only [firstArgMember]; rfl)) ?_)
    refine wpAny_newObj_type ?_ (by size_fits)
    simp only [raiseNew]
    refine wpAny_bind (wpAny_handled ?_)
    rw [show A.in1.handled = none from hh]
    refine wpAny_bind (wpAny_pure (wpAny_throw ?_))
    refine wpAny_bind (wpAny_isInstance (T := "StopIteration") (b := true) ⟨_, Heap.get?_push_size _ rfl, rfl⟩ isSubtype_stop ?_)
    refine wpAny_pure (h2 rfl _ (fun b o hb e => ?_) ?_)
    · exact Heap.get?_push_of_some _ (Heap.get?_push_of_some _ (e3.extBut b o hb (e2.extBut b o hb (e1.extBut b o hb e))))
    · exact Heap.get?_push_of_some _ (Heap.get?_push_of_some _ k3)
  · rw [decide_eq_false (fun e => hx e.symm)]
    show wpAny _ _ (ret (.str x t)) _ _ s'
    exact wpAny_pure ⟨_, rfl, wpAny_pure (h1 hx)⟩
theorem cit_next_end {I : Nat} {Q : Option Value → Shared → Prop} (hh : A.handled = none) (hI : s.heap.get? I = some citEnd)
    (h : ∀ h', (∀ b o, s.heap.get? b = some o → h'.get? b = some o) → Q none { s with heap := h' }) :
    wpAny (model prog w) A (pyNext (.ref I)) Q E s := by
  have hT : s.TypeIs (.ref I) "callable_iterator" := ⟨_, hI, rfl⟩
  unfold pyNext
  refine wpAny_bind (wpAny_attempt (wpAny_callSpecial?_slot (name := Str.ofString "__next__") hT slot_cit_next
    (wpAny_call_entry slot_cit_next hT entry_cit_next ?_ (args_cit_next_1 _))))
  show wpAny _ _ (field (.ref I) 2 >>= _) _ _ s
  refine wpAny_bind (wpAny_field hI rfl (x := .bool true) rfl ?_)
  show wpAny _ _ (rule _ >>= _) _ _ s
  refine wpAny_bind (wpAny_rule ?_)
  refine wpAny_bind ?_
  show wpAny _ _ (newExc (.type "StopIteration") [] >>= _) _ _ _
  refine wpAny_bind ?_
  simp only [newExc, newTuple]
  refine wpAny_bind (wpAny_newObj_type ?_ (by size_fits))
  refine wpAny_bind (m := firstArgMember _ _) (wpAny_of_eq (a := Value.none) (by first | rfl | (simp only [firstArgMember]; rfl)) ?_)
  refine wpAny_newObj_type ?_ (by size_fits)
  simp only [raiseNew]
  refine wpAny_bind (wpAny_handled ?_)
  rw [show A.in1.handled = none from hh]
  refine wpAny_bind (wpAny_pure (wpAny_throw ?_))
  refine wpAny_bind (wpAny_isInstance (T := "StopIteration") (b := true) ⟨_, Heap.get?_push_size _ rfl, rfl⟩ isSubtype_stop ?_)
  exact wpAny_pure (h _ fun b o e => Heap.get?_push_of_some _ (Heap.get?_push_of_some _ e))
end
end
section
theorem calm_PCompU : True ∧ True := by
  w_top off
  k_with_none
  first
    | (walk1; fail)
    | exact ⟨trivial, trivial⟩
section
variable {prog : Program} {w : World} {A : Around} {E : Value → Shared → Prop} {s : Shared} {h₀ : Heap} {L : Addr} {m : Str → Option Value} {env : Env}
theorem striter_st {ty : String} {y : Str} {t : Tok} {I : Addr} : ∀ i (h h' : Heap) (o : Obj) (nw : List (Addr × Obj)), h.IsStrIter I ty y t i → h.get? I = some o → h'.get? I = some o → (∀ b o, h₀.get? b = some o → h'.get? b = some o) → News h₀ L h' nw → True → h'.IsStrIter I ty y t i :=
  fun i h h' o nw st e e' _ _ _ => by
    obtain ⟨o', q, r⟩ := st
    rw [e] at q; cases q
    exact ⟨o, e', r⟩
/-- a comprehension over the signs of a text, its element free to use the names of the frame -/
theorem ListComp_S {elt iter : PySem.Expr} {x : Str} {px : Pos} {scope : Scope} {cl : List (Str × Addr)} {pos : Pos} {Q : Value → Shared → Prop} {news : List (Addr × Obj)} {y : Str} {t : Tok} (hh : A.handled = none) (F : Fr h₀ L s.heap m) (N : News h₀ L s.heap news)
    (hclos : closureFor scope env = pure cl) (hcell : ∀ y ∈ scope.names, y.2 ≠ .cell) (hkind : scope.kind = .function)
    (hnames : ∀ y ∈ scope.names, y.2 = .local → scope.names.lookup y.1 = some .local) (hx : scope.names.lookup x = some .local) (hsz : y.length ≤ sizeLine)
    (hv : ∀ Q' : Value → Shared → Prop, Q' (.str y t) s → wpAny (model prog w) A (eval iter env) Q' E s)
    (h : ∀ g, LCg.CompRest prog w A h₀ L m env elt x scope cl { s with heap := g } (fun _ => True) (SignAt y) (fun ys news' => LCg.FinE h₀ L m { s with heap := g } Q ys news') y.cps.size 0 [] news)
    (hs : ∀ x, foldedSetIterable iter env x = pure x := by intro _; rfl) :
    wpAny (model prog w) A (eval (.ListComp elt [⟨.Name x px, iter, [], 0⟩] scope pos) env) Q E s := by
  rw [eval_ListComp]
  refine wpAny_comprehension_free (use := none) rfl hs hclos hkind hnames (hv _ ?_)
  cases ha : y.cps.all (· < 128)
  · refine wpAny_pyIter_wide ha ?_
    refine LCg.block_U (Walks.strWide hh _ y t) hsz (fun i h st => by obtain ⟨o, e, _⟩ := st; exact ⟨o, e⟩) striter_st hcell hkind hx ⟨_, Heap.get?_push_size _ rfl, rfl, rfl⟩ (fun b hb => ?_)
      (F.keeps fun _ _ e => Heap.get?_push_of_some _ e) (N.grown fun _ _ e => Heap.get?_push_of_some _ e) (Nat.ne_of_lt F.ns.lt) (next_is_new F) (fun p hp => Nat.ne_of_lt (Heap.lt_size (N p hp).1)) trivial (h _) ?_
    · rw [List.mem_singleton.mp hb]
      show s.heap.objs.size < (s.heap.push _).objs.size
      rw [Heap.size_push]; exact Nat.lt_succ_self _
    · intro D C h tk m' ys news' F' N' o1 hn hC₀ hD₀ hCL hDL hCD offC fin
      refine ⟨m', hn, fun h'' hs'' => fin D h'' tk (F'.change hs'' hCL hC₀) (fun p hp => ?_) o1⟩
      refine ⟨hs''.extBut _ _ ?_ (N' p hp).1, (N' p hp).2⟩
      rcases List.mem_cons.mp hp with rfl | hp
      · exact Ne.symm hCD
      · exact offC p hp
  · refine wpAny_pyIter_ascii ha ?_
    refine LCg.block_U (Walks.strAscii hh _ y t) hsz (fun i h st => by obtain ⟨o, e, _⟩ := st; exact ⟨o, e⟩) striter_st hcell hkind hx ⟨_, Heap.get?_push_size _ rfl, rfl, rfl⟩ (fun b hb => ?_)
      (F.keeps fun _ _ e => Heap.get?_push_of_some _ e) (N.grown fun _ _ e => Heap.get?_push_of_some _ e) (Nat.ne_of_lt F.ns.lt) (next_is_new F) (fun p hp => Nat.ne_of_lt (Heap.lt_size (N p hp).1)) trivial (h _) ?_
    · rw [List.mem_singleton.mp hb]
      show s.heap.objs.size < (s.heap.push _).objs.size
      rw [Heap.size_push]; exact Nat.lt_succ_self _
    · intro D C h tk m' ys news' F' N' o1 hn hC₀ hD₀ hCL hDL hCD offC fin
      refine ⟨m', hn, fun h'' hs'' => fin D h'' tk (F'.change hs'' hCL hC₀) (fun p hp => ?_) o1⟩
      refine ⟨hs''.extBut _ _ ?_ (N' p hp).1, (N' p hp).2⟩
      rcases List.mem_cons.mp hp with rfl | hp
      · exact Ne.symm hCD
      · exact offC p hp
variable {elt : PySem.Expr} {x : Str} {scope : Scope} {cl : List (Str × Addr)} {S : List (Addr × Obj) → Prop} {Fin : List Value → List (Addr × Obj) → Prop} {news : List (Addr × Obj)}
/-- each sign gives a text: a list of texts -/
theorem csg_rest {y : Str} (f : Nat → Str)
    (turn : ∀ c t I oI C oC D m₂ ys h tk (E' : Value → Shared → Prop), c ∈ cs y → LCg.NsObj oC m₂ → m₂ x = some (.str ⟨#[c]⟩ t) → Fr h₀ L h m → News h₀ L h ((I, oI) :: (C, oC) :: (D, LCg.lst ys) :: news) → LCg.Off3 I C D news → ((@Ne Nat I C) ∧ (@Ne Nat I D) ∧ (@Ne Nat C D)) → KPfMark →
      wpAny (model prog w) A (eval elt (compEnvC scope cl C env)) (LCg.CompEnd h₀ L m { s with heap := h, toks := tk } I oI C oC D (LCg.lst ys) S (fun v news' => KCtEl news (f c) v news')) E' { s with heap := h, toks := tk })
    (fin : ∀ ys, StrsAre ys ((cs y).map f) → Fin ys news) : LCg.CompRest prog w A h₀ L m env elt x scope cl s S (SignAt y) Fin y.cps.size 0 [] news := by
  have hn : (cs y).length = y.cps.size := by simp [cs]
  have key : ∀ (j i : Nat) (ys : List Value), i + j = y.cps.size → StrsAre ys (((cs y).take i).map f) → LCg.CompRest prog w A h₀ L m env elt x scope cl s S (SignAt y) Fin j i ys news := by
    intro j
    induction j with
    | zero =>
      intro i ys hi hy
      rw [List.take_of_length_le (by omega)] at hy
      exact LCg.CompRest.zero (fin ys hy)
    | succ j ih =>
      intro i ys hi hy
      refine LCg.CompRest.succ ?_
      intro v I oI C oC D m₂ h tk E' hv hC hx F N off ne
      obtain ⟨c, t, hc, hv'⟩ := hv
      have hk : (cs y)[i]? = some c := by rw [cs, Array.getElem?_toList]; exact hc
      rw [hv'] at hx
      refine wpAny_mono (turn c t I oI C oC D m₂ ys h tk E' (List.mem_of_getElem? hk) hC hx F N off ne True.intro) (fun v s₂ hq => ?_) fun _ _ e => e
      obtain ⟨h', tk', nw, e, F', N', off', hS, hn, t', hy'⟩ := hq
      rw [hn] at N' off' hS
      refine ⟨h', tk', news, e, F', N', off', hS, ?_⟩
      rw [hy']
      refine ih (i + 1) _ (by omega) ?_
      rw [List.take_add_one, hk]
      simpa using kct_snoc hy
  exact key _ 0 [] (by omega) (by simp only [List.take_zero, List.map_nil]; exact .nil)
end
end
section
theorem calm_PCen : True ∧ True := by
  w_top off
  k_with_none
  first
    | (walk1; fail)
    | exact ⟨trivial, trivial⟩
open PySem.Calls PyProof.V PySem.Spec PyProof.Rows.LCg
section
variable {prog : Program} {w : World} {A : Around} {E : Value → Shared → Prop} {s : Shared} {h₀ : Heap} {L : Addr} {m : Str → Option Value} {env : Env}
/-- an element's end: an int with G, the ledger as it stood -/
inductive EnumEnd (h₀ : Heap) (L : Addr) (m : Str → Option Value) (s : Shared) (led : List (Addr × Obj)) (G : Int → Prop) (v : Value) (s₃ : Shared) : Prop
  | mk (k : Int) (t' : Tok) (h' : Heap) (tk' : Nat) (hv : v = .int k t') (hG : G k) (hs : s₃ = { s with heap := h', toks := tk' }) (F : Fr h₀ L h' m) (N : News h₀ L h' led) : EnumEnd h₀ L m s led G v s₃
inductive KceI (h₀ : Heap) (L : Addr) (m : Str → Option Value) (s₂ : Shared) (its : Array Value) (news : List (Addr × Obj)) (e it l D C : Addr) (G : Int → Prop) (k : Nat) (s' : Shared) : Prop
  | mk (h' : Heap) (tk : Tok) (i : Nat) (ys : List Value) (ns : List Int) (m' : Str → Option Value) (es : s' = { s₂ with heap := h', toks := tk }) (hi : i ≤ its.size) (hk : k = its.size + 1 - i) (hy : ys.length = i) (he : ∃ old, IsEnum h' e it (i : Int) old) (hit : h'.IsListIter it l i) (F : Fr h₀ L h' m) (hn : h'.Ns C m')
    (N : News h₀ L h' ((D, lst ys) :: news)) (hI : IntsAre ys ns) (hG : ∀ k ∈ ns, G k) : KceI h₀ L m s₂ its news e it l D C G k s'
theorem kce_block {elt iter : PySem.Expr} {a b : Str} {pa pb tp : Pos} {kk : Nat} {scope : Scope} {cl : List (Str × Addr)} {pos : Pos} {s₂ : Shared} {e it l : Addr} {its : Array Value} {nl : Nat} {news : List (Addr × Obj)} (G : Int → Prop)
    {RR : Value → Addr → Result → Shared → Prop}
    (hh : A.handled = none) (hei : e ≠ it) (hle : l ≠ e) (hli : l ≠ it) (hsz : its.size ≤ sizeLine) (he : IsEnum s₂.heap e it 0 .none) (hit : s₂.heap.IsListIter it l 0) (hm : (l, ({ cls := .type "list", data := .seq its nl } : Obj)) ∈ news)
    (hcell : ∀ y ∈ scope.names, y.2 ≠ .cell) (hkind : scope.kind = .function) (hxa : scope.names.lookup a = some .local) (hxb : scope.names.lookup b = some .local) (hab : ¬ a = b)
    (F : Fr h₀ L s₂.heap m) (N : News h₀ L s₂.heap news) (hIL : L ≠ e) (hI₀ : h₀.get? e = none) (hTL : L ≠ it) (hT₀ : h₀.get? it = none) (off : ∀ p ∈ news, p.1 ≠ e ∧ p.1 ≠ it)
    (turn : ∀ (i : Nat) x t I oI T oT C oC D m₂ ys h tk (E' : Value → Shared → Prop), its[i]? = some x → NsObj oC m₂ → m₂ a = some (.int i t) → m₂ b = some x → Fr h₀ L h m → News h₀ L h ((I, oI) :: (T, oT) :: (C, oC) :: (D, lst ys) :: news) → (∀ p ∈ news, p.1 ≠ I ∧ p.1 ≠ T ∧ p.1 ≠ C ∧ p.1 ≠ D) → ((@Ne Nat I T) ∧ (@Ne Nat I C) ∧ (@Ne Nat I D) ∧ (@Ne Nat T C) ∧ (@Ne Nat T D) ∧ (@Ne Nat C D)) →
      wpAny (model prog w) A (eval elt (compEnvC scope cl C env)) (EnumEnd h₀ L m s₂ ((I, oI) :: (T, oT) :: (C, oC) :: (D, lst ys) :: news) G) E' { s₂ with heap := h, toks := tk })
    (hRR : ∀ D C h tk m' ys ns, Fr h₀ L h m → News h₀ L h ((D, lst ys) :: news) → (∀ p ∈ news, @LT.lt Nat _ p.1 D) → h.Ns C m' → h₀.get? C = none → h₀.get? D = none → C ≠ L → D ≠ L → C ≠ D → (∀ p ∈ news, p.1 ≠ C) → IntsAre ys ns → ns.length = its.size → (∀ k ∈ ns, G k) → RR (.ref D) C (.ok .next) { s₂ with heap := h, toks := tk }) :
    wpAny (model prog w) A (newList []) (fun acc s₃ => wpAny (model prog w) A (newFunctionEnv scope env.globals cl [] env.qual none .none (some env)) (fun cenv s₄ =>
      codeAny (model prog w) A (.compStart (.ListComp elt [⟨.Tuple [.Name a pa, .Name b pb] kk tp, iter, [], 0⟩] scope pos) 0 (.ref e) acc { cenv with scope := relabel scope env }) (RR acc cenv.locals) s₄) E s₃) E s₂ := by
  refine wpAny_newObj_type (wpAny_newFunctionEnv hcell (by intro y hy; simp at hy) (fun h₁ hns₁ hsb₁ => ?_) hkind)
  dsimp only at hns₁ hsb₁ ⊢
  generalize hH2 : s₂.heap.push { cls := .type "list", dict := none, data := .seq ([] : List Value).toArray } = H2 at hns₁ hsb₁ ⊢
  have hC : H2.objs.size = s₂.heap.objs.size + 1 := by rw [← hH2, Heap.size_push]
  have hDC : s₂.heap.objs.size ≠ H2.objs.size := by rw [hC]; exact Nat.ne_of_lt (Nat.lt_succ_self _)
  have below : ∀ b, b < s₂.heap.objs.size → b ≠ H2.objs.size ∧ b ≠ s₂.heap.objs.size := fun b hb => ⟨by rw [hC]; exact Nat.ne_of_lt (Nat.lt_succ_of_lt hb), Nat.ne_of_lt hb⟩
  have hIlt : e < s₂.heap.objs.size := Heap.lt_size he
  have hTlt : it < s₂.heap.objs.size := by obtain ⟨_, x, _⟩ := hit; exact Heap.lt_size x
  have old : ∀ b o, s₂.heap.get? b = some o → h₁.get? b = some o := fun b o e => hsb₁.extBut b o (below b (Heap.lt_size e)).1 (Heap.get?_push_of_some _ (hH2 ▸ Heap.get?_push_of_some _ e))
  have hacc : h₁.get? s₂.heap.objs.size = some (lst []) := hsb₁.extBut _ _ hDC (Heap.get?_push_of_some _ (hH2 ▸ Heap.get?_push_size _ rfl))
  have he₁ : IsEnum h₁ e it 0 .none := old _ _ he
  have hit₁ : h₁.IsListIter it l 0 := hit.at fun o x => old it o x
  have fresh : ∀ a, s₂.heap.objs.size ≤ a → s₂.heap.get? a = none := fun a ha => by
    cases e : s₂.heap.get? a with
    | none => rfl
    | some o' => exact absurd (Heap.lt_size e) (Nat.not_lt.mpr ha)
  have fresh₀ : ∀ a, s₂.heap.objs.size ≤ a → h₀.get? a = none := fun a ha => by
    cases e : h₀.get? a with
    | none => rfl
    | some o' => have := F.keep a o' e; rw [fresh a ha] at this; cases this
  have hD₀ : h₀.get? s₂.heap.objs.size = none := fresh₀ _ (Nat.le_refl _)
  have hC₀ : h₀.get? H2.objs.size = none := fresh₀ _ (by rw [hC]; exact Nat.le_succ _)
  have hLlt : L < s₂.heap.objs.size := F.ns.lt
  have hDL : s₂.heap.objs.size ≠ L := Ne.symm (below L hLlt).2
  have hCL : H2.objs.size ≠ L := Ne.symm (below L hLlt).1
  have hCI : e ≠ H2.objs.size := (below e hIlt).1
  have hDI : e ≠ s₂.heap.objs.size := (below e hIlt).2
  have hCT : it ≠ H2.objs.size := (below it hTlt).1
  have hDT : it ≠ s₂.heap.objs.size := (below it hTlt).2
  have off₀ : ∀ p ∈ news, p.1 ≠ e ∧ p.1 ≠ it ∧ p.1 ≠ H2.objs.size ∧ p.1 ≠ s₂.heap.objs.size := fun p hp => ⟨(off p hp).1, (off p hp).2, (below _ (Heap.lt_size (N p hp).1)).1, (below _ (Heap.lt_size (N p hp).1)).2⟩
  have off1 : ∀ p ∈ news, @LT.lt Nat _ p.1 s₂.heap.objs.size := fun p hp => Heap.lt_size (N p hp).1
  have W := WalksT.enumerate (prog := prog) (w := w) (A := A) hh e it l hei hle hli its
  have loop : ∀ s₃ : Shared, s₃ = { s₂ with heap := h₁, toks := s₂.toks + ([] : List (Str × Value)).length } →
      codeAny (model prog w) A (.compLoop (.ListComp elt [⟨.Tuple [.Name a pa, .Name b pb] kk tp, iter, [], 0⟩] scope pos) 0 (.ref e) (.ref s₂.heap.objs.size) (compEnvC scope cl H2.objs.size env))
        (RR (.ref s₂.heap.objs.size) H2.objs.size) s₃ := by
    rintro s₃ rfl
    refine kcp_loop
      (KceI h₀ L m s₂ its news e it l s₂.heap.objs.size H2.objs.size G) ?_ (its.size + 1)
      ⟨h₁, _, 0, [], [], _, rfl, Nat.zero_le _, rfl, rfl, ⟨_, he₁⟩, hit₁, F.keeps old, hns₁, fun p hp => ?_, .nil, fun k hk => nomatch hk⟩
    · rintro k s' ⟨h', tk, i, ys, ns, m', rfl, hi, rfl, hyl, ⟨ov, he'⟩, hit', F', hn', N', hI', hG'⟩
      have hl' : h'.IsList l its := ⟨_, (N' _ (.tail _ hm)).1, rfl, nl, rfl⟩
      by_cases hlt : i < its.size
      · refine W.item i _ _ _ hlt ⟨⟨_, he'⟩, hit', hl'⟩ fun T vals h₂ tk₂ hP hTsz hT hMd hk₂ => ?_
        obtain ⟨t, x, hx, rfl⟩ := hP
        have hTap := W.apart i T _ hMd
        refine W.go _ kk tp i T _ _ _ hMd fun h₃ hst₃ hk₃ => ?_
        have hT₃ : h₃.IsTuple T #[.int i t, x] := by
          obtain ⟨o, eo, c1, c2⟩ := hT
          exact ⟨o, hk₃ T o hTap eo, c1, c2⟩
        have up₃ : ∀ c o, c ≠ e → c ≠ it → h'.get? c = some o → h₃.get? c = some o := fun c o hc hc2 q => hk₃ c o (by simp [hc, hc2]) (hk₂ c o (by simp [hc, hc2]) q)
        refine kcp_assign (env := compEnvC scope cl H2.objs.size env) hh hT₃ (lookup_relabel_local hxa) (lookup_relabel_local hxb) (by simp [compEnvC, relabel, hkind]) (hn'.at' fun o q => up₃ _ o (Ne.symm hCI) (Ne.symm hCT) q) fun h₄ tk₄ hn₄ hs₄ => ?_
        have up : ∀ c o, c ≠ e → c ≠ it → c ≠ H2.objs.size → h'.get? c = some o → h₄.get? c = some o := fun c o h1 h2 h3 q => hs₄ c o h3 (up₃ c o h1 h2 q)
        obtain ⟨⟨ov', hI₃⟩, hIt₃, _⟩ := hst₃
        have hI₄ : IsEnum h₄ e it ((i + 1 : Nat) : Int) ov' := hs₄ e _ hCI hI₃
        have hIt₄ : h₄.IsListIter it l (i + 1) := hIt₃.at fun o q => hs₄ it o hCT q
        obtain ⟨oI, heI, hoI⟩ : ∃ oI : Obj, h₄.get? e = some oI ∧ ∀ h : Heap, h.get? e = some oI → ∃ old, IsEnum h e it ((i + 1 : Nat) : Int) old := ⟨_, hI₄, fun _ q => ⟨_, q⟩⟩
        obtain ⟨oT, heT, hoT⟩ : ∃ oT : Obj, h₄.get? it = some oT ∧ ∀ h : Heap, h.get? it = some oT → h.IsListIter it l (i + 1) := by
          obtain ⟨o, q, c⟩ := hIt₄
          exact ⟨o, q, fun _ q' => ⟨o, q', c⟩⟩
        obtain ⟨oC, heC, hoC⟩ := ns_obj hn₄
        have F₄ : Fr h₀ L h₄ m := ⟨F'.ns.at' fun o q => up _ o hIL hTL (Ne.symm hCL) q, fun c o q => up c o (fun z => by rw [z, hI₀] at q; cases q) (fun z => by rw [z, hT₀] at q; cases q) (fun z => by rw [z, hC₀] at q; cases q) (F'.keep c o q), F'.above⟩
        have N₄ : News h₀ L h₄ ((e, oI) :: (it, oT) :: (H2.objs.size, oC) :: (s₂.heap.objs.size, lst ys) :: news) := fun q hq => by
          rcases List.mem_cons.mp hq with rfl | hq
          · exact ⟨heI, Ne.symm hIL, hI₀⟩
          rcases List.mem_cons.mp hq with rfl | hq
          · exact ⟨heT, Ne.symm hTL, hT₀⟩
          rcases List.mem_cons.mp hq with rfl | hq
          · exact ⟨heC, hCL, hC₀⟩
          have z := N' q hq
          rcases List.mem_cons.mp hq with rfl | hq
          · exact ⟨up _ _ (Ne.symm hDI) (Ne.symm hDT) hDC z.1, z.2⟩
          · exact ⟨up _ _ (off₀ q hq).1 (off₀ q hq).2.1 (off₀ q hq).2.2.1 z.1, z.2⟩
        refine wpAny_mono (turn i x t e oI it oT H2.objs.size oC s₂.heap.objs.size _ ys h₄ _ _ hx hoC (by simp [hab]) (by simp) F₄ N₄ off₀ ⟨hei, hCI, hDI, hCT, hDT, Ne.symm hDC⟩) (fun y s₅ h₅ => ?_) fun _ _ q => q
        obtain ⟨kv, t', h₅, tk₅, rfl, hGk, rfl, F₅, N₅⟩ := h₅
        have zI := (N₅ (e, oI) (by simp)).1
        have zT := (N₅ (it, oT) (by simp)).1
        have zC := (N₅ (H2.objs.size, oC) (by simp)).1
        have zD := (N₅ (s₂.heap.objs.size, lst ys) (by simp)).1
        have N₅' : News h₀ L h₅ news := fun q hq => N₅ q (.tail _ (.tail _ (.tail _ (.tail _ hq))))
        refine append_at (hsz := by show ys.toArray.size ≤ sizeLine; rw [List.size_toArray, hyl]; exact Nat.le_trans hi hsz) zD fun h₆ hs₆ hD₆ => ?_
        refine ⟨its.size + 1 - (i + 1), by omega, h₆, tk₅, i + 1, ys ++ [.int kv t'], ns ++ [kv], _, rfl, hlt, rfl, by rw [List.length_append, List.length_singleton, hyl], hoI h₆ (hs₆.extBut e oI hDI zI), hoT h₆ (hs₆.extBut it oT hDT zT), F₅.change hs₆ hDL hD₀,
          (hoC.ns zC).sameBut hs₆ (Ne.symm hDC), fun q hq => ?_, hI'.append (.cons _ _ .nil), fun k hk => ?_⟩
        · rcases List.mem_cons.mp hq with rfl | hq
          · exact ⟨hD₆.trans (congrArg some (lst_snoc ys _)), hDL, hD₀⟩
          · exact ⟨hs₆.extBut _ _ (off₀ q hq).2.2.2 (N₅' q hq).1, (N₅' q hq).2⟩
        · rcases List.mem_append.mp hk with hk | hk
          · exact hG' k hk
          · rw [List.mem_singleton.mp hk]; exact hGk
      · have hin : i = its.size := Nat.le_antisymm hi (Nat.not_lt.mp hlt)
        subst hin
        refine W.done _ _ _ ⟨⟨_, he'⟩, hit', hl'⟩ fun h₂ tk₂ hk₂ => ?_
        have up₂ : ∀ c o, c ≠ e → c ≠ it → h'.get? c = some o → h₂.get? c = some o := fun c o hc hc2 q => hk₂ c o (by simp [hc, hc2]) q
        refine hRR _ _ h₂ tk₂ _ ys ns ⟨F'.ns.at' fun o q => up₂ _ o hIL hTL q, fun c o q => up₂ c o (fun z => by rw [z, hI₀] at q; cases q) (fun z => by rw [z, hT₀] at q; cases q) (F'.keep c o q), F'.above⟩ (fun q hq => ?_) off1 (hn'.at' fun o q => up₂ _ o (Ne.symm hCI) (Ne.symm hCT) q) hC₀ hD₀ hCL hDL (Ne.symm hDC) (fun p hp => (off₀ p hp).2.2.1) hI' (by rw [← hI'.length]; exact hyl) hG'
        have z := N' q hq
        rcases List.mem_cons.mp hq with rfl | hq
        · exact ⟨up₂ _ _ (Ne.symm hDI) (Ne.symm hDT) z.1, z.2⟩
        · exact ⟨up₂ _ _ (off₀ q hq).1 (off₀ q hq).2.1 z.1, z.2⟩
    · rcases List.mem_cons.mp hp with rfl | hp
      · exact ⟨hacc, hDL, hD₀⟩
      · exact ⟨old _ _ (N p hp).1, (N p hp).2⟩
  exact codeAny_compStart_list (loop _ rfl) (wpAny_pyIter_enum he₁ (loop _ rfl))
noncomputable def FinL (h₀ : Heap) (L : Addr) (m : Str → Option Value) (s : Shared) (y : Str) (Q : Flow → Shared → Prop) (ys : List Value) (news : List (Addr × Obj)) : Prop :=
  ∀ D h tk, Fr h₀ L h (fun z => if z = y then some (.ref D) else m z) → News h₀ L h ((D, lst ys) :: news) → (∀ p ∈ news, @LT.lt Nat _ p.1 D) → Q .next { s with heap := h, toks := tk }
theorem EnumEnd.heap {h₀ h' : Heap} {L : Addr} {m : Str → Option Value} {s : Shared} {led : List (Addr × Obj)} {G : Int → Prop} {v : Value} {s₃ : Shared} (h : EnumEnd h₀ L m s led G v s₃) : EnumEnd h₀ L m { s with heap := h' } led G v s₃ := by
  obtain ⟨k, t', h', tk', a, b, c, d, e⟩ := h
  exact ⟨k, t', h', tk', a, b, c, d, e⟩
theorem EnumEnd.intro {h₀ h' : Heap} {L : Addr} {m : Str → Option Value} {s : Shared} {led nw : List (Addr × Obj)} {G : Int → Prop} {k : Int} {t' : Tok} {tk' : Nat} (F : Fr h₀ L h' m) (N : News h₀ L h' nw) (sub : ∀ q ∈ led, q ∈ nw) (g : G k) :
    EnumEnd h₀ L m s led G (.int k t') { s with heap := h', toks := tk' } := ⟨k, t', h', tk', rfl, g, rfl, F, fun q hq => N q (sub q hq)⟩
inductive EnumSrc (prog : Program) (w : World) (A : Around) (h₀ : Heap) (L : Addr) (m : Str → Option Value) (env : Env) (elt : PySem.Expr) (a b : Str) (scope : Scope) (cl : List (Str × Addr)) (G : Int → Prop) (Fin : Shared → List Value → List (Addr × Obj) → Prop) (xv : Value) (s₁ : Shared) : Prop
  | mk (e it l : Addr) (its : Array Value) (nl : Nat) (news : List (Addr × Obj)) (hx : xv = .ref e) (F : Fr h₀ L s₁.heap m) (N : News h₀ L s₁.heap news) (hm : (l, ({ cls := .type "list", data := .seq its nl } : Obj)) ∈ news) (hei : e ≠ it) (hle : l ≠ e) (hli : l ≠ it) (hsz : its.size ≤ sizeLine) (he : IsEnum s₁.heap e it 0 .none) (hit : s₁.heap.IsListIter it l 0)
    (hLe : L ≠ e) (he0 : h₀.get? e = none) (hLt : L ≠ it) (ht0 : h₀.get? it = none) (off : ∀ p ∈ news, p.1 ≠ e ∧ p.1 ≠ it)
    (turn : ∀ (i : Nat) x t I oI T oT C oC D m₂ ys h tk (E' : Value → Shared → Prop), its[i]? = some x → NsObj oC m₂ → m₂ a = some (.int i t) → m₂ b = some x → Fr h₀ L h m → News h₀ L h ((I, oI) :: (T, oT) :: (C, oC) :: (D, lst ys) :: news) → (∀ p ∈ news, p.1 ≠ I ∧ p.1 ≠ T ∧ p.1 ≠ C ∧ p.1 ≠ D) → ((@Ne Nat I T) ∧ (@Ne Nat I C) ∧ (@Ne Nat I D) ∧ (@Ne Nat T C) ∧ (@Ne Nat T D) ∧ (@Ne Nat C D)) →
      wpAny (model prog w) A (eval elt (compEnvC scope cl C env)) (EnumEnd h₀ L m s₁ ((I, oI) :: (T, oT) :: (C, oC) :: (D, lst ys) :: news) G) E' { s₁ with heap := h, toks := tk })
    (fin : ∀ ys ns, IntsAre ys ns → ns.length = its.size → (∀ k ∈ ns, G k) → Fin s₁ ys news) : EnumSrc prog w A h₀ L m env elt a b scope cl G Fin xv s₁
theorem assign_enum {elt iter : PySem.Expr} {a b y : Str} {pa pb tp py : Pos} {kk : Nat} {scope : Scope} {cl : List (Str × Addr)} {pos spos : Pos} {Q : Flow → Shared → Prop} (G : Int → Prop) (F₀ : Fr h₀ L s.heap m) (hLe : env.locals = L) (hh : A.handled = none)
    (hsw : swapsWith (.ListComp elt [⟨.Tuple [.Name a pa, .Name b pb] kk tp, iter, [], 0⟩] scope pos) (some (.Name y py)) spos.line env = pure true)
    (hclos : closureFor scope env = pure cl) (hcell : ∀ y ∈ scope.names, y.2 ≠ .cell) (hkind : scope.kind = .function)
    (hnames : ∀ y ∈ scope.names, y.2 = .local → scope.names.lookup y.1 = some .local) (hxa : scope.names.lookup a = some .local) (hxb : scope.names.lookup b = some .local) (hab : ¬ a = b)
    (hy : env.kindOf y = some .local) (hp : (env.scope.kind == .class || (env.scope.kind == .module && env.locals != env.globals)) = false)
    (h : wpAny (model prog w) A (eval iter env) (EnumSrc prog w A h₀ L m env elt a b scope cl G (fun s₂ => FinL h₀ L m s₂ y Q)) E s)
    (hs : ∀ x, foldedSetIterable iter env x = pure x := by intro _; rfl) :
    wpAny (model prog w) A (exec (.Assign [.Name y py] (.ListComp elt [⟨.Tuple [.Name a pa, .Name b pb] kk tp, iter, [], 0⟩] scope pos) spos) env) Q E s := by
  subst hLe
  rw [exec_Assign_Name_used _ _ _ _ hsw]
  refine wpAny_bind (wpAny_standAt (wpAny_bind ?_))
  show wpAny _ A (do let _ ← comprehension (.ListComp elt [⟨.Tuple [.Name a pa, .Name b pb] kk tp, iter, [], 0⟩] scope pos) scope env _ (newList []) false (eval iter env) (some (assign (.Name y py) env))) _ _ s
  refine wpAny_bind (wpAny_mono (wpAny_comprehension_free (use := some (assign (.Name y py) env)) (Q := fun _ s' => Q .next s') rfl hs hclos hkind hnames
    (wpAny_mono h (fun xv s₁ h₁ => ?_) fun _ _ e => e)) (fun _ s' hq => wpAny_pure (wpAny_pure hq)) fun _ _ e => e)
  obtain ⟨e, it, l, its, nl, news, rfl, F, N, hm, hei, hle, hli, hsz, he, hit, hLe, he0, hLt, ht0, off, turn, fin⟩ := h₁
  refine wpAny_pyIter_enum he ?_
  refine kce_block G hh hei hle hli hsz he hit hm hcell hkind hxa hxb hab F N hLe he0 hLt ht0 off turn ?_
  intro D C h' tk m' ys ns F' N' o1 hn hC₀ hD₀ hCL hDL hCD offC hI hlen hG
  show wpAny _ A (assign (.Name y py) env (.ref D)) _ _ _
  refine wpAny_assign_Name (wpAny_storeName_local hy F'.ns (fun h₂ hn₂ hs₂ => ?_) hp)
  have hL₀ : h₀.get? env.locals = none := Heap.get?_none_of_le F'.above
  have F₂ : Fr h₀ env.locals h₂ (fun z => if z = y then some (.ref D) else m z) := ⟨hn₂, fun b o e => hs₂.extBut b o (fun q => by rw [q, hL₀] at e; cases e) (F'.keep b o e), F'.above⟩
  refine ⟨m', hn.sameBut hs₂ hCL, fun h'' hs'' => fin ys ns hI hlen hG D h'' _ (F₂.change hs'' hCL hC₀) (fun p hp => ?_) o1⟩
  have z : h₂.get? p.1 = some p.2 := hs₂.extBut _ _ (N' p hp).2.1 (N' p hp).1
  refine ⟨hs''.extBut _ _ ?_ z, (N' p hp).2⟩
  rcases List.mem_cons.mp hp with rfl | hp
  · exact Ne.symm hCD
  · exact offC p hp
theorem ints7 {ys : List Value} {ns : List Int} (h : IntsAre ys ns) (hn : ns.length = 7) : ∃ a0 a1 a2 a3 a4 a5 a6 t0 t1 t2 t3 t4 t5 t6, ns = [a0, a1, a2, a3, a4, a5, a6] ∧ ys = [Value.int a0 t0, .int a1 t1, .int a2 t2, .int a3 t3, .int a4 t4, .int a5 t5, .int a6 t6] := by
  cases h with
  | nil => cases hn
  | cons a0 t0 h =>
  cases h with
  | nil => cases hn
  | cons a1 t1 h =>
  cases h with
  | nil => cases hn
  | cons a2 t2 h =>
  cases h with
  | nil => cases hn
  | cons a3 t3 h =>
  cases h with
  | nil => cases hn
  | cons a4 t4 h =>
  cases h with
  | nil => cases hn
  | cons a5 t5 h =>
  cases h with
  | nil => cases hn
  | cons a6 t6 h =>
  cases h with
  | cons a7 t7 h => simp at hn
  | nil => exact ⟨a0, a1, a2, a3, a4, a5, a6, t0, t1, t2, t3, t4, t5, t6, rfl, rfl⟩
/-- the call of enumerate, upon a list of small ints -/
theorem enum_src {elt : PySem.Expr} {a b y : Str} {scope : Scope} {cl : List (Str × Addr)} {Q : Flow → Shared → Prop} {G : Int → Prop} {l : Addr} {its : List Value} {nl : Nat} {cs' : List Int} {news : List (Addr × Obj)} (F : Fr h₀ L s.heap m) (N : News h₀ L s.heap news)
    (hm : (l, listOf its.toArray nl) ∈ news) (hi : IntsAre its cs') (hc : ∀ c ∈ cs', 0 ≤ c ∧ c ≤ 1000) (turn : ∀ (i : Nat) c t u I oI T oT C oC D m₂ ys h tk (E' : Value → Shared → Prop), i < 7 → 0 ≤ c → c ≤ 1000 → NsObj oC m₂ → m₂ a = some (.int i t) → m₂ b = some (.int c u) → Fr h₀ L h m → News h₀ L h ((I, oI) :: (T, oT) :: (C, oC) :: (D, lst ys) :: news) → (∀ p ∈ news, p.1 ≠ I ∧ p.1 ≠ T ∧ p.1 ≠ C ∧ p.1 ≠ D) → ((@Ne Nat I T) ∧ (@Ne Nat I C) ∧ (@Ne Nat I D) ∧ (@Ne Nat T C) ∧ (@Ne Nat T D) ∧ (@Ne Nat C D)) →
      wpAny (model prog w) A (eval elt (compEnvC scope cl C env)) (EnumEnd h₀ L m s ((I, oI) :: (T, oT) :: (C, oC) :: (D, lst ys) :: news) G) E' { s with heap := h, toks := tk })
    (hsz7 : cs'.length = 7)
    (fin : ∀ a0 a1 a2 a3 a4 a5 a6 t0 t1 t2 t3 t4 t5 t6, G a0 → G a1 → G a2 → G a3 → G a4 → G a5 → G a6 → ∀ D h tk, Fr h₀ L h (fun z => if z = y then some (.ref D) else m z) → News h₀ L h ((D, listOf #[Value.int a0 t0, .int a1 t1, .int a2 t2, .int a3 t3, .int a4 t4, .int a5 t5, .int a6 t6] 7) :: news) → (∀ p ∈ news, @LT.lt Nat _ p.1 D) → Q .next { s with heap := h, toks := tk }) :
    wpAny (model prog w) A (call (.type "enumerate") [.ref l]) (EnumSrc prog w A h₀ L m env elt a b scope cl G (fun s₂ => FinL h₀ L m s₂ y Q)) E s := by
  have hl : s.heap.IsList l its.toArray := ⟨_, (N _ hm).1, rfl, nl, rfl⟩
  refine call_enumerate_list hl fun h' he hit hsize hk => ?_
  have lt : ∀ b o, s.heap.get? b = some o → b ≠ s.heap.objs.size + 1 ∧ b ≠ s.heap.objs.size := fun b o e => ⟨Nat.ne_of_lt (Nat.lt_succ_of_lt (Heap.lt_size e)), Nat.ne_of_lt (Heap.lt_size e)⟩
  have z0 : ∀ c, s.heap.objs.size ≤ c → h₀.get? c = none := fun c hc => by
    cases e : h₀.get? c with
    | none => rfl
    | some o => exact absurd (Heap.lt_size (F.keep _ _ e)) (Nat.not_lt.mpr hc)
  have hL1 : L < s.heap.objs.size := F.ns.lt
  refine ⟨_, _, l, its.toArray, nl, news, rfl, F.keeps hk, N.grown hk, hm, Nat.succ_ne_self _, (lt _ _ (N _ hm).1).1, (lt _ _ (N _ hm).1).2, ?_, he, hit, Nat.ne_of_lt (Nat.lt_succ_of_lt hL1), z0 _ (Nat.le_succ _), Nat.ne_of_lt hL1, z0 _ (Nat.le_refl _),
    fun p hp => lt _ _ (N p hp).1, ?_, ?_⟩
  · rw [List.size_toArray, hi.length, sizeLine_eq]; omega
  · intro i x t I oI T oT C oC D m₂ ys h tk E' hx hC ha hb F' N' off ne
    rw [List.getElem?_toArray] at hx
    obtain ⟨c, u, rfl, hc'⟩ := hi.at i x hx
    have hcm := hc c (List.mem_of_getElem? hc')
    have hlt : i < cs'.length := (List.getElem?_eq_some_iff.mp hc').1
    exact wpAny_mono (turn i c t u I oI T oT C oC D m₂ ys h tk E' (by omega) hcm.1 hcm.2 hC ha hb F' N' off ne) (fun _ _ q => q.heap) fun _ _ q => q
  · intro ys ns h1 h2 h3 D h tk F' N' o1
    have h2 : ns.length = 7 := by rw [h2, List.size_toArray, hi.length]; exact hsz7
    obtain ⟨a0, a1, a2, a3, a4, a5, a6, t0, t1, t2, t3, t4, t5, t6, rfl, rfl⟩ := ints7 h1 h2
    exact fin a0 a1 a2 a3 a4 a5 a6 t0 t1 t2 t3 t4 t5 t6 (h3 _ (by simp)) (h3 _ (by simp)) (h3 _ (by simp)) (h3 _ (by simp)) (h3 _ (by simp)) (h3 _ (by simp)) (h3 _ (by simp)) D h tk F' N' o1
end
end
section
theorem calm_L2lev1 : True ∧ True := by
  w_top off
  k_with_none
  first
    | (walk1; fail)
    | exact ⟨trivial, trivial⟩
theorem rows_L2lev1_ne : True := by
  k_with "ne" => (refine neN ?_; (try dsimp only); first | (exact Nat.ne_of_gt (And.left (by assumption))) | (exact Nat.ne_of_gt (And.left (And.right (by assumption)))) | (exact Nat.ne_of_gt (And.right (by assumption))) | (exact Nat.ne_of_gt (And.left (And.right (And.right (by assumption))))) | (exact Nat.ne_of_gt (And.right (And.right (by assumption)))) | (exact Nat.ne_of_gt (And.left (And.right (And.right (And.right (by assumption)))))) | (exact Nat.ne_of_gt (And.right (And.right (And.right (by assumption))))) | (exact Nat.ne_of_gt (And.left (And.right (And.right (And.right (And.right (by assumption))))))) | (exact Nat.ne_of_gt (And.right (And.right (And.right (And.right (by assumption)))))) | (exact Nat.ne_of_gt (And.left (And.right (And.right (And.right (And.right (And.right (by assumption)))))))) | (exact Nat.ne_of_gt (And.right (And.right (And.right (And.right (And.right (by assumption))))))) | (exact Nat.ne_of_gt (And.left (And.right (And.right (And.right (And.right (And.right (And.right (by assumption))))))))) | (exact Nat.ne_of_gt (And.right (And.right (And.right (And.right (And.right (And.right (by assumption)))))))) | (exact Nat.ne_of_gt (And.left (And.right (And.right (And.right (And.right (And.right (And.right (And.right (by assumption)))))))))) | (exact Nat.ne_of_gt (And.right (And.right (And.right (And.right (And.right (And.right (And.right (by assumption))))))))) | (exact Nat.ne_of_gt (And.left (And.right (And.right (And.right (And.right (And.right (And.right (And.right (And.right (by assumption))))))))))) | (exact Nat.ne_of_gt (And.right (And.right (And.right (And.right (And.right (And.right (And.right (And.right (by assumption)))))))))) | (exact Nat.ne_of_gt (And.left (And.right (And.right (And.right (And.right (And.right (And.right (And.right (And.right (And.right (by assumption)))))))))))) | (exact Nat.ne_of_gt (And.right (And.right (And.right (And.right (And.right (And.right (And.right (And.right (And.right (by assumption))))))))))) | (exact Nat.ne_of_lt (And.left (by assumption))) | (exact Nat.ne_of_lt (And.left (And.right (by assumption)))) | (exact Nat.ne_of_lt (And.right (by assumption))) | (exact Nat.ne_of_lt (And.left (And.right (And.right (by assumption))))) | (exact Nat.ne_of_lt (And.right (And.right (by assumption)))) | (exact Nat.ne_of_lt (And.left (And.right (And.right (And.right (by assumption)))))) | (exact Nat.ne_of_lt (And.right (And.right (And.right (by assumption))))) | (exact Nat.ne_of_lt (And.left (And.right (And.right (And.right (And.right (by assumption))))))) | (exact Nat.ne_of_lt (And.right (And.right (And.right (And.right (by assumption)))))) | (exact Nat.ne_of_lt (And.left (And.right (And.right (And.right (And.right (And.right (by assumption)))))))) | (exact Nat.ne_of_lt (And.right (And.right (And.right (And.right (And.right (by assumption))))))) | (exact Nat.ne_of_lt (And.left (And.right (And.right (And.right (And.right (And.right (And.right (by assumption))))))))) | (exact Nat.ne_of_lt (And.right (And.right (And.right (And.right (And.right (And.right (by assumption)))))))) | (exact Nat.ne_of_lt (And.left (And.right (And.right (And.right (And.right (And.right (And.right (And.right (by assumption)))))))))) | (exact Nat.ne_of_lt (And.right (And.right (And.right (And.right (And.right (And.right (And.right (by assumption))))))))) | (exact Nat.ne_of_lt (And.left (And.right (And.right (And.right (And.right (And.right (And.right (And.right (And.right (by assumption))))))))))) | (exact Nat.ne_of_lt (And.right (And.right (And.right (And.right (And.right (And.right (And.right (And.right (by assumption)))))))))) | (exact Nat.ne_of_lt (And.left (And.right (And.right (And.right (And.right (And.right (And.right (And.right (And.right (And.right (by assumption)))))))))))) | (exact Nat.ne_of_lt (And.right (And.right (And.right (And.right (And.right (And.right (And.right (And.right (And.right (by assumption))))))))))))
  trivial
noncomputable def PreOk (a b : Str) (k : Int) : Prop := (cs a).take k.toNat = (cs b).take k.toNat
theorem c1_start (a b : Str) : (0:Int) ≤ 0 ∧ (0:Int) ≤ a.length ∧ (0:Int) ≤ b.length ∧ PreOk a b 0 := ⟨by omega, by omega, by omega, rfl⟩
theorem c1_turn {a b : Str} {k : Int} (h0 : 0 ≤ k) (h1 : k < a.length) (h2 : k < b.length) (hp : PreOk a b k) (he : (Txt.item a k == Txt.item b k) = true) :
    (0:Int) ≤ k + 1 ∧ k + 1 ≤ a.length ∧ k + 1 ≤ b.length ∧ PreOk a b (k + 1) := by
  refine ⟨by omega, by omega, by omega, ?_⟩
  rw [item_cs h0 h1, item_cs h0 h2] at he
  have he := beq_iff_eq.mp he
  have e : (cs a).getD k.toNat 0 = (cs b).getD k.toNat 0 := by injection he with he; simpa using he
  unfold PreOk at hp ⊢
  have ht : (k + 1).toNat = k.toNat + 1 := by omega
  rw [ht, take_one (by rw [cs_len]; omega), take_one (by rw [cs_len]; omega), hp, e]
theorem fr1 {g h : Heap} {L : Addr} {m : Str → Option Value} {n1 : Str} {v1 : Value} (F : Fr g L h m) (e1 : m n1 = some v1) : Fr g L h (fun y => if y = n1 then some v1 else m y) := Fr.known0 F e1
theorem fr2 {g h : Heap} {L : Addr} {m : Str → Option Value} {n1 n2 : Str} {v1 v2 : Value} (F : Fr g L h m) (e1 : m n1 = some v1) (e2 : m n2 = some v2) : Fr g L h (fun y => if y = n1 then some v1 else if y = n2 then some v2 else m y) :=
  Fr.known0 (Fr.known0 F e2) (by show (if n1 = n2 then some v2 else m n1) = some v1; split <;> simp_all)
theorem fr3 {g h : Heap} {L : Addr} {m : Str → Option Value} {n1 n2 n3 : Str} {v1 v2 v3 : Value} (F : Fr g L h m) (e1 : m n1 = some v1) (e2 : m n2 = some v2) (e3 : m n3 = some v3) :
    Fr g L h (fun y => if y = n1 then some v1 else if y = n2 then some v2 else if y = n3 then some v3 else m y) :=
  Fr.known0 (fr2 F e2 e3) (by show (if n1 = n2 then some v2 else if n1 = n3 then some v3 else m n1) = some v1; split <;> (try split) <;> simp_all)
theorem fr4 {g h : Heap} {L : Addr} {m : Str → Option Value} {n1 n2 n3 n4 : Str} {v1 v2 v3 v4 : Value} (F : Fr g L h m) (e1 : m n1 = some v1) (e2 : m n2 = some v2) (e3 : m n3 = some v3) (e4 : m n4 = some v4) :
    Fr g L h (fun y => if y = n1 then some v1 else if y = n2 then some v2 else if y = n3 then some v3 else if y = n4 then some v4 else m y) :=
  Fr.known0 (fr3 F e2 e3 e4) (by show (if n1 = n2 then some v2 else if n1 = n3 then some v3 else if n1 = n4 then some v4 else m n1) = some v1; split <;> (try split) <;> (try split) <;> simp_all)
theorem lev_c1 (w : World) (news : CbLed) (loose : List Str) (mean : ExcName → Option Value) (mg mb : Str → Option Value) (p : Program) (a b : Str) (m : Int) (ta tb tm : CbTok) (ha : a.length ≤ 40) (hb : b.length ≤ 40)
  (rest : List Stmt) (dp un : Nat) (gd : Option (List Code)) (cn : Str) (sc : Scope) (a' : CbAddr) (ccd : CbVal) (cl : List (Str × CbAddr)) (outer : List Env) (base g h : Heap) (L L' : CbAddr) (mm : Str → Option Value) (s : Shared) (tk0 : Nat)
  (Q : Flow → Shared → Prop) (E : Value → Shared → Prop)
  (B : Below (ktrTop dp un gd cn sc L a' ccd cl outer) base (envX cn sc L a' ccd cl :: outer) g) (hdp : dp + 100 < recursionLimit) (hun : un + 500 < cLine)
  (N : News g L' h news) (X : (Mine.hd.heap_39 w.params).In g) (T : Top p loose mean mg mb g)
  (hE : PassesOwn (model PySem.Challenge.rw_rw0047_02.prog w) ((ktrTop dp un gd cn sc L a' ccd cl outer).deeper (envOf (Str.ofString "_levenshtein_distance") levS.1 L' 28 (.ref 27))) (envOf (Str.ofString "_levenshtein_distance") levS.1 L' 28 (.ref 27)) E)
  (F : Fr g L' h (fun y => if y = Str.ofString "a" then some (Value.str a ta) else if y = Str.ofString "b" then some (Value.str b tb) else if y = Str.ofString "max_cost" then some (Value.int m tm) else mm y))
  (hret : ∀ (v : Int) t h' tk' m', LevOk a b m v → Fr g L' h' m' → News g L' h' news → Q (.ret (.int v t)) { s with heap := h', toks := tk' })
  (hrest : ∀ h' tk' (k : Int) tp (m' : Str → Option Value),
    Fr g L' h' (fun y => if y = Str.ofString "a" then some (Value.str a ta) else if y = Str.ofString "b" then some (Value.str b tb) else if y = Str.ofString "max_cost" then some (Value.int m tm) else if y = Str.ofString "pre" then some (Value.int k tp) else m' y) →
    News g L' h' news → 0 ≤ k → k ≤ a.length → k ≤ b.length → PreOk a b k → wpAny (model PySem.Challenge.rw_rw0047_02.prog w) ((ktrTop dp un gd cn sc L a' ccd cl outer).deeper (envOf (Str.ofString "_levenshtein_distance") levS.1 L' 28 (.ref 27)))
    (execs (rest) (envOf (Str.ofString "_levenshtein_distance") levS.1 L' 28 (.ref 27))) Q E {s with heap := h', toks := tk'}) :
  wpAny (model PySem.Challenge.rw_rw0047_02.prog w) ((ktrTop dp un gd cn sc L a' ccd cl outer).deeper (envOf (Str.ofString "_levenshtein_distance") levS.1 L' 28 (.ref 27)))
    (execs (levB.1.take 3 ++ rest) (envOf (Str.ofString "_levenshtein_distance") levS.1 L' 28 (.ref 27))) Q E {s with heap := h, toks := tk0} := by
  revert X; k_fill; intro X
  dsimp only [levB, levS, List.take, List.cons_append, List.nil_append] at *
  k_with "exec While BoolOp cons nil" => k_while (fun _ pre => 0 ≤ pre ∧ pre ≤ a.length ∧ pre ≤ b.length ∧ PreOk a b pre) (fun _ pre => (a.length - pre).toNat) "pre"
  k_with "state" => first | exact c1_start _ _ | exact c1_turn (by assumption) (by omega) (by omega) (by assumption) (by assumption)
  k_steps
  all_goals first
    | exact hret _ _ _ _ _ (lev_same (by assumption)) (by assumption) (by assumption)
    | exact hrest _ _ _ _ _ (fr4 (by assumption) (by with_unfolding_all rfl) (by with_unfolding_all rfl) (by with_unfolding_all rfl) (by with_unfolding_all rfl)) (by assumption) (by assumption) (by assumption) (by assumption) (by assumption)
end
section
theorem calm_L2lev2 : True ∧ True := by
  w_top off
  k_with_none
  first
    | (walk1; fail)
    | exact ⟨trivial, trivial⟩
theorem rows_L2lev2_ne : True := by
  k_with "ne" => (refine neN ?_; (try dsimp only); first | (exact Nat.ne_of_gt (And.left (by assumption))) | (exact Nat.ne_of_gt (And.left (And.right (by assumption)))) | (exact Nat.ne_of_gt (And.right (by assumption))) | (exact Nat.ne_of_gt (And.left (And.right (And.right (by assumption))))) | (exact Nat.ne_of_gt (And.right (And.right (by assumption)))) | (exact Nat.ne_of_gt (And.left (And.right (And.right (And.right (by assumption)))))) | (exact Nat.ne_of_gt (And.right (And.right (And.right (by assumption))))) | (exact Nat.ne_of_gt (And.left (And.right (And.right (And.right (And.right (by assumption))))))) | (exact Nat.ne_of_gt (And.right (And.right (And.right (And.right (by assumption)))))) | (exact Nat.ne_of_gt (And.left (And.right (And.right (And.right (And.right (And.right (by assumption)))))))) | (exact Nat.ne_of_gt (And.right (And.right (And.right (And.right (And.right (by assumption))))))) | (exact Nat.ne_of_gt (And.left (And.right (And.right (And.right (And.right (And.right (And.right (by assumption))))))))) | (exact Nat.ne_of_gt (And.right (And.right (And.right (And.right (And.right (And.right (by assumption)))))))) | (exact Nat.ne_of_gt (And.left (And.right (And.right (And.right (And.right (And.right (And.right (And.right (by assumption)))))))))) | (exact Nat.ne_of_gt (And.right (And.right (And.right (And.right (And.right (And.right (And.right (by assumption))))))))) | (exact Nat.ne_of_gt (And.left (And.right (And.right (And.right (And.right (And.right (And.right (And.right (And.right (by assumption))))))))))) | (exact Nat.ne_of_gt (And.right (And.right (And.right (And.right (And.right (And.right (And.right (And.right (by assumption)))))))))) | (exact Nat.ne_of_gt (And.left (And.right (And.right (And.right (And.right (And.right (And.right (And.right (And.right (And.right (by assumption)))))))))))) | (exact Nat.ne_of_gt (And.right (And.right (And.right (And.right (And.right (And.right (And.right (And.right (And.right (by assumption))))))))))) | (exact Nat.ne_of_lt (And.left (by assumption))) | (exact Nat.ne_of_lt (And.left (And.right (by assumption)))) | (exact Nat.ne_of_lt (And.right (by assumption))) | (exact Nat.ne_of_lt (And.left (And.right (And.right (by assumption))))) | (exact Nat.ne_of_lt (And.right (And.right (by assumption)))) | (exact Nat.ne_of_lt (And.left (And.right (And.right (And.right (by assumption)))))) | (exact Nat.ne_of_lt (And.right (And.right (And.right (by assumption))))) | (exact Nat.ne_of_lt (And.left (And.right (And.right (And.right (And.right (by assumption))))))) | (exact Nat.ne_of_lt (And.right (And.right (And.right (And.right (by assumption)))))) | (exact Nat.ne_of_lt (And.left (And.right (And.right (And.right (And.right (And.right (by assumption)))))))) | (exact Nat.ne_of_lt (And.right (And.right (And.right (And.right (And.right (by assumption))))))) | (exact Nat.ne_of_lt (And.left (And.right (And.right (And.right (And.right (And.right (And.right (by assumption))))))))) | (exact Nat.ne_of_lt (And.right (And.right (And.right (And.right (And.right (And.right (by assumption)))))))) | (exact Nat.ne_of_lt (And.left (And.right (And.right (And.right (And.right (And.right (And.right (And.right (by assumption)))))))))) | (exact Nat.ne_of_lt (And.right (And.right (And.right (And.right (And.right (And.right (And.right (by assumption))))))))) | (exact Nat.ne_of_lt (And.left (And.right (And.right (And.right (And.right (And.right (And.right (And.right (And.right (by assumption))))))))))) | (exact Nat.ne_of_lt (And.right (And.right (And.right (And.right (And.right (And.right (And.right (And.right (by assumption)))))))))) | (exact Nat.ne_of_lt (And.left (And.right (And.right (And.right (And.right (And.right (And.right (And.right (And.right (And.right (by assumption)))))))))))) | (exact Nat.ne_of_lt (And.right (And.right (And.right (And.right (And.right (And.right (And.right (And.right (And.right (by assumption))))))))))))
  trivial
noncomputable def PostOk (a b : Str) (q : Int) : Prop := (cs a).drop (a.length + q).toNat = (cs b).drop (b.length + q).toNat
theorem c2_start (a b : Str) : (0:Int) ≤ 0 ∧ -(0:Int) ≤ a.length ∧ -(0:Int) ≤ b.length ∧ PostOk a b 0 := by
  refine ⟨by omega, by omega, by omega, ?_⟩
  unfold PostOk
  rw [List.drop_of_length_le (by rw [cs_len]; omega), List.drop_of_length_le (by rw [cs_len]; omega)]
theorem slice_neg_len {x : Str} {q : Int} (h0 : q ≤ 0) (h1 : -q ≤ (x.length : Int)) (hne : q ≠ 0) : ((Txt.slice x none (some q)).length : Int) = x.length + q := by
  have := slice_to_neg (x := x) (j := q) (by omega) (by omega)
  rw [← cs_len, this, List.length_take, cs_len]
  omega
theorem lev_item {prog : Program} {w : World} {A : Around} {E : Value → Shared → Prop} {s : Shared} {value slice : PySem.Expr} {x : PySem.Str} {t u : Tok} {q : Int} {Q : Value → Shared → Prop}
    (h0 : q ≤ 0) (h1 : -q ≤ (x.length : Int)) (hx : x.length ≤ 1000) (hq : q ≠ 0 → ((Txt.slice x none (some q)).length : Int) ≠ 0) (hz : q = 0 → ((Txt.slice x none none).length : Int) ≠ 0)
    (h : -(x.length : Int) ≤ q - 1 → Q (.str (Txt.item x (q - 1)) s.toks) { s with toks := s.toks + 1 })
    (hs : subscripted slice false (.str x t) (.int (q - 1) u) = operate [.str x t, .int (q - 1) u] (getItem (.str x t) (.int (q - 1) u)) := by with_unfolding_all rfl)
    (ht : ∀ r, letTemporaryGo value (.str x t) r = pure () := by intro _; with_unfolding_all rfl) :
    wpAny (model prog w) A (subscriptTail value slice (.str x t) (.int (q - 1) u)) Q E s := by
  have hl : -(x.length : Int) ≤ q - 1 := by
    by_cases hc : q = 0
    · have := hz hc
      rw [slice_all] at this
      omega
    · have := hq hc
      rw [slice_neg_len h0 h1 hc] at this
      omega
  exact item_str (fitsSsize_of (N := 9223372036854775808) (by omega) (by omega) (Int.le_refl _)) (by omega) (by omega) (fun _ => h hl) hs ht
theorem c2_turn {a b : Str} {q : Int} (h0 : q ≤ 0) (ha : -(a.length : Int) ≤ q - 1) (hb : -(b.length : Int) ≤ q - 1) (hp : PostOk a b q) (he : (Txt.item a (q - 1) == Txt.item b (q - 1)) = true) :
    q - 1 ≤ (0:Int) ∧ -(q - 1) ≤ a.length ∧ -(q - 1) ≤ b.length ∧ PostOk a b (q - 1) := by
  refine ⟨by omega, by omega, by omega, ?_⟩
  rw [item_cs_neg (by omega) ha, item_cs_neg (by omega) hb] at he
  have he := beq_iff_eq.mp he
  have e : (cs a).getD (q - 1 + a.length).toNat 0 = (cs b).getD (q - 1 + b.length).toNat 0 := by injection he with he; simpa using he
  unfold PostOk at hp ⊢
  have ea : (a.length + (q - 1)).toNat = (q - 1 + a.length).toNat := by omega
  have eb : (b.length + (q - 1)).toNat = (q - 1 + b.length).toNat := by omega
  rw [ea, eb, drop_one (l := cs a) (by rw [cs_len]; omega), drop_one (l := cs b) (by rw [cs_len]; omega), e]
  congr 1
  have ea' : (q - 1 + a.length).toNat + 1 = (a.length + q).toNat := by omega
  have eb' : (q - 1 + b.length).toNat + 1 = (b.length + q).toNat := by omega
  rw [ea', eb', hp]
theorem rows_L2lev2_1 : True := by
  k_with "subscriptTail Name BinOp str int" => (k_here; (with_reducible show wpAny _ _ (subscriptTail _ _ (Value.str _ _) (Value.int (_ - 1) _)) _ _ _); (with_unfolding_all refine' lev_item ?k1 ?k2 ?k3 ?k4 ?k5 ?_); (case k1 => assumption); (case k2 => assumption); (case k3 => omega); (case k4 => (intro hhRow; first | assumption | omega)); (case k5 => (intro hhRow; first | assumption | omega)); intro _)
  k_with "subscriptTail Name Slice str ref" => (k_here; (with_reducible show wpAny _ _ (subscriptTail _ (PySem.Expr.Slice none (some (PySem.Expr.BoolOp _ _ _)) none _) (Value.str _ _) (Value.ref _)) _ _ _); (rename Fr _ _ _ _ => lF9Row); (rename News _ _ _ _ => lN9Row); (with_unfolding_all refine' slice_strN_nn_len lF9Row lN9Row ?_ ?k2 ?k3 ?k4); (case k2 => with_unfolding_all rfl); (case k3 => (intro _; with_unfolding_all rfl)); (case k4 => size_fits); intro _ _ _ _ _ _)
  k_with "subscriptTail Name Slice str ref" => (k_here; (with_reducible show wpAny _ _ (subscriptTail _ (PySem.Expr.Slice none (some (PySem.Expr.BoolOp _ _ _)) none _) (Value.str _ _) (Value.ref _)) _ _ _); exfalso; omega)
  trivial
theorem lev_c2 (w : World) (news : CbLed) (loose : List Str) (mean : ExcName → Option Value) (mg mb : Str → Option Value) (p : Program) (a b : Str) (m k : Int) (ta tb tm tp : CbTok) (ha : a.length ≤ 40) (hb : b.length ≤ 40) (h0 : 0 ≤ k) (h1 : k ≤ a.length) (h2 : k ≤ b.length)
  (rest : List Stmt) (dp un : Nat) (gd : Option (List Code)) (cn : Str) (sc : Scope) (a' : CbAddr) (ccd : CbVal) (cl : List (Str × CbAddr)) (outer : List Env) (base g h : Heap) (L L' : CbAddr) (mm : Str → Option Value) (s : Shared) (tk0 : Nat)
  (Q : Flow → Shared → Prop) (E : Value → Shared → Prop)
  (B : Below (ktrTop dp un gd cn sc L a' ccd cl outer) base (envX cn sc L a' ccd cl :: outer) g) (hdp : dp + 100 < recursionLimit) (hun : un + 500 < cLine)
  (N : News g L' h news) (X : (Mine.hd.heap_39 w.params).In g) (T : Top p loose mean mg mb g)
  (hE : PassesOwn (model PySem.Challenge.rw_rw0047_02.prog w) ((ktrTop dp un gd cn sc L a' ccd cl outer).deeper (envOf (Str.ofString "_levenshtein_distance") levS.1 L' 28 (.ref 27))) (envOf (Str.ofString "_levenshtein_distance") levS.1 L' 28 (.ref 27)) E)
  (F : Fr g L' h (fun y => if y = Str.ofString "a" then some (Value.str a ta) else if y = Str.ofString "b" then some (Value.str b tb) else if y = Str.ofString "max_cost" then some (Value.int m tm) else if y = Str.ofString "pre" then some (Value.int k tp) else mm y))
  (hrest : ∀ h' tk' (q : Int) (ta tb tq : CbTok) (m' : Str → Option Value),
    Fr g L' h' (fun y => if y = Str.ofString "a" then some (Value.str (Txt.slice a (some k) none) ta) else if y = Str.ofString "b" then some (Value.str (Txt.slice b (some k) none) tb) else if y = Str.ofString "max_cost" then some (Value.int m tm) else if y = Str.ofString "post" then some (Value.int q tq) else m' y) →
    News g L' h' news → q ≤ 0 → -q ≤ (Txt.slice a (some k) none).length → -q ≤ (Txt.slice b (some k) none).length → PostOk (Txt.slice a (some k) none) (Txt.slice b (some k) none) q → wpAny (model PySem.Challenge.rw_rw0047_02.prog w) ((ktrTop dp un gd cn sc L a' ccd cl outer).deeper (envOf (Str.ofString "_levenshtein_distance") levS.1 L' 28 (.ref 27)))
    (execs (rest) (envOf (Str.ofString "_levenshtein_distance") levS.1 L' 28 (.ref 27))) Q E {s with heap := h', toks := tk'}) :
  wpAny (model PySem.Challenge.rw_rw0047_02.prog w) ((ktrTop dp un gd cn sc L a' ccd cl outer).deeper (envOf (Str.ofString "_levenshtein_distance") levS.1 L' 28 (.ref 27)))
    (execs ((levB.1.drop 3).take 4 ++ rest) (envOf (Str.ofString "_levenshtein_distance") levS.1 L' 28 (.ref 27))) Q E {s with heap := h, toks := tk0} := by
  revert X; k_fill; intro X
  dsimp only [levB, levS, List.take, List.drop, List.cons_append, List.nil_append] at *
  k_with "exec While BoolOp cons nil" => k_while (fun _ post => post ≤ 0 ∧ -post ≤ (Txt.slice a (some k) none).length ∧ -post ≤ (Txt.slice b (some k) none).length ∧ PostOk (Txt.slice a (some k) none) (Txt.slice b (some k) none) post) (fun _ post => (a.length + post).toNat) "post"
  k_with "state" => first | exact c2_start _ _ | exact c2_turn (by assumption) (by assumption) (by assumption) (by assumption) (by assumption)
  k_steps
  all_goals exact hrest _ _ _ _ _ _ _ (fr4 (by assumption) (by with_unfolding_all rfl) (by with_unfolding_all rfl) (by with_unfolding_all rfl) (by with_unfolding_all rfl)) (by assumption) (by assumption) (by assumption) (by assumption) (by assumption)
end
section
theorem calm_L2lev3 : True ∧ True := by
  w_top off
  k_with_none
  first
    | (walk1; fail)
    | exact ⟨trivial, trivial⟩
theorem rows_L2lev3_ne : True := by
  k_with "ne" => (refine neN ?_; (try dsimp only); first | (exact Nat.ne_of_gt (And.left (by assumption))) | (exact Nat.ne_of_gt (And.left (And.right (by assumption)))) | (exact Nat.ne_of_gt (And.right (by assumption))) | (exact Nat.ne_of_gt (And.left (And.right (And.right (by assumption))))) | (exact Nat.ne_of_gt (And.right (And.right (by assumption)))) | (exact Nat.ne_of_gt (And.left (And.right (And.right (And.right (by assumption)))))) | (exact Nat.ne_of_gt (And.right (And.right (And.right (by assumption))))) | (exact Nat.ne_of_gt (And.left (And.right (And.right (And.right (And.right (by assumption))))))) | (exact Nat.ne_of_gt (And.right (And.right (And.right (And.right (by assumption)))))) | (exact Nat.ne_of_gt (And.left (And.right (And.right (And.right (And.right (And.right (by assumption)))))))) | (exact Nat.ne_of_gt (And.right (And.right (And.right (And.right (And.right (by assumption))))))) | (exact Nat.ne_of_gt (And.left (And.right (And.right (And.right (And.right (And.right (And.right (by assumption))))))))) | (exact Nat.ne_of_gt (And.right (And.right (And.right (And.right (And.right (And.right (by assumption)))))))) | (exact Nat.ne_of_gt (And.left (And.right (And.right (And.right (And.right (And.right (And.right (And.right (by assumption)))))))))) | (exact Nat.ne_of_gt (And.right (And.right (And.right (And.right (And.right (And.right (And.right (by assumption))))))))) | (exact Nat.ne_of_gt (And.left (And.right (And.right (And.right (And.right (And.right (And.right (And.right (And.right (by assumption))))))))))) | (exact Nat.ne_of_gt (And.right (And.right (And.right (And.right (And.right (And.right (And.right (And.right (by assumption)))))))))) | (exact Nat.ne_of_gt (And.left (And.right (And.right (And.right (And.right (And.right (And.right (And.right (And.right (And.right (by assumption)))))))))))) | (exact Nat.ne_of_gt (And.right (And.right (And.right (And.right (And.right (And.right (And.right (And.right (And.right (by assumption))))))))))) | (exact Nat.ne_of_lt (And.left (by assumption))) | (exact Nat.ne_of_lt (And.left (And.right (by assumption)))) | (exact Nat.ne_of_lt (And.right (by assumption))) | (exact Nat.ne_of_lt (And.left (And.right (And.right (by assumption))))) | (exact Nat.ne_of_lt (And.right (And.right (by assumption)))) | (exact Nat.ne_of_lt (And.left (And.right (And.right (And.right (by assumption)))))) | (exact Nat.ne_of_lt (And.right (And.right (And.right (by assumption))))) | (exact Nat.ne_of_lt (And.left (And.right (And.right (And.right (And.right (by assumption))))))) | (exact Nat.ne_of_lt (And.right (And.right (And.right (And.right (by assumption)))))) | (exact Nat.ne_of_lt (And.left (And.right (And.right (And.right (And.right (And.right (by assumption)))))))) | (exact Nat.ne_of_lt (And.right (And.right (And.right (And.right (And.right (by assumption))))))) | (exact Nat.ne_of_lt (And.left (And.right (And.right (And.right (And.right (And.right (And.right (by assumption))))))))) | (exact Nat.ne_of_lt (And.right (And.right (And.right (And.right (And.right (And.right (by assumption)))))))) | (exact Nat.ne_of_lt (And.left (And.right (And.right (And.right (And.right (And.right (And.right (And.right (by assumption)))))))))) | (exact Nat.ne_of_lt (And.right (And.right (And.right (And.right (And.right (And.right (And.right (by assumption))))))))) | (exact Nat.ne_of_lt (And.left (And.right (And.right (And.right (And.right (And.right (And.right (And.right (And.right (by assumption))))))))))) | (exact Nat.ne_of_lt (And.right (And.right (And.right (And.right (And.right (And.right (And.right (And.right (by assumption)))))))))) | (exact Nat.ne_of_lt (And.left (And.right (And.right (And.right (And.right (And.right (And.right (And.right (And.right (And.right (by assumption)))))))))))) | (exact Nat.ne_of_lt (And.right (And.right (And.right (And.right (And.right (And.right (And.right (And.right (And.right (by assumption))))))))))))
  trivial
/-- a text up to q signs from its end -/
noncomputable def cutTo (x : Str) (q : Int) : Str := ⟨((cs x).take (x.length + q).toNat).toArray⟩
theorem cut_none {x : Str} {q : Int} (h : q = 0) : Txt.slice x none none = cutTo x q := by
  subst h
  rw [slice_all]
  apply str_ext
  show cs x = ((cs x).take (x.length + 0 : Int).toNat).toArray.toList
  rw [List.toList_toArray, List.take_of_length_le (by rw [cs_len]; omega)]
theorem cut_some {x : Str} {q : Int} (h : q ≠ 0) (h0 : q ≤ 0) (h1 : -q ≤ (x.length : Int)) : Txt.slice x none (some q) = cutTo x q := by
  apply str_ext
  rw [slice_to_neg (by omega) (by omega)]
  show _ = ((cs x).take (x.length + q : Int).toNat).toArray.toList
  rw [List.toList_toArray, Int.add_comm]
theorem rows_L2lev3_2 : True := by
  k_with "subscriptTail Name Slice str ref" => (k_here; (with_reducible show wpAny _ _ (subscriptTail _ (PySem.Expr.Slice none (some (PySem.Expr.BoolOp _ _ _)) none _) (Value.str _ _) (Value.ref _)) _ _ _); (rename Fr _ _ _ _ => lF9Row); (rename News _ _ _ _ => lN9Row); (with_unfolding_all refine' slice_strN_nn_len lF9Row lN9Row ?_ ?k2 ?k3 ?k4); (case k2 => with_unfolding_all rfl); (case k3 => (intro _; with_unfolding_all rfl)); (case k4 => size_fits); intro _ _ _ _ _ _)
  k_with "subscriptTail Name Slice str ref" => (k_here; (with_reducible show wpAny _ _ (subscriptTail _ (PySem.Expr.Slice none (some (PySem.Expr.BoolOp _ _ _)) none _) (Value.str _ _) (Value.ref _)) _ _ _); exfalso; omega)
  trivial
theorem lev_c3 (w : World) (news : CbLed) (loose : List Str) (mean : ExcName → Option Value) (mg mb : Str → Option Value) (p : Program) (a b : Str) (m q : Int) (ta tb tm tq : CbTok) (ha : a.length ≤ 40) (hb : b.length ≤ 40) (h0 : q ≤ 0) (h1 : -q ≤ (a.length : Int)) (h2 : -q ≤ (b.length : Int))
  (rest : List Stmt) (dp un : Nat) (gd : Option (List Code)) (cn : Str) (sc : Scope) (a' : CbAddr) (ccd : CbVal) (cl : List (Str × CbAddr)) (outer : List Env) (base g h : Heap) (L L' : CbAddr) (mm : Str → Option Value) (s : Shared) (tk0 : Nat)
  (Q : Flow → Shared → Prop) (E : Value → Shared → Prop)
  (B : Below (ktrTop dp un gd cn sc L a' ccd cl outer) base (envX cn sc L a' ccd cl :: outer) g) (hdp : dp + 100 < recursionLimit) (hun : un + 500 < cLine)
  (N : News g L' h news) (X : (Mine.hd.heap_39 w.params).In g) (T : Top p loose mean mg mb g)
  (hE : PassesOwn (model PySem.Challenge.rw_rw0047_02.prog w) ((ktrTop dp un gd cn sc L a' ccd cl outer).deeper (envOf (Str.ofString "_levenshtein_distance") levS.1 L' 28 (.ref 27))) (envOf (Str.ofString "_levenshtein_distance") levS.1 L' 28 (.ref 27)) E)
  (F : Fr g L' h (fun y => if y = Str.ofString "a" then some (Value.str a ta) else if y = Str.ofString "b" then some (Value.str b tb) else if y = Str.ofString "max_cost" then some (Value.int m tm) else if y = Str.ofString "post" then some (Value.int q tq) else mm y))
  (hrest : ∀ h' tk' (a2 b2 : Str) (ta tb : CbTok) (m' : Str → Option Value),
    Fr g L' h' (fun y => if y = Str.ofString "a" then some (Value.str a2 ta) else if y = Str.ofString "b" then some (Value.str b2 tb) else if y = Str.ofString "max_cost" then some (Value.int m tm) else m' y) →
    News g L' h' news → a2 = cutTo a q → b2 = cutTo b q → wpAny (model PySem.Challenge.rw_rw0047_02.prog w) ((ktrTop dp un gd cn sc L a' ccd cl outer).deeper (envOf (Str.ofString "_levenshtein_distance") levS.1 L' 28 (.ref 27)))
    (execs (rest) (envOf (Str.ofString "_levenshtein_distance") levS.1 L' 28 (.ref 27))) Q E {s with heap := h', toks := tk'}) :
  wpAny (model PySem.Challenge.rw_rw0047_02.prog w) ((ktrTop dp un gd cn sc L a' ccd cl outer).deeper (envOf (Str.ofString "_levenshtein_distance") levS.1 L' 28 (.ref 27)))
    (execs ((levB.1.drop 7).take 2 ++ rest) (envOf (Str.ofString "_levenshtein_distance") levS.1 L' 28 (.ref 27))) Q E {s with heap := h, toks := tk0} := by
  revert X; k_fill; intro X
  dsimp only [levB, levS, List.take, List.drop, List.cons_append, List.nil_append] at *
  k_steps
  all_goals first
    | exact hrest _ _ _ _ _ _ _ (fr3 (by assumption) (by with_unfolding_all rfl) (by with_unfolding_all rfl) (by with_unfolding_all rfl)) (by assumption) (cut_none (by assumption)) (cut_none (by assumption))
    | exact hrest _ _ _ _ _ _ _ (fr3 (by assumption) (by with_unfolding_all rfl) (by with_unfolding_all rfl) (by with_unfolding_all rfl)) (by assumption) (cut_some (by assumption) (by assumption) (by assumption)) (cut_some (by assumption) (by assumption) (by assumption))
    | (exfalso; omega)
end
section
theorem calm_L2lev4 : True ∧ True := by
  w_top off
  k_with_none
  first
    | (walk1; fail)
    | exact ⟨trivial, trivial⟩
theorem rows_L2lev4_ne : True := by
  k_with "ne" => (refine neN ?_; (try dsimp only); first | (exact Nat.ne_of_gt (And.left (by assumption))) | (exact Nat.ne_of_gt (And.left (And.right (by assumption)))) | (exact Nat.ne_of_gt (And.right (by assumption))) | (exact Nat.ne_of_gt (And.left (And.right (And.right (by assumption))))) | (exact Nat.ne_of_gt (And.right (And.right (by assumption)))) | (exact Nat.ne_of_gt (And.left (And.right (And.right (And.right (by assumption)))))) | (exact Nat.ne_of_gt (And.right (And.right (And.right (by assumption))))) | (exact Nat.ne_of_gt (And.left (And.right (And.right (And.right (And.right (by assumption))))))) | (exact Nat.ne_of_gt (And.right (And.right (And.right (And.right (by assumption)))))) | (exact Nat.ne_of_gt (And.left (And.right (And.right (And.right (And.right (And.right (by assumption)))))))) | (exact Nat.ne_of_gt (And.right (And.right (And.right (And.right (And.right (by assumption))))))) | (exact Nat.ne_of_gt (And.left (And.right (And.right (And.right (And.right (And.right (And.right (by assumption))))))))) | (exact Nat.ne_of_gt (And.right (And.right (And.right (And.right (And.right (And.right (by assumption)))))))) | (exact Nat.ne_of_gt (And.left (And.right (And.right (And.right (And.right (And.right (And.right (And.right (by assumption)))))))))) | (exact Nat.ne_of_gt (And.right (And.right (And.right (And.right (And.right (And.right (And.right (by assumption))))))))) | (exact Nat.ne_of_gt (And.left (And.right (And.right (And.right (And.right (And.right (And.right (And.right (And.right (by assumption))))))))))) | (exact Nat.ne_of_gt (And.right (And.right (And.right (And.right (And.right (And.right (And.right (And.right (by assumption)))))))))) | (exact Nat.ne_of_gt (And.left (And.right (And.right (And.right (And.right (And.right (And.right (And.right (And.right (And.right (by assumption)))))))))))) | (exact Nat.ne_of_gt (And.right (And.right (And.right (And.right (And.right (And.right (And.right (And.right (And.right (by assumption))))))))))) | (exact Nat.ne_of_lt (And.left (by assumption))) | (exact Nat.ne_of_lt (And.left (And.right (by assumption)))) | (exact Nat.ne_of_lt (And.right (by assumption))) | (exact Nat.ne_of_lt (And.left (And.right (And.right (by assumption))))) | (exact Nat.ne_of_lt (And.right (And.right (by assumption)))) | (exact Nat.ne_of_lt (And.left (And.right (And.right (And.right (by assumption)))))) | (exact Nat.ne_of_lt (And.right (And.right (And.right (by assumption))))) | (exact Nat.ne_of_lt (And.left (And.right (And.right (And.right (And.right (by assumption))))))) | (exact Nat.ne_of_lt (And.right (And.right (And.right (And.right (by assumption)))))) | (exact Nat.ne_of_lt (And.left (And.right (And.right (And.right (And.right (And.right (by assumption)))))))) | (exact Nat.ne_of_lt (And.right (And.right (And.right (And.right (And.right (by assumption))))))) | (exact Nat.ne_of_lt (And.left (And.right (And.right (And.right (And.right (And.right (And.right (by assumption))))))))) | (exact Nat.ne_of_lt (And.right (And.right (And.right (And.right (And.right (And.right (by assumption)))))))) | (exact Nat.ne_of_lt (And.left (And.right (And.right (And.right (And.right (And.right (And.right (And.right (by assumption)))))))))) | (exact Nat.ne_of_lt (And.right (And.right (And.right (And.right (And.right (And.right (And.right (by assumption))))))))) | (exact Nat.ne_of_lt (And.left (And.right (And.right (And.right (And.right (And.right (And.right (And.right (And.right (by assumption))))))))))) | (exact Nat.ne_of_lt (And.right (And.right (And.right (And.right (And.right (And.right (And.right (And.right (by assumption)))))))))) | (exact Nat.ne_of_lt (And.left (And.right (And.right (And.right (And.right (And.right (And.right (And.right (And.right (And.right (by assumption)))))))))))) | (exact Nat.ne_of_lt (And.right (And.right (And.right (And.right (And.right (And.right (And.right (And.right (And.right (by assumption))))))))))))
  trivial
theorem lev_empty {a b : Str} {m : Int} (h : a.length = 0 ∨ b.length = 0) : LevOk a b m (2 * ((a.length : Int) + (b.length : Int))) := by
  left
  rw [← cs_len a, ← cs_len b] at *
  rcases h with h | h
  · rw [List.eq_nil_of_length_eq_zero h, D_nil]
    simp
  · rw [List.eq_nil_of_length_eq_zero h, D_nil']
    simp
theorem lev_far {a b : Str} {m : Int} (h : ((b.length : Int) - (a.length : Int)) * 2 > m ∨ ((a.length : Int) - (b.length : Int)) * 2 > m) : LevOk a b m (m + 1) := by
  right
  have h1 := D_len (cs a) (cs b)
  have h2 := D_len' (cs a) (cs b)
  rw [cs_len, cs_len] at h1 h2
  rcases h with h | h <;> omega
theorem lev_c4 (w : World) (news : CbLed) (loose : List Str) (mean : ExcName → Option Value) (mg mb : Str → Option Value) (p : Program) (a b : Str) (m : Int) (ta tb tm : CbTok) (ha : a.length ≤ 40) (hb : b.length ≤ 40)
  (rest : List Stmt) (dp un : Nat) (gd : Option (List Code)) (cn : Str) (sc : Scope) (a' : CbAddr) (ccd : CbVal) (cl : List (Str × CbAddr)) (outer : List Env) (base g h : Heap) (L L' : CbAddr) (mm : Str → Option Value) (s : Shared) (tk0 : Nat)
  (Q : Flow → Shared → Prop) (E : Value → Shared → Prop)
  (B : Below (ktrTop dp un gd cn sc L a' ccd cl outer) base (envX cn sc L a' ccd cl :: outer) g) (hdp : dp + 100 < recursionLimit) (hun : un + 500 < cLine)
  (N : News g L' h news) (X : (Mine.hd.heap_39 w.params).In g) (T : Top p loose mean mg mb g)
  (hE : PassesOwn (model PySem.Challenge.rw_rw0047_02.prog w) ((ktrTop dp un gd cn sc L a' ccd cl outer).deeper (envOf (Str.ofString "_levenshtein_distance") levS.1 L' 28 (.ref 27))) (envOf (Str.ofString "_levenshtein_distance") levS.1 L' 28 (.ref 27)) E)
  (F : Fr g L' h (fun y => if y = Str.ofString "a" then some (Value.str a ta) else if y = Str.ofString "b" then some (Value.str b tb) else if y = Str.ofString "max_cost" then some (Value.int m tm) else mm y))
  (hret : ∀ (v : Int) t h' tk' m', LevOk a b m v → Fr g L' h' m' → News g L' h' news → Q (.ret (.int v t)) { s with heap := h', toks := tk' })
  (hrest : ∀ h' tk' (a2 b2 : Str) (ta tb : CbTok) (m' : Str → Option Value),
    Fr g L' h' (fun y => if y = Str.ofString "a" then some (Value.str a2 ta) else if y = Str.ofString "b" then some (Value.str b2 tb) else if y = Str.ofString "max_cost" then some (Value.int m tm) else m' y) →
    News g L' h' news → (a2 = a ∧ b2 = b ∨ a2 = b ∧ b2 = a) → 0 < a2.length → a2.length ≤ b2.length → b2.length ≤ 40 → wpAny (model PySem.Challenge.rw_rw0047_02.prog w) ((ktrTop dp un gd cn sc L a' ccd cl outer).deeper (envOf (Str.ofString "_levenshtein_distance") levS.1 L' 28 (.ref 27)))
    (execs (rest) (envOf (Str.ofString "_levenshtein_distance") levS.1 L' 28 (.ref 27))) Q E {s with heap := h', toks := tk'}) :
  wpAny (model PySem.Challenge.rw_rw0047_02.prog w) ((ktrTop dp un gd cn sc L a' ccd cl outer).deeper (envOf (Str.ofString "_levenshtein_distance") levS.1 L' 28 (.ref 27)))
    (execs ((levB.1.drop 9).take 4 ++ rest) (envOf (Str.ofString "_levenshtein_distance") levS.1 L' 28 (.ref 27))) Q E {s with heap := h, toks := tk0} := by
  revert X; k_fill; intro X
  dsimp only [levB, levS, List.take, List.drop, List.cons_append, List.nil_append] at *
  k_steps
  all_goals first
    | exact hrest _ _ _ _ _ _ _ (fr3 (by assumption) (by with_unfolding_all rfl) (by with_unfolding_all rfl) (by with_unfolding_all rfl)) (by first | assumption | exact News.tail' (by assumption)) (by simp) (by omega) (by omega) (by omega)
    | exact hret _ _ _ _ _ (lev_empty (by omega)) (by assumption) (by assumption)
    | exact hret _ _ _ _ _ (lev_far (by first | (left; assumption) | (right; assumption))) (by assumption) (by first | assumption | exact News.tail' (by assumption))
    | (exfalso; omega)
end
section
theorem calm_L2lev5 : True ∧ True := by
  w_top off
  k_with_none
  first
    | (walk1; fail)
    | exact ⟨trivial, trivial⟩
theorem rows_L2lev5_ne : True := by
  k_with "ne" => (refine neN ?_; (try dsimp only); first | (exact Nat.ne_of_gt (And.left (by assumption))) | (exact Nat.ne_of_gt (And.left (And.right (by assumption)))) | (exact Nat.ne_of_gt (And.right (by assumption))) | (exact Nat.ne_of_gt (And.left (And.right (And.right (by assumption))))) | (exact Nat.ne_of_gt (And.right (And.right (by assumption)))) | (exact Nat.ne_of_gt (And.left (And.right (And.right (And.right (by assumption)))))) | (exact Nat.ne_of_gt (And.right (And.right (And.right (by assumption))))) | (exact Nat.ne_of_gt (And.left (And.right (And.right (And.right (And.right (by assumption))))))) | (exact Nat.ne_of_gt (And.right (And.right (And.right (And.right (by assumption)))))) | (exact Nat.ne_of_gt (And.left (And.right (And.right (And.right (And.right (And.right (by assumption)))))))) | (exact Nat.ne_of_gt (And.right (And.right (And.right (And.right (And.right (by assumption))))))) | (exact Nat.ne_of_gt (And.left (And.right (And.right (And.right (And.right (And.right (And.right (by assumption))))))))) | (exact Nat.ne_of_gt (And.right (And.right (And.right (And.right (And.right (And.right (by assumption)))))))) | (exact Nat.ne_of_gt (And.left (And.right (And.right (And.right (And.right (And.right (And.right (And.right (by assumption)))))))))) | (exact Nat.ne_of_gt (And.right (And.right (And.right (And.right (And.right (And.right (And.right (by assumption))))))))) | (exact Nat.ne_of_gt (And.left (And.right (And.right (And.right (And.right (And.right (And.right (And.right (And.right (by assumption))))))))))) | (exact Nat.ne_of_gt (And.right (And.right (And.right (And.right (And.right (And.right (And.right (And.right (by assumption)))))))))) | (exact Nat.ne_of_gt (And.left (And.right (And.right (And.right (And.right (And.right (And.right (And.right (And.right (And.right (by assumption)))))))))))) | (exact Nat.ne_of_gt (And.right (And.right (And.right (And.right (And.right (And.right (And.right (And.right (And.right (by assumption))))))))))) | (exact Nat.ne_of_lt (And.left (by assumption))) | (exact Nat.ne_of_lt (And.left (And.right (by assumption)))) | (exact Nat.ne_of_lt (And.right (by assumption))) | (exact Nat.ne_of_lt (And.left (And.right (And.right (by assumption))))) | (exact Nat.ne_of_lt (And.right (And.right (by assumption)))) | (exact Nat.ne_of_lt (And.left (And.right (And.right (And.right (by assumption)))))) | (exact Nat.ne_of_lt (And.right (And.right (And.right (by assumption))))) | (exact Nat.ne_of_lt (And.left (And.right (And.right (And.right (And.right (by assumption))))))) | (exact Nat.ne_of_lt (And.right (And.right (And.right (And.right (by assumption)))))) | (exact Nat.ne_of_lt (And.left (And.right (And.right (And.right (And.right (And.right (by assumption)))))))) | (exact Nat.ne_of_lt (And.right (And.right (And.right (And.right (And.right (by assumption))))))) | (exact Nat.ne_of_lt (And.left (And.right (And.right (And.right (And.right (And.right (And.right (by assumption))))))))) | (exact Nat.ne_of_lt (And.right (And.right (And.right (And.right (And.right (And.right (by assumption)))))))) | (exact Nat.ne_of_lt (And.left (And.right (And.right (And.right (And.right (And.right (And.right (And.right (by assumption)))))))))) | (exact Nat.ne_of_lt (And.right (And.right (And.right (And.right (And.right (And.right (And.right (by assumption))))))))) | (exact Nat.ne_of_lt (And.left (And.right (And.right (And.right (And.right (And.right (And.right (And.right (And.right (by assumption))))))))))) | (exact Nat.ne_of_lt (And.right (And.right (And.right (And.right (And.right (And.right (And.right (And.right (by assumption)))))))))) | (exact Nat.ne_of_lt (And.left (And.right (And.right (And.right (And.right (And.right (And.right (And.right (And.right (And.right (by assumption)))))))))))) | (exact Nat.ne_of_lt (And.right (And.right (And.right (And.right (And.right (And.right (And.right (And.right (And.right (by assumption))))))))))))
  trivial
theorem ints_map : ∀ (vs : List Value) (f : Nat → Int), (∀ (j : Nat) (v : Value), vs[j]? = some v → ∃ t, v = .int (f j) t) → IntsAre vs ((List.range vs.length).map f)
  | [], f, _ => IntsAre.nil
  | v :: r, f, h => by
    rw [List.length_cons, List.range_succ_eq_map, List.map_cons, List.map_map]
    obtain ⟨t, ht⟩ := h 0 v rfl
    subst ht
    exact IntsAre.cons _ _ (ints_map r (f ∘ Nat.succ) fun j v hj => h (j + 1) v hj)
theorem fits_one {i : Int} (h0 : -10000 ≤ i) (h1 : i ≤ 10000) : Builtin.Range.rangeFitsLong i = true := by
  unfold Builtin.Range.rangeFitsLong
  rw [decide_eq_true (by omega), decide_eq_true (by omega)]
  rfl
theorem small2 {la : Nat} (hl : la ≤ 1000) (hsz : Builtin.Range.rangeSize 2 (2 * ((la : Int) + 1)) 2 = la) : Builtin.Range.small 2 (2 * ((la : Int) + 1)) 2 = true := by
  unfold Builtin.Range.small
  rw [hsz, fits_one (by omega) (by omega), fits_one (i := 2 * ((la : Int) + 1)) (by omega) (by omega), fits_one (i := (la : Int)) (by omega) (by omega), if_pos (by decide), fits_one (by omega) (by omega)]
  simp
theorem lev_list {prog : Program} {w : World} {A : Around} {E : Value → Shared → Prop} {s : Shared} {h₀ : Heap} {L r : Addr} {m : Str → Option Value} {news : List (Addr × Obj)} {la : Nat} {t₀ u₀ v₀ : Tok} {Q : Value → Shared → Prop}
    (hh : A.handled = none) (F : Fr h₀ L s.heap m) (N : News h₀ L s.heap news) (hr : IsRange s.heap r 2 (2 * ((la : Int) + 1)) 2 t₀ u₀ v₀) (hl : la ≤ 1000)
    (h : ∀ D us c h' tk, Fr h₀ L h' m → News h₀ L h' ((D, listOf (List.toArray us) c) :: news) → (∀ p ∈ news, p.1 < D) → IntsAre us ((List.range la).map fun (j : Nat) => (2 : Int) + (j : Int) * 2) → Q (.ref D) { s with heap := h', toks := tk }) :
    wpAny (model prog w) A (call (.type "list") [.ref r]) Q E s := by
  have hsz : Builtin.Range.rangeSize 2 (2 * ((la : Int) + 1)) 2 = la := by
    unfold Builtin.Range.rangeSize
    rw [if_pos (by decide)]
    split <;> omega
  refine call_list_range hh hr (small2 hl hsz) hsz (by omega) fun h' tk acc c hk hD hI => ?_
  have hD' : h'.get? s.heap.objs.size = some (listOf (List.toArray acc.toList) c) := by
    rw [Array.toArray_toList]
    exact hD
  have e : acc.toList.length = la := by rw [Array.length_toList]; exact hI.1
  refine h _ acc.toList c h' tk (F.keeps hk) (news_pushed F N hk hD' rfl) (fun p hp => Heap.lt_size (N p hp).1) ?_
  rw [← e]
  exact ints_map _ _ fun j v hj => hI.2 j v (by rw [← hj, Array.getElem?_toList])
theorem rows_L2lev5_3 : True := by
  k_with "call type:list" => (k_here; (with_reducible show wpAny _ _ (call (Value.type _) [Value.ref _]) _ _ _); (rename IsRange _ _ _ _ _ _ _ _ => rgXRow); (with_unfolding_all refine' lev_list ?k0 ?k1 ?k2 rgXRow ?k4 ?_); (case k0 => rfl); (case k1 => k_asm); (case k2 => k_asm); (case k4 => omega); intro DqRow vsqRow cqRow hqRow tkqRow FqRow NqRow l1Row hIqRow; (try k_lt l1Row); (try k_sweep))
  trivial
theorem scS0 {x y : Str} (h : (x == y) = true) : (0 : Int) = scS x y := by unfold scS; rw [if_pos (beq_iff_eq.mp h)]
theorem scS1 {x y : Str} (h : (x == y) = false) (h2 : (Txt.lower x == Txt.lower y) = true) : (1 : Int) = scS x y := by unfold scS; rw [if_neg (by simpa using h), if_pos (beq_iff_eq.mp h2)]
theorem scS2 {x y : Str} (h : (x == y) = false) (h2 : (Txt.lower x == Txt.lower y) = false) : (2 : Int) = scS x y := by unfold scS; rw [if_neg (by simpa using h), if_neg (by simpa using h2)]
theorem news_in {g h : Heap} {L : Addr} {x : Addr × Obj} {news own : List (Addr × Obj)} (N : News g L h (x :: (news ++ own))) : News g L h news := fun p hp => N p (List.mem_cons_of_mem _ (List.mem_append_left _ hp))
theorem lev_c5 (w : World) (news : CbLed) (loose : List Str) (mean : ExcName → Option Value) (mg mb : Str → Option Value) (p : Program) (a b : Str) (m : Int) (ta tb tm : CbTok) (ha : 0 < a.length) (hab : a.length ≤ b.length) (hb : b.length ≤ 40)
  (rest : List Stmt) (dp un : Nat) (gd : Option (List Code)) (cn : Str) (sc : Scope) (a' : CbAddr) (ccd : CbVal) (cl : List (Str × CbAddr)) (outer : List Env) (base g h : Heap) (L L' : CbAddr) (mm : Str → Option Value) (s : Shared) (tk0 : Nat)
  (Q : Flow → Shared → Prop) (E : Value → Shared → Prop)
  (B : Below (ktrTop dp un gd cn sc L a' ccd cl outer) base (envX cn sc L a' ccd cl :: outer) g) (hdp : dp + 100 < recursionLimit) (hun : un + 500 < cLine)
  (N : News g L' h news) (X : (Mine.hd.heap_39 w.params).In g) (T : Top p loose mean mg mb g)
  (hE : PassesOwn (model PySem.Challenge.rw_rw0047_02.prog w) ((ktrTop dp un gd cn sc L a' ccd cl outer).deeper (envOf (Str.ofString "_levenshtein_distance") levS.1 L' 28 (.ref 27))) (envOf (Str.ofString "_levenshtein_distance") levS.1 L' 28 (.ref 27)) E)
  (F : Fr g L' h (fun y => if y = Str.ofString "a" then some (Value.str a ta) else if y = Str.ofString "b" then some (Value.str b tb) else if y = Str.ofString "max_cost" then some (Value.int m tm) else mm y))
  (hret : ∀ (v : Int) t h' tk' m', LevOk a b m v → Fr g L' h' m' → News g L' h' news → Q (.ret (.int v t)) { s with heap := h', toks := tk' }) :
  wpAny (model PySem.Challenge.rw_rw0047_02.prog w) ((ktrTop dp un gd cn sc L a' ccd cl outer).deeper (envOf (Str.ofString "_levenshtein_distance") levS.1 L' 28 (.ref 27)))
    (execs ((levB.1.drop 13).take 4) (envOf (Str.ofString "_levenshtein_distance") levS.1 L' 28 (.ref 27))) Q E {s with heap := h, toks := tk0} := by
  revert X; k_fill; intro X
  dsimp only [levB, levS, List.take, List.drop, List.cons_append, List.nil_append] at *
  k_with "pyIter ref" => (k_of "bindex" => k_state (fun pre row result => row.length = a.length ∧ Out (cs a) (cs b) pre.length row result) "row" "result")
  k_with "pyIter ref" => (k_of "index" => k_state (fun pre row distance result minimum => row.length = a.length ∧ Inn (cs a) (cs b) kPre.length pre.length row distance result minimum) "row" "distance" "result" "minimum")
  k_with "call ref" => k_call_by "_substitution_cost" scS (fun (x y : Str) => x.length ≤ 1 ∧ y.length ≤ 1)
  k_with "tree" => first | exact scS0 (by assumption) | exact scS1 (by assumption) (by assumption) | exact scS2 (by assumption) (by assumption)
  k_with "state" => first | exact out_start | exact inn_start (by assumption) (by assumption) (by assumption) (by assumption) _ | exact inn_turn1 (by assumption) (by assumption) (by assumption) (by assumption) (by assumption) (by assumption) rfl (by assumption) | exact inn_turn2 (by assumption) (by assumption) (by assumption) (by assumption) (by assumption) (by assumption) rfl (by assumption) | exact out_turn (by assumption) (by assumption) (by assumption)
  k_steps
  all_goals first
    | exact hret _ _ _ _ _ (lev_cut (by assumption) (by assumption) (by assumption) (by assumption)) (by assumption) (news_in (by assumption))
    | exact hret _ _ _ _ _ (lev_done (by omega) (by assumption)) (by assumption) (News.tail' (by assumption))
end
section
theorem calm_L2lev : True ∧ True := by
  w_top off
  k_with_none
  first
    | (walk1; fail)
    | exact ⟨trivial, trivial⟩
theorem rows_L2lev_ne : True := by
  k_with "ne" => (refine neN ?_; (try dsimp only); first | (exact Nat.ne_of_gt (And.left (by assumption))) | (exact Nat.ne_of_gt (And.left (And.right (by assumption)))) | (exact Nat.ne_of_gt (And.right (by assumption))) | (exact Nat.ne_of_gt (And.left (And.right (And.right (by assumption))))) | (exact Nat.ne_of_gt (And.right (And.right (by assumption)))) | (exact Nat.ne_of_gt (And.left (And.right (And.right (And.right (by assumption)))))) | (exact Nat.ne_of_gt (And.right (And.right (And.right (by assumption))))) | (exact Nat.ne_of_gt (And.left (And.right (And.right (And.right (And.right (by assumption))))))) | (exact Nat.ne_of_gt (And.right (And.right (And.right (And.right (by assumption)))))) | (exact Nat.ne_of_gt (And.left (And.right (And.right (And.right (And.right (And.right (by assumption)))))))) | (exact Nat.ne_of_gt (And.right (And.right (And.right (And.right (And.right (by assumption))))))) | (exact Nat.ne_of_gt (And.left (And.right (And.right (And.right (And.right (And.right (And.right (by assumption))))))))) | (exact Nat.ne_of_gt (And.right (And.right (And.right (And.right (And.right (And.right (by assumption)))))))) | (exact Nat.ne_of_gt (And.left (And.right (And.right (And.right (And.right (And.right (And.right (And.right (by assumption)))))))))) | (exact Nat.ne_of_gt (And.right (And.right (And.right (And.right (And.right (And.right (And.right (by assumption))))))))) | (exact Nat.ne_of_gt (And.left (And.right (And.right (And.right (And.right (And.right (And.right (And.right (And.right (by assumption))))))))))) | (exact Nat.ne_of_gt (And.right (And.right (And.right (And.right (And.right (And.right (And.right (And.right (by assumption)))))))))) | (exact Nat.ne_of_gt (And.left (And.right (And.right (And.right (And.right (And.right (And.right (And.right (And.right (And.right (by assumption)))))))))))) | (exact Nat.ne_of_gt (And.right (And.right (And.right (And.right (And.right (And.right (And.right (And.right (And.right (by assumption))))))))))) | (exact Nat.ne_of_lt (And.left (by assumption))) | (exact Nat.ne_of_lt (And.left (And.right (by assumption)))) | (exact Nat.ne_of_lt (And.right (by assumption))) | (exact Nat.ne_of_lt (And.left (And.right (And.right (by assumption))))) | (exact Nat.ne_of_lt (And.right (And.right (by assumption)))) | (exact Nat.ne_of_lt (And.left (And.right (And.right (And.right (by assumption)))))) | (exact Nat.ne_of_lt (And.right (And.right (And.right (by assumption))))) | (exact Nat.ne_of_lt (And.left (And.right (And.right (And.right (And.right (by assumption))))))) | (exact Nat.ne_of_lt (And.right (And.right (And.right (And.right (by assumption)))))) | (exact Nat.ne_of_lt (And.left (And.right (And.right (And.right (And.right (And.right (by assumption)))))))) | (exact Nat.ne_of_lt (And.right (And.right (And.right (And.right (And.right (by assumption))))))) | (exact Nat.ne_of_lt (And.left (And.right (And.right (And.right (And.right (And.right (And.right (by assumption))))))))) | (exact Nat.ne_of_lt (And.right (And.right (And.right (And.right (And.right (And.right (by assumption)))))))) | (exact Nat.ne_of_lt (And.left (And.right (And.right (And.right (And.right (And.right (And.right (And.right (by assumption)))))))))) | (exact Nat.ne_of_lt (And.right (And.right (And.right (And.right (And.right (And.right (And.right (by assumption))))))))) | (exact Nat.ne_of_lt (And.left (And.right (And.right (And.right (And.right (And.right (And.right (And.right (And.right (by assumption))))))))))) | (exact Nat.ne_of_lt (And.right (And.right (And.right (And.right (And.right (And.right (And.right (And.right (by assumption)))))))))) | (exact Nat.ne_of_lt (And.left (And.right (And.right (And.right (And.right (And.right (And.right (And.right (And.right (And.right (by assumption)))))))))))) | (exact Nat.ne_of_lt (And.right (And.right (And.right (And.right (And.right (And.right (And.right (And.right (And.right (by assumption))))))))))))
  trivial
theorem cutTo_cs (x : Str) (q : Int) : cs (cutTo x q) = (cs x).take (x.length + q).toNat := by simp [cs, cutTo]
theorem cutTo_len (x : Str) (q : Int) : (cutTo x q).length ≤ x.length := by
  rw [← cs_len, cutTo_cs, List.length_take, cs_len]; omega
theorem lev_body (w : World) (news : CbLed) (loose : List Str) (mean : ExcName → Option Value) (mg mb : Str → Option Value) (p : Program) (a b : Str) (m : Int) (ta tb tm : CbTok) (ha : a.length ≤ 40) (hb : b.length ≤ 40)
  (rest : List Stmt) (dp un : Nat) (gd : Option (List Code)) (cn : Str) (sc : Scope) (a' : CbAddr) (ccd : CbVal) (cl : List (Str × CbAddr)) (outer : List Env) (base g h : Heap) (L L' : CbAddr) (mm : Str → Option Value) (s : Shared) (tk0 : Nat)
  (Q : Flow → Shared → Prop) (E : Value → Shared → Prop)
  (B : Below (ktrTop dp un gd cn sc L a' ccd cl outer) base (envX cn sc L a' ccd cl :: outer) g) (hdp : dp + 100 < recursionLimit) (hun : un + 500 < cLine)
  (N : News g L' h news) (X : (Mine.hd.heap_39 w.params).In g) (T : Top p loose mean mg mb g)
  (hE : PassesOwn (model PySem.Challenge.rw_rw0047_02.prog w) ((ktrTop dp un gd cn sc L a' ccd cl outer).deeper (envOf (Str.ofString "_levenshtein_distance") levS.1 L' 28 (.ref 27))) (envOf (Str.ofString "_levenshtein_distance") levS.1 L' 28 (.ref 27)) E)
  (F : Fr g L' h (fun y => if y = Str.ofString "a" then some (Value.str a ta) else if y = Str.ofString "b" then some (Value.str b tb) else if y = Str.ofString "max_cost" then some (Value.int m tm) else mm y))
  (hret : ∀ (v : Int) t h' tk' m', LevOk a b m v → Fr g L' h' m' → News g L' h' news → Q (.ret (.int v t)) { s with heap := h', toks := tk' }) :
  wpAny (model PySem.Challenge.rw_rw0047_02.prog w) ((ktrTop dp un gd cn sc L a' ccd cl outer).deeper (envOf (Str.ofString "_levenshtein_distance") levS.1 L' 28 (.ref 27)))
    (execs (levB.1) (envOf (Str.ofString "_levenshtein_distance") levS.1 L' 28 (.ref 27))) Q E {s with heap := h, toks := tk0} := by
  have hb1 : levB.1 = levB.1.take 3 ++ levB.1.drop 3 := rfl
  have hb2 : levB.1.drop 3 = (levB.1.drop 3).take 4 ++ levB.1.drop 7 := rfl
  have hb3 : levB.1.drop 7 = (levB.1.drop 7).take 2 ++ levB.1.drop 9 := rfl
  have hb4 : levB.1.drop 9 = (levB.1.drop 9).take 4 ++ levB.1.drop 13 := rfl
  have hb5 : levB.1.drop 13 = (levB.1.drop 13).take 4 := rfl
  rw [hb1]
  refine lev_c1 _ _ _ _ _ _ _ a b m ta tb tm ha hb (levB.1.drop 3) _ _ _ _ _ _ _ _ _ _ _ _ _ _ _ _ _ _ _ (by assumption) (by omega) (by omega) (by assumption) (by assumption) (by assumption) (by first | assumption | passes_own) F hret fun h1 tk1 k tp m1 F1 N1 k0 k1 k2 hp => ?_
  have sa : cs (Txt.slice a (some k) none) = (cs a).drop k.toNat := slice_from k0 k1
  have sb : cs (Txt.slice b (some k) none) = (cs b).drop k.toNat := slice_from k0 k2
  have la : (Txt.slice a (some k) none).length ≤ 40 := by rw [← cs_len, sa, List.length_drop, cs_len]; omega
  have lb : (Txt.slice b (some k) none).length ≤ 40 := by rw [← cs_len, sb, List.length_drop, cs_len]; omega
  rw [hb2]
  refine lev_c2 _ _ _ _ _ _ _ a b m k ta tb tm tp ha hb k0 k1 k2 (levB.1.drop 7) _ _ _ _ _ _ _ _ _ _ _ _ _ _ _ _ _ _ _ (by assumption) (by omega) (by omega) (by assumption) (by assumption) (by assumption) (by first | assumption | passes_own) F1 fun h2 tk2 q ta2 tb2 tq m2 F2 N2 q0 q1 q2 hq => ?_
  rw [hb3]
  refine lev_c3 _ _ _ _ _ _ _ (Txt.slice a (some k) none) (Txt.slice b (some k) none) m q ta2 tb2 tm tq la lb q0 q1 q2 (levB.1.drop 9) _ _ _ _ _ _ _ _ _ _ _ _ _ _ _ _ _ _ _ (by assumption) (by omega) (by omega) (by assumption) (by assumption) (by assumption) (by first | assumption | passes_own) F2 fun h3 tk3 a3 b3 ta3 tb3 m3 F3 N3 ea eb => ?_
  have la3 : a3.length ≤ 40 := by rw [ea]; exact Nat.le_trans (cutTo_len _ _) la
  have lb3 : b3.length ≤ 40 := by rw [eb]; exact Nat.le_trans (cutTo_len _ _) lb
  have trim : ∀ v, LevOk a3 b3 m v → LevOk a b m v := fun v hv => lev_trim k0 hp sa sb hq (by rw [ea, cutTo_cs]) (by rw [eb, cutTo_cs]) hv
  rw [hb4]
  refine lev_c4 _ _ _ _ _ _ _ a3 b3 m ta3 tb3 tm la3 lb3 (levB.1.drop 13) _ _ _ _ _ _ _ _ _ _ _ _ _ _ _ _ _ _ _ (by assumption) (by omega) (by omega) (by assumption) (by assumption) (by assumption) (by first | assumption | passes_own) F3 (fun v t h' tk' m' hv hF hN => hret v t h' tk' m' (trim v hv) hF hN) fun h4 tk4 a4 b4 ta4 tb4 m4 F4 N4 e4 l0 l1 l2 => ?_
  rw [hb5]
  exact lev_c5 _ _ _ _ _ _ _ a4 b4 m ta4 tb4 tm l0 l1 l2 [] _ _ _ _ _ _ _ _ _ _ _ _ _ _ _ _ _ _ _ (by assumption) (by omega) (by omega) (by assumption) (by assumption) (by assumption) (by first | assumption | passes_own) F4 (fun v t h' tk' m' hv hF hN => hret v t h' tk' m' (trim v (lev_swap e4 hv)) hF hN)
theorem lev_walk (w : World) (news : CbLed) (loose : List Str) (mean : ExcName → Option Value) (mg mb : Str → Option Value) (p : Program) (a b : Str) (m : Int) (ta tb tm : CbTok) (ha : a.length ≤ 40) (hb : b.length ≤ 40)
  (dp un : Nat) (gd : Option (List Code)) (cn : Str) (sc : Scope) (a' : CbAddr) (ccd : CbVal) (cl : List (Str × CbAddr)) (outer : List Env) (A₀ : Around) (base h₀ : Heap) (L : CbAddr) (mm : Str → Option Value) (s : Shared)
  (Q E : Value → Shared → Prop)
  (B : Below A₀ base outer h₀) (F : Fr h₀ L s.heap mm) (X : (Mine.hd.heap_39 w.params).In h₀) (N : News h₀ L s.heap news) (T : Top p loose mean mg mb h₀) (hk : sc.kind = .function) (hdp : dp + 150 < recursionLimit) (hun : un + 800 < cLine)
  (hret : ∀ (v : Int) t h' tk', LevOk a b m v → Fr h₀ L h' mm → News h₀ L h' news → Q (.int v t) { s with heap := h', toks := tk' }) :
  wpAny (model PySem.Challenge.rw_rw0047_02.prog w) (ktrTop dp un gd cn sc L a' ccd cl outer) (call (.ref 28) [Value.str a ta, Value.str b tb, Value.int m tm]) Q E s := by
  revert X; k_fill; intro X
  refine wpAny_call ?_
  k_dflt cell_enter
  with_unfolding_all refine' lev_body _ _ _ _ _ _ _ a b m ta tb tm ha hb [] _ _ _ _ _ _ _ _ _ _ _ _ _ _ _ _ _ _ _ (by assumption) (by omega) (by omega) (by assumption) (by assumption) (by assumption) (by first | assumption | passes_own) (fr3 (by assumption) (by with_unfolding_all rfl) (by with_unfolding_all rfl) (by with_unfolding_all rfl)) ?_
  intro v t h' tk' m' hl hF hN
  k_steps
  exact hret _ _ _ _ hl (by assumption) (by assumption)
end
section
theorem calm_L2small1p : True ∧ True := by
  w_top off
  k_with_none
  first
    | (walk1; fail)
    | exact ⟨trivial, trivial⟩
/-- the quotation mark -/
theorem str_q : Str.ofString "\"" = ⟨#[34]⟩ := by decide +kernel
/-- a sign as a name in a reply 257 wants it -/
noncomputable def dblC (c : Nat) : Str := if c = 34 then ⟨#[34, 34]⟩ else ⟨#[c]⟩
/-- a sign as a word of a netrc file wants it -/
noncomputable def escC (c : Nat) : Str := if c = 34 ∨ c = 92 then ⟨#[92, c]⟩ else ⟨#[c]⟩
theorem escC_len (c : Nat) : (escC c).length ≤ 2 := by
  unfold escC; split
  · show 2 ≤ 2; omega
  · exact (by omega : 1 ≤ 2)
noncomputable def dblS (x : Str) : Str := ⟨((cs x).flatMap fun c => cs (dblC c)).toArray⟩
noncomputable def escS (x : Str) : Str := ⟨((cs x).flatMap fun c => cs (escC c)).toArray⟩
theorem sum_le2 {f : Nat → Str} (hf : ∀ c, (f c).length ≤ 2) : ∀ l : List Nat, ((l.map f).map (·.length)).sum + (l.map f).length ≤ 3 * l.length
  | [] => by simp
  | c :: l => by
    have := sum_le2 hf l
    have := hf c
    simp only [List.map_cons, List.sum_cons, List.length_cons]
    omega
theorem join_dbl (x : Str) : Txt.join (Str.ofString "") ((cs x).map dblC) = dblS x := by
  apply str_ext; rw [cs_joinE, List.flatMap_map]; simp [dblS, cs]
theorem join_esc (x : Str) : Txt.join (Str.ofString "") ((cs x).map escC) = escS x := by
  apply str_ext; rw [cs_joinE, List.flatMap_map]; simp [escS, cs]
theorem dbl1 {c : Nat} (h : ((⟨#[c]⟩ : Str) == Str.ofString "\"") = true) : (⟨#[c]⟩ : Str) ++ ⟨#[c]⟩ = dblC c := by
  rw [str_q] at h
  have h := beq_iff_eq.mp h
  have : c = 34 := by injection h with h; simpa using h
  subst this
  rfl
theorem str_qb : cs (Str.ofString "\"\\") = [34, 92] := by decide +kernel
theorem str_b : Str.ofString "\\" = ⟨#[92]⟩ := by decide +kernel
theorem esc1 {c : Nat} (h : ((Builtin.Str.occurrences (Str.ofString "\"\\") ⟨#[c]⟩ 0 (Str.ofString "\"\\").length 1).isEmpty) = false) : Str.ofString "\\" ++ ⟨#[c]⟩ = escC c := by
  have h := congrArg (! ·) h
  rw [StrLaws.found_one, Bool.not_false, decide_eq_true_eq] at h
  have h : c ∈ cs (Str.ofString "\"\\") := h
  rw [str_qb] at h
  have : c = 34 ∨ c = 92 := by simpa using h
  unfold escC
  rw [if_pos this, str_b]
  rfl
theorem esc2 {c : Nat} (h : ((Builtin.Str.occurrences (Str.ofString "\"\\") ⟨#[c]⟩ 0 (Str.ofString "\"\\").length 1).isEmpty) = true) : (⟨#[c]⟩ : Str) = escC c := by
  have h := congrArg (! ·) h
  rw [StrLaws.found_one, Bool.not_true, decide_eq_false_iff_not] at h
  have h : ¬ c ∈ cs (Str.ofString "\"\\") := h
  rw [str_qb] at h
  have : ¬ (c = 34 ∨ c = 92) := by simpa using h
  unfold escC
  rw [if_neg this]
theorem leaf_str {s : Shared} {x y : Str} {t : Tok} {h' : Heap} {tk : Nat} (hh : ∀ b o, s.heap.get? b = some o → h'.get? b = some o) (e : x = y) : (∃ t', Value.str x t = Value.str y t') ∧ Keeps s { s with heap := h', toks := tk } :=
  ⟨⟨t, by rw [e]⟩, _, _, rfl, hh⟩
theorem q_of {Q : Value → Shared → Prop} {d e : Str} {t : Tok} {s : Shared} (h : Q (.str e t) s) (he : d = e) : Q (.str d t) s := he ▸ h
end
section
theorem calm_L2p257 : True ∧ True := by
  w_top off
  k_with_none
  first
    | (walk1; fail)
    | exact ⟨trivial, trivial⟩
theorem rows_L2p257_ne : True := by
  k_with "ne" => (refine neN ?_; (try dsimp only); first | (exact Nat.ne_of_gt (And.left (by assumption))) | (exact Nat.ne_of_gt (And.left (And.right (by assumption)))) | (exact Nat.ne_of_gt (And.right (by assumption))) | (exact Nat.ne_of_gt (And.left (And.right (And.right (by assumption))))) | (exact Nat.ne_of_gt (And.right (And.right (by assumption)))) | (exact Nat.ne_of_gt (And.left (And.right (And.right (And.right (by assumption)))))) | (exact Nat.ne_of_gt (And.right (And.right (And.right (by assumption))))) | (exact Nat.ne_of_gt (And.left (And.right (And.right (And.right (And.right (by assumption))))))) | (exact Nat.ne_of_gt (And.right (And.right (And.right (And.right (by assumption)))))) | (exact Nat.ne_of_gt (And.left (And.right (And.right (And.right (And.right (And.right (by assumption)))))))) | (exact Nat.ne_of_gt (And.right (And.right (And.right (And.right (And.right (by assumption))))))) | (exact Nat.ne_of_gt (And.left (And.right (And.right (And.right (And.right (And.right (And.right (by assumption))))))))) | (exact Nat.ne_of_gt (And.right (And.right (And.right (And.right (And.right (And.right (by assumption)))))))) | (exact Nat.ne_of_gt (And.left (And.right (And.right (And.right (And.right (And.right (And.right (And.right (by assumption)))))))))) | (exact Nat.ne_of_gt (And.right (And.right (And.right (And.right (And.right (And.right (And.right (by assumption))))))))) | (exact Nat.ne_of_gt (And.left (And.right (And.right (And.right (And.right (And.right (And.right (And.right (And.right (by assumption))))))))))) | (exact Nat.ne_of_gt (And.right (And.right (And.right (And.right (And.right (And.right (And.right (And.right (by assumption)))))))))) | (exact Nat.ne_of_gt (And.left (And.right (And.right (And.right (And.right (And.right (And.right (And.right (And.right (And.right (by assumption)))))))))))) | (exact Nat.ne_of_gt (And.right (And.right (And.right (And.right (And.right (And.right (And.right (And.right (And.right (by assumption))))))))))) | (exact Nat.ne_of_lt (And.left (by assumption))) | (exact Nat.ne_of_lt (And.left (And.right (by assumption)))) | (exact Nat.ne_of_lt (And.right (by assumption))) | (exact Nat.ne_of_lt (And.left (And.right (And.right (by assumption))))) | (exact Nat.ne_of_lt (And.right (And.right (by assumption)))) | (exact Nat.ne_of_lt (And.left (And.right (And.right (And.right (by assumption)))))) | (exact Nat.ne_of_lt (And.right (And.right (And.right (by assumption))))) | (exact Nat.ne_of_lt (And.left (And.right (And.right (And.right (And.right (by assumption))))))) | (exact Nat.ne_of_lt (And.right (And.right (And.right (And.right (by assumption)))))) | (exact Nat.ne_of_lt (And.left (And.right (And.right (And.right (And.right (And.right (by assumption)))))))) | (exact Nat.ne_of_lt (And.right (And.right (And.right (And.right (And.right (by assumption))))))) | (exact Nat.ne_of_lt (And.left (And.right (And.right (And.right (And.right (And.right (And.right (by assumption))))))))) | (exact Nat.ne_of_lt (And.right (And.right (And.right (And.right (And.right (And.right (by assumption)))))))) | (exact Nat.ne_of_lt (And.left (And.right (And.right (And.right (And.right (And.right (And.right (And.right (by assumption)))))))))) | (exact Nat.ne_of_lt (And.right (And.right (And.right (And.right (And.right (And.right (And.right (by assumption))))))))) | (exact Nat.ne_of_lt (And.left (And.right (And.right (And.right (And.right (And.right (And.right (And.right (And.right (by assumption))))))))))) | (exact Nat.ne_of_lt (And.right (And.right (And.right (And.right (And.right (And.right (And.right (And.right (by assumption)))))))))) | (exact Nat.ne_of_lt (And.left (And.right (And.right (And.right (And.right (And.right (And.right (And.right (And.right (And.right (by assumption)))))))))))) | (exact Nat.ne_of_lt (And.right (And.right (And.right (And.right (And.right (And.right (And.right (And.right (And.right (by assumption))))))))))))
  trivial
noncomputable def p257go : List Nat → List Nat
 | [] => []
 | [c] => if c = 34 then [] else [c]
 | c :: d :: r => if c = 34 then (if d = 34 then 34 :: p257go r else []) else c :: p257go (d :: r)
theorem go_other {c : Nat} {r : List Nat} (h : c ≠ 34) : p257go (c :: r) = c :: p257go r := by
  cases r with
  | nil => simp [p257go, h]
  | cons d r => rw [p257go, if_neg h]
theorem go_qq (r : List Nat) : p257go (34 :: 34 :: r) = 34 :: p257go r := by simp [p257go]
theorem go_q {d : Nat} (r : List Nat) (h : d ≠ 34) : p257go (34 :: d :: r) = [] := by simp [p257go, h]
/-- the name that a reply tells -/
noncomputable def p257 (resp : Str) : Str := ⟨(p257go ((cs resp).drop 5)).toArray⟩
noncomputable def p257J (resp : Str) (i : Int) (d : Str) : Prop := cs d ++ p257go ((cs resp).drop i.toNat) = p257go ((cs resp).drop 5)
theorem p257_eq {resp d : Str} {i : Int} (h : p257J resp i d) (e : p257go ((cs resp).drop i.toNat) = []) : d = p257 resp := by
  apply str_ext
  unfold p257J at h
  rw [e, List.append_nil] at h
  rw [h]
  simp [p257, cs]
theorem one_eq {x : Str} {i : Int} {c : Nat} (h0 : 0 ≤ i) (h1 : i < x.length) (h : (Txt.item x i == ⟨#[c]⟩) = true) : (cs x).drop i.toNat = c :: (cs x).drop (i + 1).toNat := by
  rw [item_cs h0 h1] at h
  have h := beq_iff_eq.mp h
  have e : (cs x).getD i.toNat 0 = c := by injection h with h; simpa using h
  rw [drop_one (by rw [cs_len]; omega), e]
  congr 2
  omega
theorem one_ne {x : Str} {i : Int} {c : Nat} (h0 : 0 ≤ i) (h1 : i < x.length) (h : (Txt.item x i == ⟨#[c]⟩) = false) : (cs x).drop i.toNat = (cs x).getD i.toNat 0 :: (cs x).drop (i + 1).toNat ∧ (cs x).getD i.toNat 0 ≠ c := by
  rw [item_cs h0 h1] at h
  have h : ¬ (⟨#[(cs x).getD i.toNat 0]⟩ : Str) = ⟨#[c]⟩ := by simpa using h
  refine ⟨?_, fun e => h (by rw [e])⟩
  rw [drop_one (by rw [cs_len]; omega)]
  congr 2
  omega
theorem p257_start {resp : Str} (h3 : ((cs resp).take 5) = [50,53,55,32,34]) :  5 ≤ (5:Int) ∧ (5:Int) ≤ resp.length ∧ ((Str.ofString "").length : Int) ≤ 5 ∧ p257J resp 5 (Str.ofString "") := by
  have := congrArg List.length h3
  rw [List.length_take, cs_len] at this
  have h5 : [50,53,55,32,34].length = 5 := rfl
  rw [h5] at this
  refine ⟨by omega, by omega, by decide, rfl⟩
theorem p257_ha {resp : Str} (h3 : ((cs resp).take 5) = [50,53,55,32,34]) : (Txt.slice resp none (some 3) != Str.ofString "257") = false := by
  have hl := (p257_start h3).2.1
  have e : Txt.slice resp none (some 3) = Str.ofString "257" := by
    apply str_ext
    rw [slice_to (by omega) (by omega)]
    have : (cs resp).take 3 = ((cs resp).take 5).take 3 := by rw [List.take_take]; rfl
    show (cs resp).take 3 = _
    rw [this, h3]
    decide +kernel
  rw [e]
  simp
theorem p257_hb {resp : Str} (h3 : ((cs resp).take 5) = [50,53,55,32,34]) : (Txt.slice resp (some 3) (some 5) != Str.ofString " \"") = false := by
  have hl := (p257_start h3).2.1
  have e : Txt.slice resp (some 3) (some 5) = Str.ofString " \"" := by
    rw [beq_iff_eq.mp (slice_closesL (x := resp) (i := 3) (j := 5) (by omega) (by omega) (by omega))]
    have : ((cs resp).drop 3).take 2 = ((cs resp).take 5).drop 3 := by rw [List.drop_take]
    show (⟨(((cs resp).drop 3).take 2).toArray⟩ : Str) = _
    rw [this, h3]
    decide +kernel
  rw [e]
  simp
theorem p257_t1 {resp d : Str} {i : Int} (h5 : 5 ≤ i) (hl : (d.length : Int) ≤ i) (hJ : p257J resp i d) (h1 : i < resp.length) (hq : (Txt.item resp i == Str.ofString "\"") = true) (h2 : ¬ (resp.length : Int) ≤ i + 1) (hq2 : (Txt.item resp (i + 1) != Str.ofString "\"") = false) :
    5 ≤ i + 1 + 1 ∧ i + 1 + 1 ≤ (resp.length : Int) ∧ ((d ++ Txt.item resp i).length : Int) ≤ i + 1 + 1 ∧ p257J resp (i + 1 + 1) (d ++ Txt.item resp i) := by
  rw [str_q] at hq hq2
  have hq2 : (Txt.item resp (i + 1) == ⟨#[34]⟩) = true := by simpa using hq2
  have e1 := one_eq (by omega) h1 hq
  have e2 := one_eq (by omega) (by omega) hq2
  have ei : Txt.item resp i = ⟨#[34]⟩ := beq_iff_eq.mp hq
  refine ⟨by omega, by omega, ?_, ?_⟩
  · rw [ei, Str.length_append]; show ((d.length + 1 : Nat) : Int) ≤ _; omega
  · unfold p257J at hJ ⊢
    rw [e1, e2, go_qq] at hJ
    rw [cs_append, ei, ← hJ]
    simp [cs]
theorem p257_t2 {resp d : Str} {i : Int} (h5 : 5 ≤ i) (hl : (d.length : Int) ≤ i) (hJ : p257J resp i d) (h1 : i < resp.length) (hq : (Txt.item resp i == Str.ofString "\"") = false) :
    5 ≤ i + 1 ∧ i + 1 ≤ (resp.length : Int) ∧ ((d ++ Txt.item resp i).length : Int) ≤ i + 1 ∧ p257J resp (i + 1) (d ++ Txt.item resp i) := by
  rw [str_q] at hq
  obtain ⟨e1, e2⟩ := one_ne (by omega) h1 hq
  have ei : Txt.item resp i = ⟨#[(cs resp).getD i.toNat 0]⟩ := item_cs (by omega) h1
  refine ⟨by omega, by omega, ?_, ?_⟩
  · rw [ei, Str.length_append]; show ((d.length + 1 : Nat) : Int) ≤ _; omega
  · unfold p257J at hJ ⊢
    rw [e1, go_other e2] at hJ
    rw [cs_append, ei, ← hJ]
    simp [cs]
theorem p257_e1 {resp d : Str} {i : Int} (h5 : 5 ≤ i) (hJ : p257J resp i d) (h1 : i < resp.length) (hq : (Txt.item resp i == Str.ofString "\"") = true) (h2 : (resp.length : Int) ≤ i + 1) : d = p257 resp := by
  rw [str_q] at hq
  refine p257_eq hJ ?_
  rw [one_eq (by omega) h1 hq, List.drop_of_length_le (by rw [cs_len]; omega)]
  rfl
theorem p257_e2 {resp d : Str} {i : Int} (h5 : 5 ≤ i) (hJ : p257J resp i d) (h1 : i < resp.length) (hq : (Txt.item resp i == Str.ofString "\"") = true) (h2 : ¬ (resp.length : Int) ≤ i + 1) (hq2 : (Txt.item resp (i + 1) != Str.ofString "\"") = true) : d = p257 resp := by
  rw [str_q] at hq hq2
  have hq2 : (Txt.item resp (i + 1) == ⟨#[34]⟩) = false := by simpa using hq2
  obtain ⟨e1, e2⟩ := one_ne (by omega) (by omega) hq2
  refine p257_eq hJ ?_
  rw [one_eq (by omega) h1 hq, e1, go_q _ e2]
theorem p257_e3 {resp d : Str} {i : Int} (hJ : p257J resp i d) (h1 : ¬ i < resp.length) : d = p257 resp := by
  refine p257_eq hJ ?_
  rw [List.drop_of_length_le (by rw [cs_len]; omega)]
  rfl
theorem p257_walk (w : World) (news : CbLed) (loose : List Str) (mean : ExcName → Option Value) (mg mb : Str → Option Value) (p : Program) (resp : Str) (ta : CbTok) (hlen : resp.length ≤ 1000) (h3 : ((cs resp).take 5) = [50,53,55,32,34])
  (dp un : Nat) (gd : Option (List Code)) (cn : Str) (sc : Scope) (a' : CbAddr) (ccd : CbVal) (cl : List (Str × CbAddr)) (outer : List Env) (A₀ : Around) (base h₀ : Heap) (L : CbAddr) (mm : Str → Option Value) (s : Shared)
  (Q E : Value → Shared → Prop)
  (B : Below A₀ base outer h₀) (F : Fr h₀ L s.heap mm) (X : (Mine.hd.heap_39 w.params).In h₀) (N : News h₀ L s.heap news) (T : Top p loose mean mg mb h₀) (hk : sc.kind = .function) (hdp : dp + 150 < recursionLimit) (hun : un + 800 < cLine)
  (hret : ∀ t h' tk', Fr h₀ L h' mm → News h₀ L h' news → Q (.str (p257 resp) t) { s with heap := h', toks := tk' }) :
  wpAny (model PySem.Challenge.rw_rw0047_02.prog w) (ktrTop dp un gd cn sc L a' ccd cl outer) (call (.ref 60) [Value.str resp ta]) Q E s := by
  revert X; k_fill; intro X
  have ha := p257_ha h3
  have hb := p257_hb h3
  refine wpAny_call ?_
  k_dflt cell_enter
  k_with "exec While Compare cons nil" => k_while (fun _ i d => 5 ≤ i ∧ i ≤ resp.length ∧ d.length ≤ i ∧ p257J resp i d) (fun _ i _ => (resp.length - i).toNat) "i" "dirname"
  k_with "state" => first | exact p257_start (by assumption) | exact p257_t1 (by assumption) (by assumption) (by assumption) (by assumption) (by assumption) (by assumption) (by assumption) | exact p257_t2 (by assumption) (by assumption) (by assumption) (by assumption) (by assumption)
  k_steps
  all_goals first
    | exact q_of (hret _ _ _ (by assumption) (by assumption)) (p257_e1 (by assumption) (by assumption) (by assumption) (by assumption) (by assumption))
    | exact q_of (hret _ _ _ (by assumption) (by assumption)) (p257_e2 (by assumption) (by assumption) (by assumption) (by assumption) (by assumption) (by assumption))
    | exact q_of (hret _ _ _ (by assumption) (by assumption)) (p257_e3 (by assumption) (by assumption))
end
section
theorem calm_L2lxo : True ∧ True := by
  w_top off
  k_with_none
  first
    | (walk1; fail)
    | exact ⟨trivial, trivial⟩
theorem rows_L2lxo_ne : True := by
  k_with "ne" => (refine neN ?_; (try dsimp only); first | (exact Nat.ne_of_gt (And.left (by assumption))) | (exact Nat.ne_of_gt (And.left (And.right (by assumption)))) | (exact Nat.ne_of_gt (And.right (by assumption))) | (exact Nat.ne_of_gt (And.left (And.right (And.right (by assumption))))) | (exact Nat.ne_of_gt (And.right (And.right (by assumption)))) | (exact Nat.ne_of_gt (And.left (And.right (And.right (And.right (by assumption)))))) | (exact Nat.ne_of_gt (And.right (And.right (And.right (by assumption))))) | (exact Nat.ne_of_gt (And.left (And.right (And.right (And.right (And.right (by assumption))))))) | (exact Nat.ne_of_gt (And.right (And.right (And.right (And.right (by assumption)))))) | (exact Nat.ne_of_gt (And.left (And.right (And.right (And.right (And.right (And.right (by assumption)))))))) | (exact Nat.ne_of_gt (And.right (And.right (And.right (And.right (And.right (by assumption))))))) | (exact Nat.ne_of_gt (And.left (And.right (And.right (And.right (And.right (And.right (And.right (by assumption))))))))) | (exact Nat.ne_of_gt (And.right (And.right (And.right (And.right (And.right (And.right (by assumption)))))))) | (exact Nat.ne_of_gt (And.left (And.right (And.right (And.right (And.right (And.right (And.right (And.right (by assumption)))))))))) | (exact Nat.ne_of_gt (And.right (And.right (And.right (And.right (And.right (And.right (And.right (by assumption))))))))) | (exact Nat.ne_of_gt (And.left (And.right (And.right (And.right (And.right (And.right (And.right (And.right (And.right (by assumption))))))))))) | (exact Nat.ne_of_gt (And.right (And.right (And.right (And.right (And.right (And.right (And.right (And.right (by assumption)))))))))) | (exact Nat.ne_of_gt (And.left (And.right (And.right (And.right (And.right (And.right (And.right (And.right (And.right (And.right (by assumption)))))))))))) | (exact Nat.ne_of_gt (And.right (And.right (And.right (And.right (And.right (And.right (And.right (And.right (And.right (by assumption))))))))))) | (exact Nat.ne_of_lt (And.left (by assumption))) | (exact Nat.ne_of_lt (And.left (And.right (by assumption)))) | (exact Nat.ne_of_lt (And.right (by assumption))) | (exact Nat.ne_of_lt (And.left (And.right (And.right (by assumption))))) | (exact Nat.ne_of_lt (And.right (And.right (by assumption)))) | (exact Nat.ne_of_lt (And.left (And.right (And.right (And.right (by assumption)))))) | (exact Nat.ne_of_lt (And.right (And.right (And.right (by assumption))))) | (exact Nat.ne_of_lt (And.left (And.right (And.right (And.right (And.right (by assumption))))))) | (exact Nat.ne_of_lt (And.right (And.right (And.right (And.right (by assumption)))))) | (exact Nat.ne_of_lt (And.left (And.right (And.right (And.right (And.right (And.right (by assumption)))))))) | (exact Nat.ne_of_lt (And.right (And.right (And.right (And.right (And.right (by assumption))))))) | (exact Nat.ne_of_lt (And.left (And.right (And.right (And.right (And.right (And.right (And.right (by assumption))))))))) | (exact Nat.ne_of_lt (And.right (And.right (And.right (And.right (And.right (And.right (by assumption)))))))) | (exact Nat.ne_of_lt (And.left (And.right (And.right (And.right (And.right (And.right (And.right (And.right (by assumption)))))))))) | (exact Nat.ne_of_lt (And.right (And.right (And.right (And.right (And.right (And.right (And.right (by assumption))))))))) | (exact Nat.ne_of_lt (And.left (And.right (And.right (And.right (And.right (And.right (And.right (And.right (And.right (by assumption))))))))))) | (exact Nat.ne_of_lt (And.right (And.right (And.right (And.right (And.right (And.right (And.right (And.right (by assumption)))))))))) | (exact Nat.ne_of_lt (And.left (And.right (And.right (And.right (And.right (And.right (And.right (And.right (And.right (And.right (by assumption)))))))))))) | (exact Nat.ne_of_lt (And.right (And.right (And.right (And.right (And.right (And.right (And.right (And.right (And.right (by assumption))))))))))))
  trivial
theorem rows_L2lxo_upd : True := by
  k_with "upd" => first | (with_unfolding_all exact updAt0 (by assumption)) | (with_unfolding_all exact updAt1 (by assumption)) | (with_unfolding_all exact updAt2 (by assumption)) | (with_unfolding_all exact updAt3 (by assumption)) | (with_unfolding_all exact updAt4 (by assumption)) | (with_unfolding_all exact updAt5 (by assumption)) | (with_unfolding_all exact updAt6 (by assumption)) | (with_unfolding_all exact updAt7 (by assumption)) | (with_unfolding_all exact updAt8 (by assumption)) | (with_unfolding_all exact updAt9 (by assumption)) | (with_unfolding_all exact updAt10 (by assumption)) | (with_unfolding_all exact updAt11 (by assumption)) | (with_unfolding_all exact updAt12 (by assumption)) | (with_unfolding_all exact updAt13 (by assumption)) | (with_unfolding_all exact updAt14 (by assumption)) | (with_unfolding_all exact updAt15 (by assumption)) | (refine' Upd.tail ?ua1 ?ub1; (case ua1 => k_ne); (case ub1 => (first | (with_unfolding_all exact updAt0 (by assumption)) | (with_unfolding_all exact updAt1 (by assumption)) | (with_unfolding_all exact updAt2 (by assumption)) | (with_unfolding_all exact updAt3 (by assumption)) | (with_unfolding_all exact updAt4 (by assumption)) | (with_unfolding_all exact updAt5 (by assumption)) | (with_unfolding_all exact updAt6 (by assumption)) | (with_unfolding_all exact updAt7 (by assumption)) | (with_unfolding_all exact updAt8 (by assumption)) | (with_unfolding_all exact updAt9 (by assumption)) | (with_unfolding_all exact updAt10 (by assumption)) | (with_unfolding_all exact updAt11 (by assumption)) | (with_unfolding_all exact updAt12 (by assumption)) | (with_unfolding_all exact updAt13 (by assumption)) | (with_unfolding_all exact updAt14 (by assumption)) | (with_unfolding_all exact updAt15 (by assumption)) | (refine' Upd.tail ?ua2 ?ub2; (case ua2 => k_ne); (case ub2 => (first | (with_unfolding_all exact updAt0 (by assumption)) | (with_unfolding_all exact updAt1 (by assumption)) | (with_unfolding_all exact updAt2 (by assumption)) | (with_unfolding_all exact updAt3 (by assumption)) | (with_unfolding_all exact updAt4 (by assumption)) | (with_unfolding_all exact updAt5 (by assumption)) | (with_unfolding_all exact updAt6 (by assumption)) | (with_unfolding_all exact updAt7 (by assumption)) | (with_unfolding_all exact updAt8 (by assumption)) | (with_unfolding_all exact updAt9 (by assumption)) | (with_unfolding_all exact updAt10 (by assumption)) | (with_unfolding_all exact updAt11 (by assumption)) | (with_unfolding_all exact updAt12 (by assumption)) | (with_unfolding_all exact updAt13 (by assumption)) | (with_unfolding_all exact updAt14 (by assumption)) | (with_unfolding_all exact updAt15 (by assumption)) | (refine' Upd.tail ?ua3 ?ub3; (case ua3 => k_ne); (case ub3 => (first | (with_unfolding_all exact updAt0 (by assumption)) | (with_unfolding_all exact updAt1 (by assumption)) | (with_unfolding_all exact updAt2 (by assumption)) | (with_unfolding_all exact updAt3 (by assumption)) | (with_unfolding_all exact updAt4 (by assumption)) | (with_unfolding_all exact updAt5 (by assumption)) | (with_unfolding_all exact updAt6 (by assumption)) | (with_unfolding_all exact updAt7 (by assumption)) | (with_unfolding_all exact updAt8 (by assumption)) | (with_unfolding_all exact updAt9 (by assumption)) | (with_unfolding_all exact updAt10 (by assumption)) | (with_unfolding_all exact updAt11 (by assumption)) | (with_unfolding_all exact updAt12 (by assumption)) | (with_unfolding_all exact updAt13 (by assumption)) | (with_unfolding_all exact updAt14 (by assumption)) | (with_unfolding_all exact updAt15 (by assumption)))))))))))
  k_with "updF" => first | (with_unfolding_all exact updFAt0 (by assumption)) | (with_unfolding_all exact updFAt1 (by assumption)) | (with_unfolding_all exact updFAt2 (by assumption)) | (with_unfolding_all exact updFAt3 (by assumption)) | (with_unfolding_all exact updFAt4 (by assumption)) | (with_unfolding_all exact updFAt5 (by assumption)) | (with_unfolding_all exact updFAt6 (by assumption)) | (with_unfolding_all exact updFAt7 (by assumption)) | (with_unfolding_all exact updFAt8 (by assumption)) | (with_unfolding_all exact updFAt9 (by assumption)) | (with_unfolding_all exact updFAt10 (by assumption)) | (with_unfolding_all exact updFAt11 (by assumption)) | (with_unfolding_all exact updFAt12 (by assumption)) | (with_unfolding_all exact updFAt13 (by assumption)) | (with_unfolding_all exact updFAt14 (by assumption)) | (with_unfolding_all exact updFAt15 (by assumption)) | (refine' UpdF.tail ?uaF1 ?ubF1; (case uaF1 => k_ne); (case ubF1 => (first | (with_unfolding_all exact updFAt0 (by assumption)) | (with_unfolding_all exact updFAt1 (by assumption)) | (with_unfolding_all exact updFAt2 (by assumption)) | (with_unfolding_all exact updFAt3 (by assumption)) | (with_unfolding_all exact updFAt4 (by assumption)) | (with_unfolding_all exact updFAt5 (by assumption)) | (with_unfolding_all exact updFAt6 (by assumption)) | (with_unfolding_all exact updFAt7 (by assumption)) | (with_unfolding_all exact updFAt8 (by assumption)) | (with_unfolding_all exact updFAt9 (by assumption)) | (with_unfolding_all exact updFAt10 (by assumption)) | (with_unfolding_all exact updFAt11 (by assumption)) | (with_unfolding_all exact updFAt12 (by assumption)) | (with_unfolding_all exact updFAt13 (by assumption)) | (with_unfolding_all exact updFAt14 (by assumption)) | (with_unfolding_all exact updFAt15 (by assumption)) | (refine' UpdF.tail ?uaF2 ?ubF2; (case uaF2 => k_ne); (case ubF2 => (first | (with_unfolding_all exact updFAt0 (by assumption)) | (with_unfolding_all exact updFAt1 (by assumption)) | (with_unfolding_all exact updFAt2 (by assumption)) | (with_unfolding_all exact updFAt3 (by assumption)) | (with_unfolding_all exact updFAt4 (by assumption)) | (with_unfolding_all exact updFAt5 (by assumption)) | (with_unfolding_all exact updFAt6 (by assumption)) | (with_unfolding_all exact updFAt7 (by assumption)) | (with_unfolding_all exact updFAt8 (by assumption)) | (with_unfolding_all exact updFAt9 (by assumption)) | (with_unfolding_all exact updFAt10 (by assumption)) | (with_unfolding_all exact updFAt11 (by assumption)) | (with_unfolding_all exact updFAt12 (by assumption)) | (with_unfolding_all exact updFAt13 (by assumption)) | (with_unfolding_all exact updFAt14 (by assumption)) | (with_unfolding_all exact updFAt15 (by assumption)) | (refine' UpdF.tail ?uaF3 ?ubF3; (case uaF3 => k_ne); (case ubF3 => (first | (with_unfolding_all exact updFAt0 (by assumption)) | (with_unfolding_all exact updFAt1 (by assumption)) | (with_unfolding_all exact updFAt2 (by assumption)) | (with_unfolding_all exact updFAt3 (by assumption)) | (with_unfolding_all exact updFAt4 (by assumption)) | (with_unfolding_all exact updFAt5 (by assumption)) | (with_unfolding_all exact updFAt6 (by assumption)) | (with_unfolding_all exact updFAt7 (by assumption)) | (with_unfolding_all exact updFAt8 (by assumption)) | (with_unfolding_all exact updFAt9 (by assumption)) | (with_unfolding_all exact updFAt10 (by assumption)) | (with_unfolding_all exact updFAt11 (by assumption)) | (with_unfolding_all exact updFAt12 (by assumption)) | (with_unfolding_all exact updFAt13 (by assumption)) | (with_unfolding_all exact updFAt14 (by assumption)) | (with_unfolding_all exact updFAt15 (by assumption)))))))))))
  trivial
noncomputable def lamOf : List Stmt → Option (Arguments × PySem.Expr × Scope)
  | _ :: _ :: (.Assign _ (.Lambda ps b sc _) _) :: _ => some (ps, b, sc)
  | _ => none
noncomputable def lamP : {l : Arguments // ((lamOf (fnBody (fnOfName (Str.ofString "_law_lexer") PySem.Challenge.rw_rw0047_02.prog.main.body))).map (·.1)).getD default = l} := by
  apply Subtype.mk
  conv => lhs; whnf
noncomputable def lamB : {l : PySem.Expr // ((lamOf (fnBody (fnOfName (Str.ofString "_law_lexer") PySem.Challenge.rw_rw0047_02.prog.main.body))).map (·.2.1)).getD default = l} := by
  apply Subtype.mk
  conv => lhs; whnf
noncomputable def lamS : {l : Scope // ((lamOf (fnBody (fnOfName (Str.ofString "_law_lexer") PySem.Challenge.rw_rw0047_02.prog.main.body))).map (·.2.2)).getD default = l} := by
  apply Subtype.mk
  conv => lhs; whnf
noncomputable abbrev ent (w : World) (k : Str) (t : Nat) (v : Value) : DictEntry := { hash := PyData.keyHash w.params k, key := .str k t, val := v }
/-- the places of a lexer and of what it reads from -/
structure Lx where
  (x dx pb f df pb2 fn cc cl ce : Nat)
  (k1 k2 k3 k4 tw j1 j2 j3 j4 j5 jl jw : Nat)
  (ctv pm : Value)
  (ql : Str)
  (oc oce : Obj)
noncomputable abbrev Lx.led (w : World) (z : Lx) (us : List Value) (c : Nat) (ln : Int) (tl : Nat) (pbs : List Value) (np : Nat) : List (Addr × Obj) :=
  [(z.pb, listOf (List.toArray pbs) np), (z.x, instObj 98 z.dx),
   (z.dx, dictOf [ent w (Str.ofString "lineno") z.k1 (.int ln tl), ent w (Str.ofString "instream") z.k2 (.ref z.f), ent w (Str.ofString "whitespace") z.k3 (.str (Str.ofString "\n\t\x0d ") z.tw), ent w (Str.ofString "pushback") z.k4 (.ref z.pb)] 4),
   (z.fn, kla_obj (Str.ofString "<lambda>") z.ql lamP.1 lamB.1 lamS.1 [(Str.ofString "cells", z.ce)] z.pm z.cc z.ctv), (z.cc, z.oc), (z.pb2, listOf (List.toArray []) 0), (z.f, instObj 98 z.df),
   (z.df, dictOf [ent w (Str.ofString "lineno") z.j1 (.int 1 z.jl), ent w (Str.ofString "instream") z.j2 .none, ent w (Str.ofString "whitespace") z.j3 (.str (Str.ofString "\n\t\x0d ") z.jw), ent w (Str.ofString "pushback") z.j4 (.ref z.pb2), ent w (Str.ofString "read") z.j5 (.ref z.fn)] 5),
   (z.cl, listOf (List.toArray us) c), (z.ce, z.oce)]
structure Lx.Ok (z : Lx) (own : CbLed) : Prop where
  o0 : OwnOff own [z.cl, z.dx, z.pb]
  o1 : z.ce < z.cl
  o2 : z.cl < z.df
  o3 : z.df < z.f
  o4 : z.f < z.pb2
  o5 : z.pb2 < z.fn
  o6 : z.cc < z.ce ∨ (z.pb2 < z.cc ∧ z.cc < z.fn)
  o7 : z.fn < z.dx
  o8 : z.dx < z.x
  o9 : z.x < z.pb
  cell : z.oce.data = .cell (some (.ref z.cl))
  code : ∃ vs t, z.oc.data = .fields vs ∧ vs[1]? = some (.str z.ql t)
theorem Lx.Ok.off {z : Lx} {own : CbLed} (hz : z.Ok own) : OwnOff own [z.cl, z.dx, z.pb] := hz.o0
theorem Lx.Ok.of {z : Lx} {own : CbLed} (o0 : AllLt z.ce own) (o1 : z.ce < z.cl) (o2 : z.cl < z.df) (o3 : z.df < z.f) (o4 : z.f < z.pb2) (o5 : z.pb2 < z.fn) (o6 : z.cc < z.ce ∨ (z.pb2 < z.cc ∧ z.cc < z.fn)) (o7 : z.fn < z.dx) (o8 : z.dx < z.x) (o9 : z.x < z.pb)
    (cell : z.oce.data = .cell (some (.ref z.cl))) (code : ∃ vs t, z.oc.data = .fields vs ∧ vs[1]? = some (.str z.ql t)) : z.Ok own := by
  refine ⟨?_, o1, o2, o3, o4, o5, o6, o7, o8, o9, cell, code⟩
  have a1 : z.ce < z.dx := by omega
  have a2 : z.ce < z.pb := by omega
  clear o2 o3 o4 o5 o6 o7 o8 o9
  intro p hp b hb
  have h : @LT.lt Nat _ p.1 z.ce := kst_ltOf o0 p hp
  rcases List.mem_cons.mp hb with rfl | hb
  · exact Nat.ne_of_lt (Nat.lt_trans h o1)
  rcases List.mem_cons.mp hb with rfl | hb
  · exact Nat.ne_of_lt (Nat.lt_trans h a1)
  · rw [List.mem_singleton.mp hb]; exact Nat.ne_of_lt (Nat.lt_trans h a2)
/-- the lexer's addresses below its last one -/
theorem Lx.Ok.ups {z : Lx} {own : CbLed} (hz : z.Ok own) : z.x < z.pb ∧ z.dx < z.pb ∧ z.fn < z.pb ∧ z.cc < z.pb ∧ z.pb2 < z.pb ∧ z.f < z.pb ∧ z.df < z.pb ∧ z.cl < z.pb ∧ z.ce < z.pb := by
  obtain ⟨_, o1, o2, o3, o4, o5, o6, o7, o8, o9, _, _⟩ := hz
  have a7 := Nat.lt_trans o8 o9
  have a6 := Nat.lt_trans o7 a7
  have a5 := Nat.lt_trans o5 a6
  have a4 := Nat.lt_trans o4 a5
  have a3 := Nat.lt_trans o3 a4
  have a2 := Nat.lt_trans o2 a3
  have a1 := Nat.lt_trans o1 a2
  refine ⟨o9, a7, a6, ?_, a5, a4, a3, a2, a1⟩
  rcases o6 with h | ⟨_, h⟩
  · exact Nat.lt_trans h a1
  · exact Nat.lt_trans h a6
theorem offs_own {own : CbLed} {a : Nat} (h : ∀ p ∈ own, p.1 ≠ a) : Offs a (own.map Prod.fst) := fun x hx => by
  obtain ⟨p, hp, rfl⟩ := List.mem_map.mp hx
  exact h p hp
section
variable {z : Lx} {own : CbLed} {a : Nat} {l : List Nat}
/-- an address above the lexer's -/
theorem Lx.Ok.offU (hz : z.Ok own) (h : z.pb < a) (hl : Offs a l) : Offs a (z.pb :: z.x :: z.dx :: z.fn :: z.cc :: z.pb2 :: z.f :: z.df :: z.cl :: z.ce :: l) := by
  obtain ⟨b1, b2, b3, b4, b5, b6, b7, b8, b9⟩ := hz.ups
  have k : ∀ x : Nat, x < z.pb → x ≠ a := fun x hx => Nat.ne_of_lt (Nat.lt_trans hx h)
  exact .cons (Nat.ne_of_lt h) (.cons (k _ b1) (.cons (k _ b2) (.cons (k _ b3) (.cons (k _ b4) (.cons (k _ b5) (.cons (k _ b6) (.cons (k _ b7) (.cons (k _ b8) (.cons (k _ b9) hl)))))))))
/-- an address below the lexer's -/
theorem Lx.Ok.offD (hz : z.Ok own) (h : a < z.ce) (hc : z.pb2 < z.cc) (hl : Offs a l) : Offs a (z.pb :: z.x :: z.dx :: z.fn :: z.cc :: z.pb2 :: z.f :: z.df :: z.cl :: z.ce :: l) := by
  obtain ⟨_, o1, o2, o3, o4, o5, o6, o7, o8, o9, _, _⟩ := hz
  have a1 := Nat.lt_trans h o1
  have a2 := Nat.lt_trans a1 o2
  have a3 := Nat.lt_trans a2 o3
  have a4 := Nat.lt_trans a3 o4
  have a5 := Nat.lt_trans a4 o5
  have a6 := Nat.lt_trans a5 o7
  have a7 := Nat.lt_trans a6 o8
  have a8 := Nat.lt_trans a7 o9
  exact .cons (Nat.ne_of_gt a8) (.cons (Nat.ne_of_gt a7) (.cons (Nat.ne_of_gt a6) (.cons (Nat.ne_of_gt a5) (.cons (Nat.ne_of_gt (Nat.lt_trans a4 hc)) (.cons (Nat.ne_of_gt a4) (.cons (Nat.ne_of_gt a3) (.cons (Nat.ne_of_gt a2) (.cons (Nat.ne_of_gt a1) (.cons (Nat.ne_of_gt h) hl)))))))))
/-- the text's letters -/
theorem Lx.Ok.offC (hz : z.Ok own) : Offs z.cl (z.pb :: z.x :: z.dx :: z.fn :: z.cc :: z.pb2 :: z.f :: z.df :: z.ce :: own.map Prod.fst) := by
  obtain ⟨o0, o1, o2, o3, o4, o5, o6, o7, o8, o9, _, _⟩ := hz
  have a3 := Nat.lt_trans o2 o3
  have a4 := Nat.lt_trans a3 o4
  have a5 := Nat.lt_trans a4 o5
  have a6 := Nat.lt_trans a5 o7
  have a7 := Nat.lt_trans a6 o8
  have a8 := Nat.lt_trans a7 o9
  have c : z.cc ≠ z.cl := by
    rcases o6 with h | ⟨h, _⟩
    · exact Nat.ne_of_lt (Nat.lt_trans h o1)
    · exact Nat.ne_of_gt (Nat.lt_trans a4 h)
  exact .cons (Nat.ne_of_gt a8) (.cons (Nat.ne_of_gt a7) (.cons (Nat.ne_of_gt a6) (.cons (Nat.ne_of_gt a5) (.cons c (.cons (Nat.ne_of_gt a4) (.cons (Nat.ne_of_gt a3) (.cons (Nat.ne_of_gt o2) (.cons (Nat.ne_of_lt o1) (offs_own fun p hp => o0 p hp _ (.head _))))))))))
/-- the lexer's own table -/
theorem Lx.Ok.offX (hz : z.Ok own) : Offs z.dx (z.pb :: z.x :: z.fn :: z.cc :: z.pb2 :: z.f :: z.df :: z.cl :: z.ce :: own.map Prod.fst) := by
  obtain ⟨o0, o1, o2, o3, o4, o5, o6, o7, o8, o9, _, _⟩ := hz
  have a5 := Nat.lt_trans o5 o7
  have a4 := Nat.lt_trans o4 a5
  have a3 := Nat.lt_trans o3 a4
  have a2 := Nat.lt_trans o2 a3
  have a1 := Nat.lt_trans o1 a2
  have c : z.cc < z.dx := by
    rcases o6 with h | ⟨_, h⟩
    · exact Nat.lt_trans h a1
    · exact Nat.lt_trans h o7
  exact .cons (Nat.ne_of_gt (Nat.lt_trans o8 o9)) (.cons (Nat.ne_of_gt o8) (.cons (Nat.ne_of_lt o7) (.cons (Nat.ne_of_lt c) (.cons (Nat.ne_of_lt a5) (.cons (Nat.ne_of_lt a4) (.cons (Nat.ne_of_lt a3) (.cons (Nat.ne_of_lt a2) (.cons (Nat.ne_of_lt a1) (offs_own fun p hp => o0 p hp _ (.tail _ (.head _)))))))))))
/-- what is pushed back -/
theorem Lx.Ok.offP (hz : z.Ok own) : Offs z.pb (z.x :: z.dx :: z.fn :: z.cc :: z.pb2 :: z.f :: z.df :: z.cl :: z.ce :: own.map Prod.fst) := by
  obtain ⟨b1, b2, b3, b4, b5, b6, b7, b8, b9⟩ := hz.ups
  exact .cons (Nat.ne_of_lt b1) (.cons (Nat.ne_of_lt b2) (.cons (Nat.ne_of_lt b3) (.cons (Nat.ne_of_lt b4) (.cons (Nat.ne_of_lt b5) (.cons (Nat.ne_of_lt b6) (.cons (Nat.ne_of_lt b7) (.cons (Nat.ne_of_lt b8) (.cons (Nat.ne_of_lt b9) (offs_own fun p hp => hz.o0 p hp _ (.tail _ (.tail _ (.head _))))))))))))
end
theorem allLt_up {d e : Nat} (h : d ≤ e) {l : CbLed} (x : AllLt d l) : AllLt e l := allLt_of fun p hp => Nat.lt_of_lt_of_le (kst_ltOf x p hp) h
section
variable {prog : Program} {w : World} {A : Around} {E : Value → Shared → Prop} {s : Shared} {h₀ : Heap} {L D : Addr} {m : Str → Option Value} {news news' : List (Addr × Obj)} {n : Nat}
theorem truthy_cons {y : Value} {us : List Value} {Q : Bool → Shared → Prop} (N : News h₀ L s.heap news) (hm : (D, listOf (List.toArray (y :: us)) n) ∈ news) (hz : us.length ≤ 1000) (h : Q true { s with toks := s.toks + 1 + 1 }) :
    wpAny (model prog w) A (truthy (.ref D)) Q E s := by
  have hl : s.heap.IsList D (List.toArray (y :: us)) := ⟨_, (N _ hm).1, rfl, n, rfl⟩
  refine wpAny_truthy_list hl (by rw [List.size_toArray, List.length_cons]; omega) ?_
  have e : (!(List.toArray (y :: us)).isEmpty) = true := by simp
  rw [e]
  exact h
theorem truthy_nil {Q : Bool → Shared → Prop} (N : News h₀ L s.heap news) (hm : (D, listOf (List.toArray ([] : List Value)) n) ∈ news) (h : Q false { s with toks := s.toks + 1 + 1 }) :
    wpAny (model prog w) A (truthy (.ref D)) Q E s := by
  have hl : s.heap.IsList D (List.toArray ([] : List Value)) := ⟨_, (N _ hm).1, rfl, n, rfl⟩
  exact wpAny_truthy_list hl (by decide) h
theorem pop_first {y : Value} {us : List Value} {u : Tok} {Q : Value → Shared → Prop} (F : Fr h₀ L s.heap m) (N : News h₀ L s.heap news) (U : Upd D (listOf (List.toArray (y :: us)) n) (listOf (List.toArray us) (n + 1)) news news') (hz : us.length ≤ 1000)
    (h : ∀ h', Fr h₀ L h' m → News h₀ L h' news' → Q y { s with heap := h' }) : wpAny (model prog w) A (call (.builtin "list.pop") [.ref D, .int 0 u]) Q E s := by
  refine kl_popAt (k := 0) (p := []) (q := us) F N rfl ?_ ?_ U ?_ h
  · rw [List.size_toArray, List.length_cons]; simp [seqIndex?]
  · rfl
  · rw [sizeLine_eq]; simp; omega
end
theorem rows_L2lxo_4 : True := by
  k_with "truthy ref" => (k_here; (with_unfolding_all refine' truthy_cons ?h1 ?h2 ?h3 ?_); (case h1 => k_asm); (case h2 => k_mem); (case h3 => omega))
  k_with "truthy ref" => (k_here; (with_unfolding_all refine' truthy_nil ?h1 ?h2 ?_); (case h1 => k_asm); (case h2 => k_mem))
  k_with "call builtin:list.pop" => (k_here; (with_unfolding_all refine' pop_first ?h1 ?h2 ?h3 ?h4 ?_); (case h1 => k_asm); (case h2 => k_asm); (case h3 => k_upd); (case h4 => omega); intro hqRow FqRow NqRow; (try k_sweep))
  trivial
theorem str_n : Str.ofString "\n" = ⟨#[10]⟩ := by decide +kernel
theorem nl_1 {c : Nat} {ln : Int} (h : ((⟨#[c]⟩ : Str) == Str.ofString "\n") = true) : ln + 1 = if c = 10 then ln + 1 else ln := by
  rw [str_n] at h
  have h := beq_iff_eq.mp h
  have : c = 10 := by injection h with h; simpa using h
  rw [if_pos this]
theorem nl_2 {c : Nat} {ln : Int} (h : ((⟨#[c]⟩ : Str) == Str.ofString "\n") = false) : ln = if c = 10 then ln + 1 else ln := by
  rw [str_n] at h
  have h : ¬ (⟨#[c]⟩ : Str) = ⟨#[10]⟩ := by simpa using h
  have : ¬ c = 10 := fun e => h (by rw [e])
  rw [if_neg this]
theorem read_cons (w : World) (news : CbLed) (loose : List Str) (mean : ExcName → Option Value) (mg mb : Str → Option Value) (p : Program) (z : Lx) (us : List Value) (c : Nat) (u : Nat) (n : Nat) (ln : Int) (tl : Nat) (pbs : List Value) (np : Nat) (own : CbLed) (I q : Nat) (oI oq : Obj) (hq1 : z.pb < q) (hq2 : q < I) (hz : z.Ok own) (hus : us.length ≤ 1000) (kMark : KstMark)
  (dp un : Nat) (gd : Option (List Code)) (cn : Str) (sc : Scope) (a' : CbAddr) (ccd : CbVal) (cl : List (Str × CbAddr)) (outer : List Env) (A₀ : Around) (base h₀ : Heap) (L : CbAddr) (mm : Str → Option Value) (s : Shared)
  (R : Result → Shared → Prop)
  (B : Below A₀ base outer h₀) (F : Fr h₀ L s.heap mm) (X : (Mine.hd.heap_39 w.params).In h₀) (N : News h₀ L s.heap ((I, oI) :: (q, oq) :: (z.led w (.str ⟨#[c]⟩ u :: us) n ln tl pbs np ++ own))) (T : Top p loose mean mg mb h₀) (hk : sc.kind = .function) (hdp : dp + 50 < recursionLimit) (hun : un + 400 < cLine)
  (codeHd : CodeHd base 108 104)
  (hret : ∀ ln' tl' h' tk', ln' = (if c = 10 then ln + 1 else ln) → Fr h₀ L h' mm → News h₀ L h' ((I, oI) :: (q, oq) :: (z.led w us (n + 1) ln' tl' pbs np ++ own)) → R (.ok (.ret (.str ⟨#[c]⟩ u))) { s with heap := h', toks := tk' }) :
  codeAny (model PySem.Challenge.rw_rw0047_02.prog w) (ktrTop dp un gd cn sc L a' ccd cl outer) (.call (.ref 81) ⟨[.ref z.x], []⟩) R s := by
  revert X; k_fill; intro X
  have q1 : OwnOff own [z.cl, z.dx, z.pb] := hz.off
  have f1 := hz.offC
  have f2 := hz.offX
  obtain ⟨o0, o1, o2, o3, o4, o5, o6, o7, o8, o9, hcell, vs, tq, hc1, hc2⟩ := hz
  clear o0
  dsimp only [Lx.led, lamP, lamB, lamS] at N
  simp only [List.cons_append, List.nil_append] at N
  k_dflt cell_enter
  k_steps
  all_goals first
    | exact hret _ _ _ _ (nl_1 (by assumption)) (by assumption) (by assumption)
    | exact hret _ _ _ _ (nl_2 (by assumption)) (by assumption) (by assumption)
theorem read_nil (w : World) (news : CbLed) (loose : List Str) (mean : ExcName → Option Value) (mg mb : Str → Option Value) (p : Program) (z : Lx) (n : Nat) (ln : Int) (tl : Nat) (pbs : List Value) (np : Nat) (own : CbLed) (I q : Nat) (oI oq : Obj) (hq1 : z.pb < q) (hq2 : q < I) (hz : z.Ok own) (kMark : KstMark)
  (dp un : Nat) (gd : Option (List Code)) (cn : Str) (sc : Scope) (a' : CbAddr) (ccd : CbVal) (cl : List (Str × CbAddr)) (outer : List Env) (A₀ : Around) (base h₀ : Heap) (L : CbAddr) (mm : Str → Option Value) (s : Shared)
  (R : Result → Shared → Prop)
  (B : Below A₀ base outer h₀) (F : Fr h₀ L s.heap mm) (X : (Mine.hd.heap_39 w.params).In h₀) (N : News h₀ L s.heap ((I, oI) :: (q, oq) :: (z.led w [] n ln tl pbs np ++ own))) (T : Top p loose mean mg mb h₀) (hk : sc.kind = .function) (hdp : dp + 50 < recursionLimit) (hun : un + 400 < cLine)
  (codeHd : CodeHd base 108 104)
  (hret : ∀ t h' tk', Fr h₀ L h' mm → News h₀ L h' ((I, oI) :: (q, oq) :: (z.led w [] n ln tl pbs np ++ own)) → R (.ok (.ret (.str (Str.ofString "") t))) { s with heap := h', toks := tk' }) :
  codeAny (model PySem.Challenge.rw_rw0047_02.prog w) (ktrTop dp un gd cn sc L a' ccd cl outer) (.call (.ref 81) ⟨[.ref z.x], []⟩) R s := by
  revert X; k_fill; intro X
  have q1 : OwnOff own [z.cl, z.dx, z.pb] := hz.off
  have f1 := hz.offC
  have f2 := hz.offX
  obtain ⟨o0, o1, o2, o3, o4, o5, o6, o7, o8, o9, hcell, vs, tq, hc1, hc2⟩ := hz
  clear o0
  dsimp only [Lx.led, lamP, lamB, lamS] at N
  simp only [List.cons_append, List.nil_append] at N
  k_dflt cell_enter
  k_steps
  all_goals first
    | exact hret _ _ _ (by assumption) (by assumption)
end
section
theorem calm_L2gto0 : True ∧ True := by
  w_top off
  k_with_none
  first
    | (walk1; fail)
    | exact ⟨trivial, trivial⟩
noncomputable def clsOfName (n : Str) : List Stmt → List Stmt
  | [] => []
  | st :: r => match st with
    | .ClassDef m _ _ b .. => if m == n then b else clsOfName n r
    | _ => clsOfName n r
noncomputable def forBody : Stmt → List Stmt
  | .For _ _ b .. => b
  | _ => []
noncomputable def ifThen : Stmt → List Stmt
  | .If _ b _ _ => b
  | _ => []
noncomputable def ifElse : Stmt → List Stmt
  | .If _ _ b _ => b
  | _ => []
noncomputable def gtB : {l : List Stmt // fnBody (fnOfName (Str.ofString "get_token") (clsOfName (Str.ofString "_netrclex") PySem.Challenge.rw_rw0047_02.prog.main.body)) = l} := by
  apply Subtype.mk
  conv => lhs; whnf
noncomputable def gtS : {l : Scope // fnScope (fnOfName (Str.ofString "get_token") (clsOfName (Str.ofString "_netrclex") PySem.Challenge.rw_rw0047_02.prog.main.body)) = l} := by
  apply Subtype.mk
  conv => lhs; whnf
noncomputable def gtL1 : {l : Stmt // gtB.1.getD 3 default = l} := by
  apply Subtype.mk
  conv => lhs; whnf
noncomputable def gtL1b : {l : List Stmt // forBody gtL1.1 = l} := by
  apply Subtype.mk
  conv => lhs; whnf
noncomputable def gtL2 : {l : Stmt // (ifThen (gtL1b.1.getD 1 default)).getD 0 default = l} := by
  apply Subtype.mk
  conv => lhs; whnf
noncomputable def gtL3 : {l : Stmt // (ifElse (gtL1b.1.getD 1 default)).getD 2 default = l} := by
  apply Subtype.mk
  conv => lhs; whnf
noncomputable def gtL2b : {l : List Stmt // forBody gtL2.1 = l} := by
  apply Subtype.mk
  conv => lhs; whnf
noncomputable def gtL3b : {l : List Stmt // forBody gtL3.1 = l} := by
  apply Subtype.mk
  conv => lhs; whnf
/-- texts of one sign each -/
inductive SigAre : List Value → List Nat → Prop where
  | nil : SigAre [] []
  | cons (c u : Nat) {vs l} : SigAre vs l → SigAre (.str ⟨#[c]⟩ u :: vs) (c :: l)
theorem SigAre.len {vs : List Value} {l : List Nat} (h : SigAre vs l) : vs.length = l.length := by induction h <;> simp_all
noncomputable def rdc : List Nat → Str
  | [] => Str.ofString ""
  | c :: _ => ⟨#[c]⟩
noncomputable def cnt (l : List Nat) : Int := (l.count 10 : Nat)
theorem cnt_cons (c : Nat) (l : List Nat) : cnt (c :: l) = (if c = 10 then 1 else 0) + cnt l := by
  unfold cnt
  rw [List.count_cons]
  by_cases h : c = 10
  · subst h; simp; omega
  · simp [h]
theorem read_any (w : World) (news : CbLed) (loose : List Str) (mean : ExcName → Option Value) (mg mb : Str → Option Value) (p : Program) (z : Lx) (us : List Value) (l : List Nat) (n : Nat) (ln : Int) (tl : Nat) (pbs : List Value) (np : Nat) (own : CbLed) (I q : Nat) (oI oq : Obj) (hq1 : z.pb < q) (hq2 : q < I) (hz : z.Ok own) (hs : SigAre us l) (hus : l.length ≤ 1000) (kMark : KstMark)
  (dp un : Nat) (gd : Option (List Code)) (cn : Str) (sc : Scope) (a' : CbAddr) (ccd : CbVal) (cl : List (Str × CbAddr)) (outer : List Env) (A₀ : Around) (base h₀ : Heap) (L : CbAddr) (mm : Str → Option Value) (s : Shared)
  (R : Result → Shared → Prop)
  (B : Below A₀ base outer h₀) (F : Fr h₀ L s.heap mm) (X : (Mine.hd.heap_39 w.params).In h₀) (N : News h₀ L s.heap ((I, oI) :: (q, oq) :: (z.led w us n ln tl pbs np ++ own))) (T : Top p loose mean mg mb h₀) (hk : sc.kind = .function) (hdp : dp + 50 < recursionLimit) (hun : un + 400 < cLine)
  (codeHd : CodeHd base 108 104)
  (hret : ∀ t us' n' ln' tl' h' tk', SigAre us' l.tail → ln' + cnt l.tail = ln + cnt l → Fr h₀ L h' mm → News h₀ L h' ((I, oI) :: (q, oq) :: (z.led w us' n' ln' tl' pbs np ++ own)) → R (.ok (.ret (.str (rdc l) t))) { s with heap := h', toks := tk' }) :
  codeAny (model PySem.Challenge.rw_rw0047_02.prog w) (ktrTop dp un gd cn sc L a' ccd cl outer) (.call (.ref 81) ⟨[.ref z.x], []⟩) R s := by
  cases hs with
  | nil => exact read_nil w news loose mean mg mb p z n ln tl pbs np own I q oI oq hq1 hq2 hz kMark dp un gd cn sc a' ccd cl outer A₀ base h₀ L mm s R B F X N T hk hdp hun codeHd fun t h' tk' F' N' => hret t [] n ln tl h' tk' .nil rfl F' N'
  | @cons c u vs l h => exact read_cons w news loose mean mg mb p z vs c u n ln tl pbs np own I q oI oq hq1 hq2 hz (by rw [h.len]; simp at hus; omega) kMark dp un gd cn sc a' ccd cl outer A₀ base h₀ L mm s R B F X N T hk hdp hun codeHd fun ln' tl' h' tk' e F' N' => hret u vs (n + 1) ln' tl' h' tk' h (by rw [e, cnt_cons]; show _ + cnt l = _; split <;> omega) F' N'
theorem iter_call {prog : Program} {w : World} {A : Around} {E : Value → Shared → Prop} {s : Shared} {h₀ : Heap} {L : Addr} {m : Str → Option Value} {news : List (Addr × Obj)} {q fr t : Nat} {self : Value} {Q : Value → Shared → Prop}
    (F : Fr h₀ L s.heap m) (N : News h₀ L s.heap news) (hq : (q, methodObj (.ref fr) self) ∈ news)
    (h : ∀ I h', Fr h₀ L h' m → News h₀ L h' ((I, citObj q t) :: news) → (∀ p ∈ news, p.1 < I) → Q (.ref I) { s with heap := h' }) :
    wpAny (model prog w) A (call (.builtin "iter") [.ref q, .str (Str.ofString "") t]) Q E s := by
  have ho := (N _ hq).1
  have hT : s.TypeIs (.ref q) "method" := ⟨_, ho, rfl⟩
  have lk : ∃ v, typeLookup (.type "method") "__call__" = pure (some v) := ⟨.builtin "method.__call__", by rw [typeLookup_type, builtinLookup_eq_fast]; kernel_rfl⟩
  obtain ⟨v, lk⟩ := lk
  refine Calls.call_function_entry (b := Builtin.«iter») (by decide +kernel) (by decide +kernel) (entryFor_of_tree (by kernel_rfl)) (by unfold argsOk; kernel_rfl) ?_
  unfold Builtin.«iter»
  show wpAny _ _ (specialOf (.ref q) "__call__" >>= _) _ _ s
  refine wpAny_bind (wpAny_specialOf hT lk ?_)
  show wpAny _ _ (rule _ >>= _) _ _ s
  refine wpAny_bind (wpAny_rule ?_)
  show wpAny _ _ (newFields "callable_iterator" _ >>= _) _ _ s
  refine wpAny_bind ?_
  unfold newFields
  refine wpAny_newObj_type ?_ (by size_fits)
  refine wpAny_pure ⟨_, rfl, h _ _ (F.push _) (N.push F _) fun p hp => Heap.lt_size (N p hp).1⟩
end
section
theorem calm_L2gto3 : True ∧ True := by
  w_top off
  k_with_none
  first
    | (walk1; fail)
    | exact ⟨trivial, trivial⟩
theorem rows_L2gto3_ne : True := by
  k_with "ne" => (refine neN ?_; (try dsimp only); first | (exact Nat.ne_of_gt (And.left (by assumption))) | (exact Nat.ne_of_gt (And.left (And.right (by assumption)))) | (exact Nat.ne_of_gt (And.right (by assumption))) | (exact Nat.ne_of_gt (And.left (And.right (And.right (by assumption))))) | (exact Nat.ne_of_gt (And.right (And.right (by assumption)))) | (exact Nat.ne_of_gt (And.left (And.right (And.right (And.right (by assumption)))))) | (exact Nat.ne_of_gt (And.right (And.right (And.right (by assumption))))) | (exact Nat.ne_of_gt (And.left (And.right (And.right (And.right (And.right (by assumption))))))) | (exact Nat.ne_of_gt (And.right (And.right (And.right (And.right (by assumption)))))) | (exact Nat.ne_of_gt (And.left (And.right (And.right (And.right (And.right (And.right (by assumption)))))))) | (exact Nat.ne_of_gt (And.right (And.right (And.right (And.right (And.right (by assumption))))))) | (exact Nat.ne_of_gt (And.left (And.right (And.right (And.right (And.right (And.right (And.right (by assumption))))))))) | (exact Nat.ne_of_gt (And.right (And.right (And.right (And.right (And.right (And.right (by assumption)))))))) | (exact Nat.ne_of_gt (And.left (And.right (And.right (And.right (And.right (And.right (And.right (And.right (by assumption)))))))))) | (exact Nat.ne_of_gt (And.right (And.right (And.right (And.right (And.right (And.right (And.right (by assumption))))))))) | (exact Nat.ne_of_gt (And.left (And.right (And.right (And.right (And.right (And.right (And.right (And.right (And.right (by assumption))))))))))) | (exact Nat.ne_of_gt (And.right (And.right (And.right (And.right (And.right (And.right (And.right (And.right (by assumption)))))))))) | (exact Nat.ne_of_gt (And.left (And.right (And.right (And.right (And.right (And.right (And.right (And.right (And.right (And.right (by assumption)))))))))))) | (exact Nat.ne_of_gt (And.right (And.right (And.right (And.right (And.right (And.right (And.right (And.right (And.right (by assumption))))))))))) | (exact Nat.ne_of_lt (And.left (by assumption))) | (exact Nat.ne_of_lt (And.left (And.right (by assumption)))) | (exact Nat.ne_of_lt (And.right (by assumption))) | (exact Nat.ne_of_lt (And.left (And.right (And.right (by assumption))))) | (exact Nat.ne_of_lt (And.right (And.right (by assumption)))) | (exact Nat.ne_of_lt (And.left (And.right (And.right (And.right (by assumption)))))) | (exact Nat.ne_of_lt (And.right (And.right (And.right (by assumption))))) | (exact Nat.ne_of_lt (And.left (And.right (And.right (And.right (And.right (by assumption))))))) | (exact Nat.ne_of_lt (And.right (And.right (And.right (And.right (by assumption)))))) | (exact Nat.ne_of_lt (And.left (And.right (And.right (And.right (And.right (And.right (by assumption)))))))) | (exact Nat.ne_of_lt (And.right (And.right (And.right (And.right (And.right (by assumption))))))) | (exact Nat.ne_of_lt (And.left (And.right (And.right (And.right (And.right (And.right (And.right (by assumption))))))))) | (exact Nat.ne_of_lt (And.right (And.right (And.right (And.right (And.right (And.right (by assumption)))))))) | (exact Nat.ne_of_lt (And.left (And.right (And.right (And.right (And.right (And.right (And.right (And.right (by assumption)))))))))) | (exact Nat.ne_of_lt (And.right (And.right (And.right (And.right (And.right (And.right (And.right (by assumption))))))))) | (exact Nat.ne_of_lt (And.left (And.right (And.right (And.right (And.right (And.right (And.right (And.right (And.right (by assumption))))))))))) | (exact Nat.ne_of_lt (And.right (And.right (And.right (And.right (And.right (And.right (And.right (And.right (by assumption)))))))))) | (exact Nat.ne_of_lt (And.left (And.right (And.right (And.right (And.right (And.right (And.right (And.right (And.right (And.right (by assumption)))))))))))) | (exact Nat.ne_of_lt (And.right (And.right (And.right (And.right (And.right (And.right (And.right (And.right (And.right (by assumption))))))))))))
  trivial
theorem opaque_go (P : Nat → Shared → Prop) : ∃ Go : Nat → Shared → Prop, ∀ n s, Go n s ↔ P n s := ⟨P, fun _ _ => Iff.rfl⟩
theorem for_cit {prog : Program} {w : World} {A : Around} {E : Value → Shared → Prop} {s : Shared} {env : Env} {Q : Flow → Shared → Prop} {x fit : Str} {px pf pos : Pos} {body : List Stmt} {I : Nat}
    (hx : env.kindOf x = some .local)
    (hit : ∀ Q' : Value → Shared → Prop, Q' (.ref I) s → wpAny (model prog w) A (eval (.Name fit pf) env) Q' E s)
    (hI : ∃ o, s.heap.get? I = some o ∧ o.cls = .type "callable_iterator")
    (Inv Go : Nat → Shared → Prop) (hGo : ∀ n s, Go n s → ∃ m, m < n ∧ Inv m s) (n : Nat) (h0 : Inv n s)
    (turn : ∀ n s, Inv n s → wpAny (model prog w) A (pyNext (.ref I)) (fun r s₁ => match r with
      | none => Q .next s₁
      | some v => wpAny (model prog w) A (storeName env x v) (fun _ s₂ => wpAny (model prog w) A (execs body env) (fun f s₃ => match f with
          | .next | .cont => Go n s₃
          | .brk => Q .next s₃
          | .ret v => Q (.ret v) s₃) E s₂) E s₁) E s)
    (hE : PassesOwn (model prog w) A env E) :
    wpAny (model prog w) A (exec (.For (.Name x px) (.Name fit pf) body [] pos) env) Q E s := by
  refine wpAny_For (hit _ ?_) (by intro _; rfl)
  obtain ⟨o, ho, hc⟩ := hI
  refine cit_iter ho hc ?_
  refine codeAny_forLoop (R := fun r s' => match r with | .ok f => Q f s' | .error e => cameBackBy (model prog w) A env E e s') Inv (fun n s hI => ?_) n h0
  refine wpAny_passesOwn hE (wpAny_mono (turn n s hI) (fun r s₁ h₁ => ?_) fun _ _ e => e)
  cases r with
  | none => exact wpAny_execs_nil h₁
  | some v =>
    refine wpAny_assign_Name (wpAny_passesOwn hE (wpAny_mono h₁ (fun _ s₂ h₂ => ?_) fun _ _ e => e))
    refine wpAny_passesOwn hE (wpAny_mono h₂ (fun f s₃ h₃ => ?_) fun _ _ e => e)
    cases f <;> first | exact h₃ | exact hGo _ _ h₃
/-- the signs that part words -/
noncomputable def isWs (c : Nat) : Bool := c == 10 || c == 9 || c == 13 || c == 32
/-- a word that stands bare -/
noncomputable def gt3 : List Nat → List Nat → List Nat × List Nat
  | [], tok => (tok, [])
  | [c], tok => if isWs c then (tok, []) else if c = 92 then (tok, []) else (tok ++ [c], [])
  | c :: d :: r, tok => if isWs c then (tok, d :: r) else if c = 92 then gt3 r (tok ++ [d]) else gt3 (d :: r) (tok ++ [c])
theorem gt3_ws {c : Nat} {r tok : List Nat} (h : isWs c = true) : gt3 (c :: r) tok = (tok, r) := by cases r <;> simp [gt3, h]
theorem gt3_b {r tok : List Nat} : gt3 (92 :: r) tok = gt3 r.tail (tok ++ cs (rdc r)) := by
  cases r with
  | nil => simp [gt3, isWs, rdc]; decide +kernel
  | cons d r => simp [gt3, isWs, rdc, cs]
theorem gt3_o {c : Nat} {r tok : List Nat} (h : isWs c = false) (h2 : c ≠ 92) : gt3 (c :: r) tok = gt3 r (tok ++ [c]) := by
  cases r with
  | nil => simp [gt3, h, h2]
  | cons d r => rw [gt3]; simp [h, h2]
theorem fr_but {g h h' : Heap} {L I : Addr} {m : Str → Option Value} (F : Fr g L h m) (hL : L ≠ I) (hg : g.get? I = none) (hk : ∀ b o, b ≠ I → h.get? b = some o → h'.get? b = some o) : Fr g L h' m :=
  ⟨F.ns.at' fun o e => hk _ o hL e, fun b o e => hk b o (by rintro rfl; rw [hg] at e; cases e) (F.keep b o e), F.above⟩
theorem news_but {g h h' : Heap} {L I : Addr} {o o' : Obj} {rest : List (Addr × Obj)} (N : News g L h ((I, o) :: rest)) (hr : ∀ p ∈ rest, p.1 ≠ I) (hk : ∀ b o, b ≠ I → h.get? b = some o → h'.get? b = some o) (hI : h'.get? I = some o') : News g L h' ((I, o') :: rest) := by
  intro p hp
  rcases List.mem_cons.mp hp with rfl | hp
  · exact ⟨hI, (N _ (.head _)).2⟩
  · exact ⟨hk _ _ (hr p hp) (N p (.tail _ hp)).1, (N p (.tail _ hp)).2⟩
theorem fn_read {K : Frag} {h : Heap} {f : Addr} (X : K.In h) (e : fnIn K f = true) : ∃ o fd, h.get? f = some o ∧ o.data = .func fd := by
  unfold fnIn at e
  split at e
  · rename_i q
    exact ⟨_, _, X _ _ q, rfl⟩
  · cases e
theorem led_ne {w : World} {z : Lx} {own : CbLed} (hz : z.Ok own) {us : List Value} {n : Nat} {ln : Int} {tl : Nat} {pbs : List Value} {np : Nat} {I q : Nat} {oq : Obj} (hq1 : z.pb < q) (hq2 : q < I) (hqo : ∀ p ∈ own, p.1 ≠ I) : ∀ p ∈ (q, oq) :: (z.led w us n ln tl pbs np ++ own), p.1 ≠ I := by
  obtain ⟨o0, o1, o2, o3, o4, o5, o6, o7, o8, o9, _, _⟩ := hz
  have t9 := Nat.lt_trans hq1 hq2
  have t8 := Nat.lt_trans o9 t9
  have t7 := Nat.lt_trans o8 t8
  have t6 := Nat.lt_trans o7 t7
  have t5 := Nat.lt_trans o5 t6
  have t4 := Nat.lt_trans o4 t5
  have t3 := Nat.lt_trans o3 t4
  have t2 := Nat.lt_trans o2 t3
  have t1 := Nat.lt_trans o1 t2
  have tc : z.cc < I := o6.elim (fun h => Nat.lt_trans h t1) (fun h => Nat.lt_trans h.2 t6)
  clear hq1 o1 o2 o3 o4 o5 o6 o7 o8 o9
  intro p hp
  rcases List.mem_cons.mp hp with rfl | hp
  · exact Nat.ne_of_lt hq2
  · rcases List.mem_append.mp hp with hp | hp
    · simp only [Lx.led, List.mem_cons, List.not_mem_nil, or_false] at hp
      rcases hp with rfl | rfl | rfl | rfl | rfl | rfl | rfl | rfl | rfl | rfl <;> first | exact Nat.ne_of_lt t9 | exact Nat.ne_of_lt t8 | exact Nat.ne_of_lt t7 | exact Nat.ne_of_lt t6 | exact Nat.ne_of_lt tc | exact Nat.ne_of_lt t5 | exact Nat.ne_of_lt t4 | exact Nat.ne_of_lt t3 | exact Nat.ne_of_lt t2 | exact Nat.ne_of_lt t1
    · exact hqo p hp
theorem str_ws : cs (Str.ofString "\n\t\x0d ") = [10, 9, 13, 32] := by decide +kernel
theorem ws_1 {c : Nat} (h : ((Builtin.Str.occurrences (Str.ofString "\n\t\x0d ") ⟨#[c]⟩ 0 (Str.ofString "\n\t\x0d ").length 1).isEmpty) = false) : isWs c = true := by
  have h := congrArg (! ·) h
  rw [StrLaws.found_one, Bool.not_false, decide_eq_true_eq] at h
  have h : c ∈ cs (Str.ofString "\n\t\x0d ") := h
  rw [str_ws] at h
  simp only [List.mem_cons, List.not_mem_nil, or_false] at h
  rcases h with rfl | rfl | rfl | rfl <;> rfl
theorem ws_2 {c : Nat} (h : ((Builtin.Str.occurrences (Str.ofString "\n\t\x0d ") ⟨#[c]⟩ 0 (Str.ofString "\n\t\x0d ").length 1).isEmpty) = true) : isWs c = false := by
  have h := congrArg (! ·) h
  rw [StrLaws.found_one, Bool.not_true, decide_eq_false_iff_not] at h
  have h : ¬ c ∈ cs (Str.ofString "\n\t\x0d ") := h
  rw [str_ws] at h
  simp only [List.mem_cons, List.not_mem_nil, or_false, not_or] at h
  obtain ⟨h1, h2, h3, h4⟩ := h
  simp [isWs, h1, h2, h3, h4]
theorem cs_app (a b : Str) : cs (a ++ b) = cs a ++ cs b := Array.toList_append
theorem sg_1 {c : Nat} (h : ((⟨#[c]⟩ : Str) == Str.ofString "\\") = true) : c = 92 := by
  rw [str_b] at h
  have h := beq_iff_eq.mp h
  injection h with h
  simpa using h
theorem sg_2 {c : Nat} (h : ((⟨#[c]⟩ : Str) == Str.ofString "\\") = false) : c ≠ 92 := by
  rw [str_b] at h
  rintro rfl
  simp at h
theorem fr_pack {g h : Heap} {L : Addr} {m : Str → Option Value} {x1 x2 x3 : Value} (F : Fr g L h m) (a : m (Str.ofString "self") = some x1) (b : m (Str.ofString "token") = some x2) (c : m (Str.ofString "fiter") = some x3) :
    Fr g L h (fun y => if y = Str.ofString "self" then some x1 else if y = Str.ofString "token" then some x2 else if y = Str.ofString "fiter" then some x3 else m y) := by
  have e : (fun y => if y = Str.ofString "self" then some x1 else if y = Str.ofString "token" then some x2 else if y = Str.ofString "fiter" then some x3 else m y) = m := by
    funext y
    split
    · next e => rw [e, a]
    · split
      · next e => rw [e, b]
      · split
        · next e => rw [e, c]
        · rfl
  rw [e]; exact F
theorem one_len (c : Nat) : (⟨#[c]⟩ : Str).length = 1 := rfl
theorem rdc_len (l : List Nat) : (rdc l).length ≤ 1 := by
  cases l with
  | nil => decide
  | cons c l => exact Nat.le_refl 1
theorem rows_L2gto3_5 : True := by
  k_with "call ref" => (k_here; refine wpAny_call ?_; (with_unfolding_all refine' read_any _ [] _ _ _ _ _ _ _ _ _ _ _ _ _ _ _ _ _ _ ?h1 ?h2 ?h3 ?h4 ?h5 ?h6 _ _ _ _ _ _ _ _ _ _ _ _ _ _ _ _ ?k1 ?k2 ?k3 ?k4 ?k5 ?k6 ?k7 ?k8 ?k9 ?_); (case h3 => assumption); (case k2 => k_asm); (case k4 => with_unfolding_all assumption); (case k1 => k_asm); (case k3 => k_asm); (case k5 => k_asm); (case k6 => with_unfolding_all rfl); (case k7 => ktr_room); (case k8 => ktr_units); (case h4 => assumption); (case h5 => assumption); (case h1 => assumption); (case h2 => assumption); (case h6 => assumption); (case k9 => assumption); intro tqRow usqRow nqRow lnqRow tlqRow hqRow tkqRow hsqRow hkqRow FqRow NqRow; (try dsimp only [Lx.led, lamP, lamB, lamS] at NqRow); (try simp only [List.cons_append, List.nil_append] at NqRow))
  trivial
/-- what holds at a turn of the two inner loops -/
inductive GtI (w : World) (z : Lx) (own : CbLed) (g : Heap) (L' I q t0 np : Nat) (K : Int) (gf : List Nat → List Nat → List Nat × List Nat) (G : List Nat × List Nat) (s : Shared) (n : Nat) (s' : Shared) : Prop
  | mk (h : Heap) (tk : Nat) (m' : Str → Option Value) (us : List Value) (l : List Nat) (nn : Nat) (ln : Int) (tl : Nat) (tok : Str) (tt : Nat) (es : s' = { s with heap := h, toks := tk }) (hn : n = l.length)
    (F : Fr g L' h (fun y => if y = Str.ofString "self" then some (Value.ref z.x) else if y = Str.ofString "token" then some (Value.str tok tt) else if y = Str.ofString "fiter" then some (Value.ref I) else m' y))
    (N : News g L' h ((I, citObj q t0) :: (q, methodObj (.ref 81) (.ref z.x)) :: (z.led w us nn ln tl [] np ++ own))) (hs : SigAre us l) (hG : gf l (cs tok) = G) (hK : ln + cnt l = K) (hlen : tok.length + l.length ≤ 1000) : GtI w z own g L' I q t0 np K gf G s n s'
theorem gt_L3 (w : World) (news : CbLed) (loose : List Str) (mean : ExcName → Option Value) (mg mb : Str → Option Value) (p : Program) (z : Lx) (us0 : List Value) (l0 : List Nat) (nn0 : Nat) (ln0 : Int) (tl0 : Nat) (np : Nat) (own : CbLed) (I q t0 : Nat) (hq1 : z.pb < q) (hq2 : q < I) (hqo : ∀ p ∈ own, p.1 ≠ I) (hz : z.Ok own) (hs0 : SigAre us0 l0) (tok0 : Str) (tt0 : Nat) (kMark : KstMark)
  (G : List Nat × List Nat) (K : Int) (hG0 : gt3 l0 (cs tok0) = G) (hK0 : ln0 + cnt l0 = K) (hlen0 : tok0.length + l0.length ≤ 1000)
  (rest : List Stmt) (dp un : Nat) (gd : Option (List Code)) (cn : Str) (sc : Scope) (a' : CbAddr) (ccd : CbVal) (cl : List (Str × CbAddr)) (outer : List Env) (base g h : Heap) (L L' : CbAddr) (mm : Str → Option Value) (s : Shared) (tk0 : Nat)
  (Q : Flow → Shared → Prop) (E : Value → Shared → Prop)
  (B : Below (ktrTop dp un gd cn sc L a' ccd cl outer) base (envX cn sc L a' ccd cl :: outer) g) (hdp : dp + 100 < recursionLimit) (hun : un + 500 < cLine)
  (N : News g L' h news) (X : (Mine.hd.heap_39 w.params).In g) (T : Top p loose mean mg mb g)
  (hE : PassesOwn (model PySem.Challenge.rw_rw0047_02.prog w) ((ktrTop dp un gd cn sc L a' ccd cl outer).deeper (envOf (Str.ofString "_netrclex.get_token") gtS.1 L' 88 (.ref 87))) (envOf (Str.ofString "_netrclex.get_token") gtS.1 L' 88 (.ref 87)) E)
  (codeHd : CodeHd base 108 104) (hkk : sc.kind = .function)
  (F : Fr g L' h (fun y => if y = Str.ofString "self" then some (Value.ref z.x) else if y = Str.ofString "token" then some (Value.str tok0 tt0) else if y = Str.ofString "fiter" then some (Value.ref I) else mm y))
  (hN : news = (I, citObj q t0) :: (q, methodObj (.ref 81) (.ref z.x)) :: (z.led w us0 nn0 ln0 tl0 [] np ++ own))
  (hret : ∀ v t h' tk' m' us' n' ln' tl', cs v = G.1 → SigAre us' G.2 → ln' + cnt G.2 = K → Fr g L' h' m' → News g L' h' ((I, citObj q t0) :: (q, methodObj (.ref 81) (.ref z.x)) :: (z.led w us' n' ln' tl' [] np ++ own)) → Q (.ret (.str v t)) { s with heap := h', toks := tk' })
  (hnext : ∀ v t h' tk' (m' : Str → Option Value) n' ln' tl', cs v = G.1 → G.2 = [] → ln' = K → Fr g L' h' (fun y => if y = Str.ofString "self" then some (Value.ref z.x) else if y = Str.ofString "token" then some (Value.str v t) else if y = Str.ofString "fiter" then some (Value.ref I) else m' y) →
    News g L' h' ((I, citEnd) :: (q, methodObj (.ref 81) (.ref z.x)) :: (z.led w [] n' ln' tl' [] np ++ own)) → Q .next { s with heap := h', toks := tk' }) :
  wpAny (model PySem.Challenge.rw_rw0047_02.prog w) ((ktrTop dp un gd cn sc L a' ccd cl outer).deeper (envOf (Str.ofString "_netrclex.get_token") gtS.1 L' 88 (.ref 87)))
    (exec gtL3.1 (envOf (Str.ofString "_netrclex.get_token") gtS.1 L' 88 (.ref 87))) Q E { s with heap := h, toks := tk0 } := by
  subst hN
  revert X; k_fill; intro X
  have hread := fn_read (f := 81) X (by k_dflt k_is)
  obtain ⟨ord, fdr, hrd, hrfd⟩ := hread
  obtain ⟨Inv, hInv⟩ := opaque_go (GtI w z own g L' I q t0 np K gt3 G s)
  obtain ⟨Go, hGo⟩ := opaque_go (fun n s' => ∃ m, m < n ∧ Inv m s')
  refine for_cit (I := I) (Inv := Inv) (Go := Go) (hGo := fun n s h => (hGo n s).mp h) (by with_unfolding_all rfl) (fun Q' hq => ?_) ⟨_, (N _ (.head _)).1, rfl⟩ l0.length ((hInv _ _).mpr ⟨h, tk0, mm, us0, l0, nn0, ln0, tl0, tok0, tt0, rfl, rfl, F, N, hs0, hG0, hK0, hlen0⟩) ?_ hE
  · with_unfolding_all exact ld F (by with_unfolding_all rfl) hq
  · intro n s' hI
    obtain ⟨h, tk, m', us, l, nn, ln, tl, tok, tt, rfl, rfl, F, N, hs, hG, hK, hlen⟩ := (hInv _ _).mp hI
    clear hI
    have hIL : L' ≠ I := fun e => (N _ (.head _)).2.1 e.symm
    refine cit_next (q := q) (fr := 81) (t0 := t0) (self := .ref z.x) (ofr := ord) (fd := fdr) rfl (N _ (.head _)).1 (N _ (.tail _ (.head _))).1 (F.keep _ _ hrd) hrfd ?_
    with_unfolding_all refine' read_any w [] loose mean mg mb p z us l nn ln tl [] np own I q _ _ hq1 hq2 hz hs (by omega) kMark _ _ _ _ _ _ _ _ _ _ _ _ _ _ _ _ ?k1 F X N T ?k6 ?k7 ?k8 codeHd ?_
    case k1 => exact B
    case k6 => with_unfolding_all rfl
    case k7 => ktr_room
    case k8 => ktr_units
    intro t us' n' ln' tl' h' tk' hs' hk' F' N'
    refine ⟨rdc l, t, rfl, (N' _ (.head _)).1, (N' _ (.tail _ (.head _))).1, F'.keep _ _ hrd, ?_, ?_⟩
    · cases hs with
      | nil => intro hx; exact absurd rfl hx
      | @cons c u vs l hs =>
        intro _
        dsimp only [rdc, List.tail_cons] at hs' hk' ⊢
        obtain ⟨o0, o1, o2, o3, o4, o5, o6, o7, o8, o9, hcell, hcode⟩ := id hz
        have q1 : OwnOff own [z.cl, z.dx, z.pb] := hz.off
        clear o0
        dsimp only [Lx.led, lamP, lamB, lamS] at N'
        simp only [List.cons_append, List.nil_append] at N'
        dsimp only [gtS] at *
        have hlen1 : tok.length + l.length + 1 ≤ 1000 := by simp at hlen; omega
        have hlen2 : l.length ≤ 1000 := by omega
        clear N hlen
        have hgo : ∀ (n : Nat) (h : Heap) (tk : Nat) (m' : Str → Option Value) (us : List Value) (l : List Nat) (nn : Nat) (ln : Int) (tl : Nat) (tok : Str) (tt : Nat), l.length < n → Fr g L' h m' → m' (Str.ofString "self") = some (Value.ref z.x) → m' (Str.ofString "token") = some (Value.str tok tt) → m' (Str.ofString "fiter") = some (Value.ref I) →
            News g L' h ((I, citObj q t0) :: (q, methodObj (.ref 81) (.ref z.x)) :: (z.led w us nn ln tl [] np ++ own)) → SigAre us l → gt3 l (cs tok) = G → ln + cnt l = K → tok.length + l.length ≤ 1000 → Go n { s with heap := h, toks := tk } :=
          fun n h tk m' us l nn ln tl tok tt c1 F a b c N c2 c3 c4 c5 => (hGo _ _).mpr ⟨l.length, c1, (hInv _ _).mpr ⟨h, tk, m', us, l, nn, ln, tl, tok, tt, rfl, rfl, fr_pack F a b c, N, c2, c3, c4, c5⟩⟩
        have hrl := rdc_len l
        have hl0 : l.tail.length = l.length - 1 := List.length_tail
        have ho1 := one_len c
        k_steps
        · have e := sg_1 (by assumption)
          subst e
          obtain ⟨b1, b2⟩ : _ ∧ (tok ++ rdc l).length ≤ _ := by assumption
          refine' hgo _ _ _ _ _ l.tail _ _ _ (tok ++ rdc l) _ ?a1 ?a2 ?a3 ?a4 ?a5 ?a6 ?a7 ?a8 ?a9 ?a10
          case a1 => simp only [List.length_cons]; omega
          case a2 => assumption
          case a6 => with_unfolding_all assumption
          case a7 => assumption
          case a3 => with_unfolding_all rfl
          case a4 => with_unfolding_all rfl
          case a5 => with_unfolding_all rfl
          case a8 => rw [cs_app, ← hG, gt3_b]
          case a9 => omega
          case a10 => omega
        · obtain ⟨b1, b2⟩ : _ ∧ (tok ++ (⟨#[c]⟩ : Str)).length ≤ _ := by assumption
          refine' hgo _ _ _ _ _ l _ _ _ (tok ++ (⟨#[c]⟩ : Str)) _ ?a1 ?a2 ?a3 ?a4 ?a5 ?a6 ?a7 ?a8 ?a9 ?a10
          case a1 => simp only [List.length_cons]; omega
          case a2 => assumption
          case a6 => with_unfolding_all assumption
          case a7 => assumption
          case a3 => with_unfolding_all rfl
          case a4 => with_unfolding_all rfl
          case a5 => with_unfolding_all rfl
          case a8 => rw [cs_app, ← hG]; exact (gt3_o (ws_2 (by assumption)) (sg_2 (by assumption))).symm
          case a9 => omega
          case a10 => omega
        · have e := gt3_ws (r := l) (tok := cs tok) (ws_1 (by assumption))
          rw [hG] at e
          subst e
          refine' hret tok tt _ _ _ us' _ ln' _ rfl hs' (hk'.trans hK) ?a2 ?a6
          case a2 => assumption
          case a6 => with_unfolding_all assumption
    · cases hs with
      | cons c u hs => intro hx; exact absurd hx (by intro e; have := congrArg Str.length e; exact absurd this (by show ¬ 1 = _; decide))
      | nil =>
        intro _ h'' hk'' hE''
        dsimp only [List.tail_nil] at hs' hk'
        cases hs'
        have e0 : cnt ([] : List Nat) = 0 := rfl
        refine hnext tok tt h'' _ m' n' ln' tl' (by rw [← hG]; rfl) (by rw [← hG]; rfl) (by omega) (fr_but F' hIL (N' _ (.head _)).2.2 hk'') (news_but N' (led_ne hz hq1 hq2 hqo) hk'' hE'')
end
section
theorem calm_L2gto2 : True ∧ True := by
  w_top off
  k_with_none
  first
    | (walk1; fail)
    | exact ⟨trivial, trivial⟩
theorem rows_L2gto2_ne : True := by
  k_with "ne" => (refine neN ?_; (try dsimp only); first | (exact Nat.ne_of_gt (And.left (by assumption))) | (exact Nat.ne_of_gt (And.left (And.right (by assumption)))) | (exact Nat.ne_of_gt (And.right (by assumption))) | (exact Nat.ne_of_gt (And.left (And.right (And.right (by assumption))))) | (exact Nat.ne_of_gt (And.right (And.right (by assumption)))) | (exact Nat.ne_of_gt (And.left (And.right (And.right (And.right (by assumption)))))) | (exact Nat.ne_of_gt (And.right (And.right (And.right (by assumption))))) | (exact Nat.ne_of_gt (And.left (And.right (And.right (And.right (And.right (by assumption))))))) | (exact Nat.ne_of_gt (And.right (And.right (And.right (And.right (by assumption)))))) | (exact Nat.ne_of_gt (And.left (And.right (And.right (And.right (And.right (And.right (by assumption)))))))) | (exact Nat.ne_of_gt (And.right (And.right (And.right (And.right (And.right (by assumption))))))) | (exact Nat.ne_of_gt (And.left (And.right (And.right (And.right (And.right (And.right (And.right (by assumption))))))))) | (exact Nat.ne_of_gt (And.right (And.right (And.right (And.right (And.right (And.right (by assumption)))))))) | (exact Nat.ne_of_gt (And.left (And.right (And.right (And.right (And.right (And.right (And.right (And.right (by assumption)))))))))) | (exact Nat.ne_of_gt (And.right (And.right (And.right (And.right (And.right (And.right (And.right (by assumption))))))))) | (exact Nat.ne_of_gt (And.left (And.right (And.right (And.right (And.right (And.right (And.right (And.right (And.right (by assumption))))))))))) | (exact Nat.ne_of_gt (And.right (And.right (And.right (And.right (And.right (And.right (And.right (And.right (by assumption)))))))))) | (exact Nat.ne_of_gt (And.left (And.right (And.right (And.right (And.right (And.right (And.right (And.right (And.right (And.right (by assumption)))))))))))) | (exact Nat.ne_of_gt (And.right (And.right (And.right (And.right (And.right (And.right (And.right (And.right (And.right (by assumption))))))))))) | (exact Nat.ne_of_lt (And.left (by assumption))) | (exact Nat.ne_of_lt (And.left (And.right (by assumption)))) | (exact Nat.ne_of_lt (And.right (by assumption))) | (exact Nat.ne_of_lt (And.left (And.right (And.right (by assumption))))) | (exact Nat.ne_of_lt (And.right (And.right (by assumption)))) | (exact Nat.ne_of_lt (And.left (And.right (And.right (And.right (by assumption)))))) | (exact Nat.ne_of_lt (And.right (And.right (And.right (by assumption))))) | (exact Nat.ne_of_lt (And.left (And.right (And.right (And.right (And.right (by assumption))))))) | (exact Nat.ne_of_lt (And.right (And.right (And.right (And.right (by assumption)))))) | (exact Nat.ne_of_lt (And.left (And.right (And.right (And.right (And.right (And.right (by assumption)))))))) | (exact Nat.ne_of_lt (And.right (And.right (And.right (And.right (And.right (by assumption))))))) | (exact Nat.ne_of_lt (And.left (And.right (And.right (And.right (And.right (And.right (And.right (by assumption))))))))) | (exact Nat.ne_of_lt (And.right (And.right (And.right (And.right (And.right (And.right (by assumption)))))))) | (exact Nat.ne_of_lt (And.left (And.right (And.right (And.right (And.right (And.right (And.right (And.right (by assumption)))))))))) | (exact Nat.ne_of_lt (And.right (And.right (And.right (And.right (And.right (And.right (And.right (by assumption))))))))) | (exact Nat.ne_of_lt (And.left (And.right (And.right (And.right (And.right (And.right (And.right (And.right (And.right (by assumption))))))))))) | (exact Nat.ne_of_lt (And.right (And.right (And.right (And.right (And.right (And.right (And.right (And.right (by assumption)))))))))) | (exact Nat.ne_of_lt (And.left (And.right (And.right (And.right (And.right (And.right (And.right (And.right (And.right (And.right (by assumption)))))))))))) | (exact Nat.ne_of_lt (And.right (And.right (And.right (And.right (And.right (And.right (And.right (And.right (And.right (by assumption))))))))))))
  trivial
/-- a word between quotation marks, its first mark read -/
noncomputable def gt2 : List Nat → List Nat → List Nat × List Nat
  | [], tok => (tok, [])
  | [c], tok => if c = 34 then (tok, []) else if c = 92 then (tok, []) else (tok ++ [c], [])
  | c :: d :: r, tok => if c = 34 then (tok, d :: r) else if c = 92 then gt2 r (tok ++ [d]) else gt2 (d :: r) (tok ++ [c])
theorem gt2_q {r tok : List Nat} : gt2 (34 :: r) tok = (tok, r) := by cases r <;> simp [gt2]
theorem gt2_b {r tok : List Nat} : gt2 (92 :: r) tok = gt2 r.tail (tok ++ cs (rdc r)) := by
  cases r with
  | nil => simp [gt2, rdc]; decide +kernel
  | cons d r => simp [gt2, rdc, cs]
theorem gt2_o {c : Nat} {r tok : List Nat} (h : c ≠ 34) (h2 : c ≠ 92) : gt2 (c :: r) tok = gt2 r (tok ++ [c]) := by
  cases r with
  | nil => simp [gt2, h, h2]
  | cons d r => rw [gt2]; simp [h, h2]
theorem str_q2 : Str.ofString "\"" = ⟨#[34]⟩ := by decide +kernel
theorem sq_1 {c : Nat} (h : ((⟨#[c]⟩ : Str) == Str.ofString "\"") = true) : c = 34 := by
  rw [str_q2] at h
  have h := beq_iff_eq.mp h
  injection h with h
  simpa using h
theorem sq_2 {c : Nat} (h : ((⟨#[c]⟩ : Str) == Str.ofString "\"") = false) : c ≠ 34 := by
  rw [str_q2] at h
  rintro rfl
  simp at h
theorem rows_L2gto2_6 : True := by
  k_with "call ref" => (k_here; refine wpAny_call ?_; (with_unfolding_all refine' read_any _ [] _ _ _ _ _ _ _ _ _ _ _ _ _ _ _ _ _ _ ?h1 ?h2 ?h3 ?h4 ?h5 ?h6 _ _ _ _ _ _ _ _ _ _ _ _ _ _ _ _ ?k1 ?k2 ?k3 ?k4 ?k5 ?k6 ?k7 ?k8 ?k9 ?_); (case h3 => assumption); (case k2 => k_asm); (case k4 => with_unfolding_all assumption); (case k1 => k_asm); (case k3 => k_asm); (case k5 => k_asm); (case k6 => with_unfolding_all rfl); (case k7 => ktr_room); (case k8 => ktr_units); (case h4 => assumption); (case h5 => assumption); (case h1 => assumption); (case h2 => assumption); (case h6 => assumption); (case k9 => assumption); intro tqRow usqRow nqRow lnqRow tlqRow hqRow tkqRow hsqRow hkqRow FqRow NqRow; (try dsimp only [Lx.led, lamP, lamB, lamS] at NqRow); (try simp only [List.cons_append, List.nil_append] at NqRow))
  trivial
theorem gt_L2 (w : World) (news : CbLed) (loose : List Str) (mean : ExcName → Option Value) (mg mb : Str → Option Value) (p : Program) (z : Lx) (us0 : List Value) (l0 : List Nat) (nn0 : Nat) (ln0 : Int) (tl0 : Nat) (np : Nat) (own : CbLed) (I q t0 : Nat) (hq1 : z.pb < q) (hq2 : q < I) (hqo : ∀ p ∈ own, p.1 ≠ I) (hz : z.Ok own) (hs0 : SigAre us0 l0) (tok0 : Str) (tt0 : Nat) (kMark : KstMark)
  (G : List Nat × List Nat) (K : Int) (hG0 : gt2 l0 (cs tok0) = G) (hK0 : ln0 + cnt l0 = K) (hlen0 : tok0.length + l0.length ≤ 1000)
  (rest : List Stmt) (dp un : Nat) (gd : Option (List Code)) (cn : Str) (sc : Scope) (a' : CbAddr) (ccd : CbVal) (cl : List (Str × CbAddr)) (outer : List Env) (base g h : Heap) (L L' : CbAddr) (mm : Str → Option Value) (s : Shared) (tk0 : Nat)
  (Q : Flow → Shared → Prop) (E : Value → Shared → Prop)
  (B : Below (ktrTop dp un gd cn sc L a' ccd cl outer) base (envX cn sc L a' ccd cl :: outer) g) (hdp : dp + 100 < recursionLimit) (hun : un + 500 < cLine)
  (N : News g L' h news) (X : (Mine.hd.heap_39 w.params).In g) (T : Top p loose mean mg mb g)
  (hE : PassesOwn (model PySem.Challenge.rw_rw0047_02.prog w) ((ktrTop dp un gd cn sc L a' ccd cl outer).deeper (envOf (Str.ofString "_netrclex.get_token") gtS.1 L' 88 (.ref 87))) (envOf (Str.ofString "_netrclex.get_token") gtS.1 L' 88 (.ref 87)) E)
  (codeHd : CodeHd base 108 104) (hkk : sc.kind = .function)
  (F : Fr g L' h (fun y => if y = Str.ofString "self" then some (Value.ref z.x) else if y = Str.ofString "token" then some (Value.str tok0 tt0) else if y = Str.ofString "fiter" then some (Value.ref I) else mm y))
  (hN : news = (I, citObj q t0) :: (q, methodObj (.ref 81) (.ref z.x)) :: (z.led w us0 nn0 ln0 tl0 [] np ++ own))
  (hret : ∀ v t h' tk' m' us' n' ln' tl', cs v = G.1 → SigAre us' G.2 → ln' + cnt G.2 = K → Fr g L' h' m' → News g L' h' ((I, citObj q t0) :: (q, methodObj (.ref 81) (.ref z.x)) :: (z.led w us' n' ln' tl' [] np ++ own)) → Q (.ret (.str v t)) { s with heap := h', toks := tk' })
  (hnext : ∀ v t h' tk' (m' : Str → Option Value) n' ln' tl', cs v = G.1 → G.2 = [] → ln' = K → Fr g L' h' (fun y => if y = Str.ofString "self" then some (Value.ref z.x) else if y = Str.ofString "token" then some (Value.str v t) else if y = Str.ofString "fiter" then some (Value.ref I) else m' y) →
    News g L' h' ((I, citEnd) :: (q, methodObj (.ref 81) (.ref z.x)) :: (z.led w [] n' ln' tl' [] np ++ own)) → Q .next { s with heap := h', toks := tk' }) :
  wpAny (model PySem.Challenge.rw_rw0047_02.prog w) ((ktrTop dp un gd cn sc L a' ccd cl outer).deeper (envOf (Str.ofString "_netrclex.get_token") gtS.1 L' 88 (.ref 87)))
    (exec gtL2.1 (envOf (Str.ofString "_netrclex.get_token") gtS.1 L' 88 (.ref 87))) Q E { s with heap := h, toks := tk0 } := by
  subst hN
  revert X; k_fill; intro X
  have hread := fn_read (f := 81) X (by k_dflt k_is)
  obtain ⟨ord, fdr, hrd, hrfd⟩ := hread
  obtain ⟨Inv, hInv⟩ := opaque_go (GtI w z own g L' I q t0 np K gt2 G s)
  obtain ⟨Go, hGo⟩ := opaque_go (fun n s' => ∃ m, m < n ∧ Inv m s')
  refine for_cit (I := I) (Inv := Inv) (Go := Go) (hGo := fun n s h => (hGo n s).mp h) (by with_unfolding_all rfl) (fun Q' hq => ?_) ⟨_, (N _ (.head _)).1, rfl⟩ l0.length ((hInv _ _).mpr ⟨h, tk0, mm, us0, l0, nn0, ln0, tl0, tok0, tt0, rfl, rfl, F, N, hs0, hG0, hK0, hlen0⟩) ?_ hE
  · with_unfolding_all exact ld F (by with_unfolding_all rfl) hq
  · intro n s' hI
    obtain ⟨h, tk, m', us, l, nn, ln, tl, tok, tt, rfl, rfl, F, N, hs, hG, hK, hlen⟩ := (hInv _ _).mp hI
    clear hI
    have hIL : L' ≠ I := fun e => (N _ (.head _)).2.1 e.symm
    refine cit_next (q := q) (fr := 81) (t0 := t0) (self := .ref z.x) (ofr := ord) (fd := fdr) rfl (N _ (.head _)).1 (N _ (.tail _ (.head _))).1 (F.keep _ _ hrd) hrfd ?_
    with_unfolding_all refine' read_any w [] loose mean mg mb p z us l nn ln tl [] np own I q _ _ hq1 hq2 hz hs (by omega) kMark _ _ _ _ _ _ _ _ _ _ _ _ _ _ _ _ ?k1 F X N T ?k6 ?k7 ?k8 codeHd ?_
    case k1 => exact B
    case k6 => with_unfolding_all rfl
    case k7 => ktr_room
    case k8 => ktr_units
    intro t us' n' ln' tl' h' tk' hs' hk' F' N'
    refine ⟨rdc l, t, rfl, (N' _ (.head _)).1, (N' _ (.tail _ (.head _))).1, F'.keep _ _ hrd, ?_, ?_⟩
    · cases hs with
      | nil => intro hx; exact absurd rfl hx
      | @cons c u vs l hs =>
        intro _
        dsimp only [rdc, List.tail_cons] at hs' hk' ⊢
        obtain ⟨o0, o1, o2, o3, o4, o5, o6, o7, o8, o9, hcell, hcode⟩ := id hz
        have q1 : OwnOff own [z.cl, z.dx, z.pb] := hz.off
        clear o0
        dsimp only [Lx.led, lamP, lamB, lamS] at N'
        simp only [List.cons_append, List.nil_append] at N'
        dsimp only [gtS] at *
        have hlen1 : tok.length + l.length + 1 ≤ 1000 := by simp at hlen; omega
        have hlen2 : l.length ≤ 1000 := by omega
        clear N hlen
        have hgo : ∀ (n : Nat) (h : Heap) (tk : Nat) (m' : Str → Option Value) (us : List Value) (l : List Nat) (nn : Nat) (ln : Int) (tl : Nat) (tok : Str) (tt : Nat), l.length < n → Fr g L' h m' → m' (Str.ofString "self") = some (Value.ref z.x) → m' (Str.ofString "token") = some (Value.str tok tt) → m' (Str.ofString "fiter") = some (Value.ref I) →
            News g L' h ((I, citObj q t0) :: (q, methodObj (.ref 81) (.ref z.x)) :: (z.led w us nn ln tl [] np ++ own)) → SigAre us l → gt2 l (cs tok) = G → ln + cnt l = K → tok.length + l.length ≤ 1000 → Go n { s with heap := h, toks := tk } :=
          fun n h tk m' us l nn ln tl tok tt c1 F a b c N c2 c3 c4 c5 => (hGo _ _).mpr ⟨l.length, c1, (hInv _ _).mpr ⟨h, tk, m', us, l, nn, ln, tl, tok, tt, rfl, rfl, fr_pack F a b c, N, c2, c3, c4, c5⟩⟩
        have hrl := rdc_len l
        have hl0 : l.tail.length = l.length - 1 := List.length_tail
        have ho1 := one_len c
        k_steps
        all_goals first
          | (have e := sq_1 (c := c) (by assumption)
             subst e
             have e := gt2_q (r := l) (tok := cs tok)
             rw [hG] at e
             subst e
             refine' hret tok tt _ _ _ us' _ ln' _ rfl hs' (hk'.trans hK) ?a2 ?a6
             case a2 => assumption
             case a6 => with_unfolding_all assumption)
          | (have e := sg_1 (c := c) (by assumption)
             subst e
             obtain ⟨b1, b2⟩ : _ ∧ (tok ++ rdc l).length ≤ _ := by assumption
             refine' hgo _ _ _ _ _ l.tail _ _ _ (tok ++ rdc l) _ ?a1 ?a2 ?a3 ?a4 ?a5 ?a6 ?a7 ?a8 ?a9 ?a10
             case a1 => simp only [List.length_cons]; omega
             case a2 => assumption
             case a6 => with_unfolding_all assumption
             case a7 => assumption
             case a3 => with_unfolding_all rfl
             case a4 => with_unfolding_all rfl
             case a5 => with_unfolding_all rfl
             case a8 => rw [cs_app, ← hG, gt2_b]
             case a9 => omega
             case a10 => omega)
          | (obtain ⟨b1, b2⟩ : _ ∧ (tok ++ (⟨#[c]⟩ : Str)).length ≤ _ := by assumption
             refine' hgo _ _ _ _ _ l _ _ _ (tok ++ (⟨#[c]⟩ : Str)) _ ?a1 ?a2 ?a3 ?a4 ?a5 ?a6 ?a7 ?a8 ?a9 ?a10
             case a1 => simp only [List.length_cons]; omega
             case a2 => assumption
             case a6 => with_unfolding_all assumption
             case a7 => assumption
             case a3 => with_unfolding_all rfl
             case a4 => with_unfolding_all rfl
             case a5 => with_unfolding_all rfl
             case a8 => rw [cs_app, ← hG]; exact (gt2_o (sq_2 (by assumption)) (sg_2 (by assumption))).symm
             case a9 => omega
             case a10 => omega)
    · cases hs with
      | cons c u hs => intro hx; exact absurd hx (by intro e; have := congrArg Str.length e; exact absurd this (by show ¬ 1 = _; decide))
      | nil =>
        intro _ h'' hk'' hE''
        dsimp only [List.tail_nil] at hs' hk'
        cases hs'
        have e0 : cnt ([] : List Nat) = 0 := rfl
        refine hnext tok tt h'' _ m' n' ln' tl' (by rw [← hG]; rfl) (by rw [← hG]; rfl) (by omega) (fr_but F' hIL (N' _ (.head _)).2.2 hk'') (news_but N' (led_ne hz hq1 hq2 hqo) hk'' hE'')
end
section
theorem calm_L2gto1 : True ∧ True := by
  w_top off
  k_with_none
  first
    | (walk1; fail)
    | exact ⟨trivial, trivial⟩
theorem rows_L2gto1_ne : True := by
  k_with "ne" => (refine neN ?_; (try dsimp only); first | (exact Nat.ne_of_gt (And.left (by assumption))) | (exact Nat.ne_of_gt (And.left (And.right (by assumption)))) | (exact Nat.ne_of_gt (And.right (by assumption))) | (exact Nat.ne_of_gt (And.left (And.right (And.right (by assumption))))) | (exact Nat.ne_of_gt (And.right (And.right (by assumption)))) | (exact Nat.ne_of_gt (And.left (And.right (And.right (And.right (by assumption)))))) | (exact Nat.ne_of_gt (And.right (And.right (And.right (by assumption))))) | (exact Nat.ne_of_gt (And.left (And.right (And.right (And.right (And.right (by assumption))))))) | (exact Nat.ne_of_gt (And.right (And.right (And.right (And.right (by assumption)))))) | (exact Nat.ne_of_gt (And.left (And.right (And.right (And.right (And.right (And.right (by assumption)))))))) | (exact Nat.ne_of_gt (And.right (And.right (And.right (And.right (And.right (by assumption))))))) | (exact Nat.ne_of_gt (And.left (And.right (And.right (And.right (And.right (And.right (And.right (by assumption))))))))) | (exact Nat.ne_of_gt (And.right (And.right (And.right (And.right (And.right (And.right (by assumption)))))))) | (exact Nat.ne_of_gt (And.left (And.right (And.right (And.right (And.right (And.right (And.right (And.right (by assumption)))))))))) | (exact Nat.ne_of_gt (And.right (And.right (And.right (And.right (And.right (And.right (And.right (by assumption))))))))) | (exact Nat.ne_of_gt (And.left (And.right (And.right (And.right (And.right (And.right (And.right (And.right (And.right (by assumption))))))))))) | (exact Nat.ne_of_gt (And.right (And.right (And.right (And.right (And.right (And.right (And.right (And.right (by assumption)))))))))) | (exact Nat.ne_of_gt (And.left (And.right (And.right (And.right (And.right (And.right (And.right (And.right (And.right (And.right (by assumption)))))))))))) | (exact Nat.ne_of_gt (And.right (And.right (And.right (And.right (And.right (And.right (And.right (And.right (And.right (by assumption))))))))))) | (exact Nat.ne_of_lt (And.left (by assumption))) | (exact Nat.ne_of_lt (And.left (And.right (by assumption)))) | (exact Nat.ne_of_lt (And.right (by assumption))) | (exact Nat.ne_of_lt (And.left (And.right (And.right (by assumption))))) | (exact Nat.ne_of_lt (And.right (And.right (by assumption)))) | (exact Nat.ne_of_lt (And.left (And.right (And.right (And.right (by assumption)))))) | (exact Nat.ne_of_lt (And.right (And.right (And.right (by assumption))))) | (exact Nat.ne_of_lt (And.left (And.right (And.right (And.right (And.right (by assumption))))))) | (exact Nat.ne_of_lt (And.right (And.right (And.right (And.right (by assumption)))))) | (exact Nat.ne_of_lt (And.left (And.right (And.right (And.right (And.right (And.right (by assumption)))))))) | (exact Nat.ne_of_lt (And.right (And.right (And.right (And.right (And.right (by assumption))))))) | (exact Nat.ne_of_lt (And.left (And.right (And.right (And.right (And.right (And.right (And.right (by assumption))))))))) | (exact Nat.ne_of_lt (And.right (And.right (And.right (And.right (And.right (And.right (by assumption)))))))) | (exact Nat.ne_of_lt (And.left (And.right (And.right (And.right (And.right (And.right (And.right (And.right (by assumption)))))))))) | (exact Nat.ne_of_lt (And.right (And.right (And.right (And.right (And.right (And.right (And.right (by assumption))))))))) | (exact Nat.ne_of_lt (And.left (And.right (And.right (And.right (And.right (And.right (And.right (And.right (And.right (by assumption))))))))))) | (exact Nat.ne_of_lt (And.right (And.right (And.right (And.right (And.right (And.right (And.right (And.right (by assumption)))))))))) | (exact Nat.ne_of_lt (And.left (And.right (And.right (And.right (And.right (And.right (And.right (And.right (And.right (And.right (by assumption)))))))))))) | (exact Nat.ne_of_lt (And.right (And.right (And.right (And.right (And.right (And.right (And.right (And.right (And.right (by assumption))))))))))))
  trivial
/-- what get_token makes of the signs to come -/
noncomputable def gtT : List Nat → List Nat × List Nat
  | [] => ([], [])
  | c :: r => if isWs c then gtT r else if c = 34 then gt2 r [] else if c = 92 then gt3 r.tail (cs (rdc r)) else gt3 r [c]
theorem rows_L2gto1_7 : True := by
  k_with "call ref" => (k_here; refine wpAny_call ?_; (with_unfolding_all refine' read_any _ [] _ _ _ _ _ _ _ _ _ _ _ _ _ _ _ _ _ _ ?h1 ?h2 ?h3 ?h4 ?h5 ?h6 _ _ _ _ _ _ _ _ _ _ _ _ _ _ _ _ ?k1 ?k2 ?k3 ?k4 ?k5 ?k6 ?k7 ?k8 ?k9 ?_); (case h3 => assumption); (case k2 => k_asm); (case k4 => with_unfolding_all assumption); (case k1 => k_asm); (case k3 => k_asm); (case k5 => k_asm); (case k6 => with_unfolding_all rfl); (case k7 => ktr_room); (case k8 => ktr_units); (case h4 => assumption); (case h5 => assumption); (case h1 => assumption); (case h2 => assumption); (case h6 => assumption); (case k9 => assumption); intro tqRow usqRow nqRow lnqRow tlqRow hqRow tkqRow hsqRow hkqRow FqRow NqRow; (try dsimp only [Lx.led, lamP, lamB, lamS] at NqRow); (try simp only [List.cons_append, List.nil_append] at NqRow))
  trivial
/-- what holds at a turn of the outer loop -/
inductive GtO (w : World) (z : Lx) (own : CbLed) (g : Heap) (L' I q t0 np : Nat) (K : Int) (G : List Nat × List Nat) (s : Shared) (n : Nat) (s' : Shared) : Prop
  | mk (h : Heap) (tk : Nat) (m' : Str → Option Value) (us : List Value) (l : List Nat) (nn : Nat) (ln : Int) (tl : Nat) (tok : Str) (tt : Nat) (oI : Obj) (es : s' = { s with heap := h, toks := tk }) (hK : ln + cnt l = K) (hs : SigAre us l)
    (F : Fr g L' h (fun y => if y = Str.ofString "self" then some (Value.ref z.x) else if y = Str.ofString "token" then some (Value.str tok tt) else if y = Str.ofString "fiter" then some (Value.ref I) else m' y))
    (N : News g L' h ((I, oI) :: (q, methodObj (.ref 81) (.ref z.x)) :: (z.led w us nn ln tl [] np ++ own)))
    (hc : (n = l.length + 1 ∧ oI = citObj q t0 ∧ tok = Str.ofString "" ∧ gtT l = G ∧ l.length ≤ 900) ∨ (n = 0 ∧ oI = citEnd ∧ cs tok = G.1 ∧ G.2 = l)) : GtO w z own g L' I q t0 np K G s n s'
theorem gt_L1 (w : World) (news : CbLed) (loose : List Str) (mean : ExcName → Option Value) (mg mb : Str → Option Value) (p : Program) (z : Lx) (us0 : List Value) (l0 : List Nat) (nn0 : Nat) (ln0 : Int) (tl0 : Nat) (np : Nat) (own : CbLed) (I q t0 : Nat) (hq1 : z.pb < q) (hq2 : q < I) (hqo : ∀ p ∈ own, p.1 ≠ I) (hz : z.Ok own) (hs0 : SigAre us0 l0) (tt0 : Nat) (kMark : KstMark)
  (G : List Nat × List Nat) (K : Int) (hG0 : gtT l0 = G) (hK0 : ln0 + cnt l0 = K) (hlen0 : l0.length ≤ 900)
  (rest : List Stmt) (dp un : Nat) (gd : Option (List Code)) (cn : Str) (sc : Scope) (a' : CbAddr) (ccd : CbVal) (cl : List (Str × CbAddr)) (outer : List Env) (base g h : Heap) (L L' : CbAddr) (mm : Str → Option Value) (s : Shared) (tk0 : Nat)
  (Q : Flow → Shared → Prop) (E : Value → Shared → Prop)
  (B : Below (ktrTop dp un gd cn sc L a' ccd cl outer) base (envX cn sc L a' ccd cl :: outer) g) (hdp : dp + 100 < recursionLimit) (hun : un + 500 < cLine)
  (N : News g L' h news) (X : (Mine.hd.heap_39 w.params).In g) (T : Top p loose mean mg mb g)
  (hE : PassesOwn (model PySem.Challenge.rw_rw0047_02.prog w) ((ktrTop dp un gd cn sc L a' ccd cl outer).deeper (envOf (Str.ofString "_netrclex.get_token") gtS.1 L' 88 (.ref 87))) (envOf (Str.ofString "_netrclex.get_token") gtS.1 L' 88 (.ref 87)) E)
  (codeHd : CodeHd base 108 104) (hkk : sc.kind = .function)
  (F : Fr g L' h (fun y => if y = Str.ofString "self" then some (Value.ref z.x) else if y = Str.ofString "token" then some (Value.str (Str.ofString "") tt0) else if y = Str.ofString "fiter" then some (Value.ref I) else mm y))
  (hN : news = (I, citObj q t0) :: (q, methodObj (.ref 81) (.ref z.x)) :: (z.led w us0 nn0 ln0 tl0 [] np ++ own))
  (hret : ∀ v t h' tk' m' us' n' ln' tl', cs v = G.1 → SigAre us' G.2 → ln' + cnt G.2 = K → Fr g L' h' m' → News g L' h' (z.led w us' n' ln' tl' [] np ++ own) → Q (.ret (.str v t)) { s with heap := h', toks := tk' })
  (hnext : ∀ v t h' tk' (m' : Str → Option Value) us' n' ln' tl', cs v = G.1 → SigAre us' G.2 → ln' + cnt G.2 = K → Fr g L' h' m' → m' (Str.ofString "token") = some (.str v t) → News g L' h' (z.led w us' n' ln' tl' [] np ++ own) → Q .next { s with heap := h', toks := tk' }) :
  wpAny (model PySem.Challenge.rw_rw0047_02.prog w) ((ktrTop dp un gd cn sc L a' ccd cl outer).deeper (envOf (Str.ofString "_netrclex.get_token") gtS.1 L' 88 (.ref 87)))
    (exec gtL1.1 (envOf (Str.ofString "_netrclex.get_token") gtS.1 L' 88 (.ref 87))) Q E { s with heap := h, toks := tk0 } := by
  subst hN
  revert X; k_fill; intro X
  have hread := fn_read (f := 81) X (by k_dflt k_is)
  obtain ⟨ord, fdr, hrd, hrfd⟩ := hread
  obtain ⟨Inv, hInv⟩ := opaque_go (GtO w z own g L' I q t0 np K G s)
  obtain ⟨Go, hGo⟩ := opaque_go (fun n s' => ∃ m, m < n ∧ Inv m s')
  refine for_cit (I := I) (Inv := Inv) (Go := Go) (hGo := fun n s h => (hGo n s).mp h) (by with_unfolding_all rfl) (fun Q' hq => ?_) ⟨_, (N _ (.head _)).1, rfl⟩ (l0.length + 1) ((hInv _ _).mpr ⟨h, tk0, mm, us0, l0, nn0, ln0, tl0, Str.ofString "", tt0, _, rfl, hK0, hs0, F, N, .inl ⟨rfl, rfl, rfl, hG0, hlen0⟩⟩) ?_ hE
  · with_unfolding_all exact ld F (by with_unfolding_all rfl) hq
  · intro n s' hI
    obtain ⟨h, tk, m', us, l, nn, ln, tl, tok, tt, oI, rfl, hK, hs, F, N, hI2⟩ := (hInv _ _).mp hI
    clear hI
    have hIL : L' ≠ I := fun e => (N _ (.head _)).2.1 e.symm
    rcases hI2 with ⟨rfl, rfl, rfl, hG, hlen⟩ | ⟨rfl, rfl, hG, hG2⟩
    · refine cit_next (q := q) (fr := 81) (t0 := t0) (self := .ref z.x) (ofr := ord) (fd := fdr) rfl (N _ (.head _)).1 (N _ (.tail _ (.head _))).1 (F.keep _ _ hrd) hrfd ?_
      with_unfolding_all refine' read_any w [] loose mean mg mb p z us l nn ln tl [] np own I q _ _ hq1 hq2 hz hs (by omega) kMark _ _ _ _ _ _ _ _ _ _ _ _ _ _ _ _ ?k1 F X N T ?k6 ?k7 ?k8 codeHd ?_
      case k1 => exact B
      case k6 => with_unfolding_all rfl
      case k7 => ktr_room
      case k8 => ktr_units
      intro t us' n' ln' tl' h' tk' hs' hk' F' N'
      refine ⟨rdc l, t, rfl, (N' _ (.head _)).1, (N' _ (.tail _ (.head _))).1, F'.keep _ _ hrd, ?_, ?_⟩
      · cases hs with
        | nil => intro hx; exact absurd rfl hx
        | @cons c u vs l hs =>
          intro _
          dsimp only [rdc, List.tail_cons] at hs' hk' ⊢
          obtain ⟨o0, o1, o2, o3, o4, o5, o6, o7, o8, o9, hcell, hcode⟩ := id hz
          have q1 : OwnOff own [z.cl, z.dx, z.pb] := hz.off
          clear o0
          dsimp only [Lx.led, lamP, lamB, lamS] at N'
          simp only [List.cons_append, List.nil_append] at N'
          dsimp only [gtS] at *
          have hlen1 : l.length + 1 ≤ 900 := by simp at hlen; omega
          have hlen2 : l.length ≤ 1000 := by omega
          clear N hlen
          have hrl := rdc_len l
          have hl0 : l.tail.length = l.length - 1 := List.length_tail
          have ho1 := one_len c
          have eE : cs (Str.ofString "") = [] := by decide +kernel
          have eL : (Str.ofString "").length = 0 := by decide +kernel
          k_steps
          · have e := sq_1 (c := c) (by assumption); subst e
            rename Fr _ _ _ _ => FF
            rename News _ _ _ _ => NN
            have F2 := fr_pack (x1 := .ref z.x) (x2 := .str (Str.ofString "") _) (x3 := .ref I) FF (by with_unfolding_all rfl) (by with_unfolding_all rfl) (by with_unfolding_all rfl)
            with_unfolding_all refine' gt_L2 w _ loose mean mg mb p z _ l _ _ _ np own I q t0 hq1 hq2 hqo hz ?hs0 _ _ kMark G K ?hG0 ?hK0 ?hlen0 [] dp un gd cn sc a' ccd cl outer base g _ L L' _ s _ _ E B hdp hun NN X T hE codeHd hkk F2 ?hN ?hr ?hn
            case hN => with_unfolding_all rfl
            case hs0 => assumption
            case hG0 => rw [eE, ← hG]; simp [gtT, isWs]
            case hK0 => omega
            case hlen0 => omega
            case hr => exact fun v t h' tk' m' us' n' ln' tl' e1 e2 e3 F N => hret v t h' tk' m' us' n' ln' tl' e1 e2 e3 F (fun p hp => N p (.tail _ (.tail _ hp)))
            case hn =>
              intro v t h' tk' m' n' ln' tl' e1 e2 e3 F N
              repeat refine wpAny_execs_nil ?_
              exact (hGo _ _).mpr ⟨0, Nat.succ_pos _, (hInv _ _).mpr ⟨h', tk', m', [], [], n', ln', tl', v, t, _, rfl, by rw [show cnt ([] : List Nat) = 0 from rfl, e3]; exact Int.add_zero _, .nil, F, N, .inr ⟨rfl, rfl, e1, e2⟩⟩⟩
          · have e := sg_1 (c := c) (by assumption); subst e; obtain ⟨b1, b2⟩ : _ ∧ (Str.ofString "" ++ rdc l).length ≤ _ := by assumption
            rename Fr _ _ _ _ => FF
            rename News _ _ _ _ => NN
            have F2 := fr_pack (x1 := .ref z.x) (x2 := .str (Str.ofString "" ++ rdc l) _) (x3 := .ref I) FF (by with_unfolding_all rfl) (by with_unfolding_all rfl) (by with_unfolding_all rfl)
            with_unfolding_all refine' gt_L3 w _ loose mean mg mb p z _ l.tail _ _ _ np own I q t0 hq1 hq2 hqo hz ?hs0 _ _ kMark G K ?hG0 ?hK0 ?hlen0 [] dp un gd cn sc a' ccd cl outer base g _ L L' _ s _ _ E B hdp hun NN X T hE codeHd hkk F2 ?hN ?hr ?hn
            case hN => with_unfolding_all rfl
            case hs0 => assumption
            case hG0 => rw [cs_app, eE, List.nil_append, ← hG]; simp [gtT, isWs]
            case hK0 => omega
            case hlen0 => omega
            case hr => exact fun v t h' tk' m' us' n' ln' tl' e1 e2 e3 F N => hret v t h' tk' m' us' n' ln' tl' e1 e2 e3 F (fun p hp => N p (.tail _ (.tail _ hp)))
            case hn =>
              intro v t h' tk' m' n' ln' tl' e1 e2 e3 F N
              repeat refine wpAny_execs_nil ?_
              exact (hGo _ _).mpr ⟨0, Nat.succ_pos _, (hInv _ _).mpr ⟨h', tk', m', [], [], n', ln', tl', v, t, _, rfl, by rw [show cnt ([] : List Nat) = 0 from rfl, e3]; exact Int.add_zero _, .nil, F, N, .inr ⟨rfl, rfl, e1, e2⟩⟩⟩
          · obtain ⟨b1, b2⟩ : _ ∧ (Str.ofString "" ++ (⟨#[c]⟩ : Str)).length ≤ _ := by assumption
            rename Fr _ _ _ _ => FF
            rename News _ _ _ _ => NN
            have F2 := fr_pack (x1 := .ref z.x) (x2 := .str (Str.ofString "" ++ (⟨#[c]⟩ : Str)) _) (x3 := .ref I) FF (by with_unfolding_all rfl) (by with_unfolding_all rfl) (by with_unfolding_all rfl)
            with_unfolding_all refine' gt_L3 w _ loose mean mg mb p z _ l _ _ _ np own I q t0 hq1 hq2 hqo hz ?hs0 _ _ kMark G K ?hG0 ?hK0 ?hlen0 [] dp un gd cn sc a' ccd cl outer base g _ L L' _ s _ _ E B hdp hun NN X T hE codeHd hkk F2 ?hN ?hr ?hn
            case hN => with_unfolding_all rfl
            case hs0 => assumption
            case hG0 => rw [cs_app, eE, List.nil_append, ← hG]; have h1 := ws_2 (c := c) (by assumption); have h2 := sq_2 (c := c) (by assumption); have h3 := sg_2 (c := c) (by assumption); simp [gtT, h1, h2, h3]; rfl
            case hK0 => omega
            case hlen0 => omega
            case hr => exact fun v t h' tk' m' us' n' ln' tl' e1 e2 e3 F N => hret v t h' tk' m' us' n' ln' tl' e1 e2 e3 F (fun p hp => N p (.tail _ (.tail _ hp)))
            case hn =>
              intro v t h' tk' m' n' ln' tl' e1 e2 e3 F N
              repeat refine wpAny_execs_nil ?_
              exact (hGo _ _).mpr ⟨0, Nat.succ_pos _, (hInv _ _).mpr ⟨h', tk', m', [], [], n', ln', tl', v, t, _, rfl, by rw [show cnt ([] : List Nat) = 0 from rfl, e3]; exact Int.add_zero _, .nil, F, N, .inr ⟨rfl, rfl, e1, e2⟩⟩⟩
          · rename Fr _ _ _ _ => FF
            rename News _ _ _ _ => NN
            have F2 := fr_pack (x1 := .ref z.x) (x2 := .str (Str.ofString "") _) (x3 := .ref I) FF (by with_unfolding_all rfl) (by with_unfolding_all rfl) (by with_unfolding_all rfl)
            refine (hGo _ _).mpr ⟨l.length + 1, Nat.lt_succ_self _, (hInv _ _).mpr ⟨_, _, _, us', l, _, ln', _, Str.ofString "", _, _, rfl, hk'.trans hK, hs', F2, NN, .inl ⟨rfl, rfl, rfl, ?_, by omega⟩⟩⟩
            have h1 := ws_1 (c := c) (by assumption)
            rw [← hG]
            simp [gtT, h1]
      · cases hs with
        | cons c u hs => intro hx; exact absurd hx (by intro e; have := congrArg Str.length e; exact absurd this (by show ¬ 1 = _; decide))
        | nil =>
          intro _ h'' hk'' hE''
          dsimp only [List.tail_nil] at hs' hk'
          cases hs'
          have e0 : cnt ([] : List Nat) = 0 := rfl
          have hN := news_but N' (led_ne hz hq1 hq2 hqo) hk'' hE''
          refine hnext (Str.ofString "") tt h'' _ _ [] n' ln' tl' (by rw [← hG]; rfl) (by rw [← hG]; exact .nil) (by rw [← hG]; exact hk'.trans hK) (fr_but F' hIL (N' _ (.head _)).2.2 hk'') (by with_unfolding_all rfl) (fun p hp => hN p (.tail _ (.tail _ hp)))
    · refine cit_next_end rfl (N _ (.head _)).1 fun h' hk => ?_
      refine hnext tok tt h' _ _ us nn ln tl hG (hG2 ▸ hs) (hG2 ▸ hK) (F.keptAll hk) (by with_unfolding_all rfl) fun p hp => ?_
      obtain ⟨a, b⟩ := N p (.tail _ (.tail _ hp))
      exact ⟨hk _ _ a, b⟩
end
section
theorem calm_L2gto : True ∧ True := by
  w_top off
  k_with_none
  first
    | (walk1; fail)
    | exact ⟨trivial, trivial⟩
theorem rows_L2gto_ne : True := by
  k_with "ne" => (refine neN ?_; (try dsimp only); first | (exact Nat.ne_of_gt (And.left (by assumption))) | (exact Nat.ne_of_gt (And.left (And.right (by assumption)))) | (exact Nat.ne_of_gt (And.right (by assumption))) | (exact Nat.ne_of_gt (And.left (And.right (And.right (by assumption))))) | (exact Nat.ne_of_gt (And.right (And.right (by assumption)))) | (exact Nat.ne_of_gt (And.left (And.right (And.right (And.right (by assumption)))))) | (exact Nat.ne_of_gt (And.right (And.right (And.right (by assumption))))) | (exact Nat.ne_of_gt (And.left (And.right (And.right (And.right (And.right (by assumption))))))) | (exact Nat.ne_of_gt (And.right (And.right (And.right (And.right (by assumption)))))) | (exact Nat.ne_of_gt (And.left (And.right (And.right (And.right (And.right (And.right (by assumption)))))))) | (exact Nat.ne_of_gt (And.right (And.right (And.right (And.right (And.right (by assumption))))))) | (exact Nat.ne_of_gt (And.left (And.right (And.right (And.right (And.right (And.right (And.right (by assumption))))))))) | (exact Nat.ne_of_gt (And.right (And.right (And.right (And.right (And.right (And.right (by assumption)))))))) | (exact Nat.ne_of_gt (And.left (And.right (And.right (And.right (And.right (And.right (And.right (And.right (by assumption)))))))))) | (exact Nat.ne_of_gt (And.right (And.right (And.right (And.right (And.right (And.right (And.right (by assumption))))))))) | (exact Nat.ne_of_gt (And.left (And.right (And.right (And.right (And.right (And.right (And.right (And.right (And.right (by assumption))))))))))) | (exact Nat.ne_of_gt (And.right (And.right (And.right (And.right (And.right (And.right (And.right (And.right (by assumption)))))))))) | (exact Nat.ne_of_gt (And.left (And.right (And.right (And.right (And.right (And.right (And.right (And.right (And.right (And.right (by assumption)))))))))))) | (exact Nat.ne_of_gt (And.right (And.right (And.right (And.right (And.right (And.right (And.right (And.right (And.right (by assumption))))))))))) | (exact Nat.ne_of_lt (And.left (by assumption))) | (exact Nat.ne_of_lt (And.left (And.right (by assumption)))) | (exact Nat.ne_of_lt (And.right (by assumption))) | (exact Nat.ne_of_lt (And.left (And.right (And.right (by assumption))))) | (exact Nat.ne_of_lt (And.right (And.right (by assumption)))) | (exact Nat.ne_of_lt (And.left (And.right (And.right (And.right (by assumption)))))) | (exact Nat.ne_of_lt (And.right (And.right (And.right (by assumption))))) | (exact Nat.ne_of_lt (And.left (And.right (And.right (And.right (And.right (by assumption))))))) | (exact Nat.ne_of_lt (And.right (And.right (And.right (And.right (by assumption)))))) | (exact Nat.ne_of_lt (And.left (And.right (And.right (And.right (And.right (And.right (by assumption)))))))) | (exact Nat.ne_of_lt (And.right (And.right (And.right (And.right (And.right (by assumption))))))) | (exact Nat.ne_of_lt (And.left (And.right (And.right (And.right (And.right (And.right (And.right (by assumption))))))))) | (exact Nat.ne_of_lt (And.right (And.right (And.right (And.right (And.right (And.right (by assumption)))))))) | (exact Nat.ne_of_lt (And.left (And.right (And.right (And.right (And.right (And.right (And.right (And.right (by assumption)))))))))) | (exact Nat.ne_of_lt (And.right (And.right (And.right (And.right (And.right (And.right (And.right (by assumption))))))))) | (exact Nat.ne_of_lt (And.left (And.right (And.right (And.right (And.right (And.right (And.right (And.right (And.right (by assumption))))))))))) | (exact Nat.ne_of_lt (And.right (And.right (And.right (And.right (And.right (And.right (And.right (And.right (by assumption)))))))))) | (exact Nat.ne_of_lt (And.left (And.right (And.right (And.right (And.right (And.right (And.right (And.right (And.right (And.right (by assumption)))))))))))) | (exact Nat.ne_of_lt (And.right (And.right (And.right (And.right (And.right (And.right (And.right (And.right (And.right (by assumption))))))))))))
  trivial
theorem rows_L2gto_8 : True := by
  k_with "truthy ref" => (k_here; (with_unfolding_all refine' truthy_cons ?h1 ?h2 ?h3 ?_); (case h1 => k_asm); (case h2 => k_mem); (case h3 => omega))
  k_with "truthy ref" => (k_here; (with_unfolding_all refine' truthy_nil ?h1 ?h2 ?_); (case h1 => k_asm); (case h2 => k_mem))
  k_with "call builtin:list.pop" => (k_here; (with_unfolding_all refine' pop_first ?h1 ?h2 ?h3 ?h4 ?_); (case h1 => k_asm); (case h2 => k_asm); (case h3 => k_upd); (case h4 => omega); intro hqRow FqRow NqRow; (try k_sweep))
  k_with "call builtin:iter" => (k_here; (with_unfolding_all refine' iter_call ?h1 ?h2 ?h3 ?_); (case h1 => k_asm); (case h2 => k_asm); (case h3 => k_mem); intro IqRow hqRow FqRow NqRow lqRow; (try k_lt lqRow); (try k_sweep))
  trivial
theorem fr_pack1 {g h : Heap} {L : Addr} {m : Str → Option Value} {x2 : Value} (F : Fr g L h m) (b : m (Str.ofString "token") = some x2) :
    Fr g L h (fun y => if y = Str.ofString "token" then some x2 else m y) := by
  have e : (fun y => if y = Str.ofString "token" then some x2 else m y) = m := by
    funext y
    split
    · next e => rw [e, b]
    · rfl
  rw [e]; exact F
theorem gt_walk (w : World) (news : CbLed) (loose : List Str) (mean : ExcName → Option Value) (mg mb : Str → Option Value) (p : Program) (z : Lx) (us : List Value) (l : List Nat) (nn : Nat) (ln : Int) (tl np : Nat) (own : CbLed) (hz : z.Ok own) (hs : SigAre us l) (hlen : l.length ≤ 900) (hN : news = z.led w us nn ln tl [] np ++ own) (kMark : KstMark)
  (dp un : Nat) (gd : Option (List Code)) (cn : Str) (sc : Scope) (a' : CbAddr) (ccd : CbVal) (cl : List (Str × CbAddr)) (outer : List Env) (A₀ : Around) (base h₀ : Heap) (L : CbAddr) (mm : Str → Option Value) (s : Shared)
  (Q E : Value → Shared → Prop)
  (B : Below A₀ base outer h₀) (F : Fr h₀ L s.heap mm) (X : (Mine.hd.heap_39 w.params).In h₀) (N : News h₀ L s.heap news) (T : Top p loose mean mg mb h₀) (hk : sc.kind = .function) (hdp : dp + 200 < recursionLimit) (hun : un + 1000 < cLine)
  (hret : ∀ v t h' tk' us' n' ln' tl', cs v = (gtT l).1 → SigAre us' (gtT l).2 → ln' + cnt (gtT l).2 = ln + cnt l → Fr h₀ L h' mm → News h₀ L h' (z.led w us' n' ln' tl' [] np ++ own) → Q (.str v t) { s with heap := h', toks := tk' }) (codeHd : CodeHd base 108 104) :
  wpAny (model PySem.Challenge.rw_rw0047_02.prog w) (ktrTop dp un gd cn sc L a' ccd cl outer) (call (.ref 88) [.ref z.x]) Q E s := by
  revert X; k_fill; intro X
  subst hN
  obtain ⟨o0, o1, o2, o3, o4, o5, o6, o7, o8, o9, hcell, hcode⟩ := id hz
  have q1 : OwnOff own [z.cl, z.dx, z.pb] := hz.off
  clear o0
  dsimp only [Lx.led, lamP, lamB, lamS] at N
  simp only [List.cons_append, List.nil_append] at N
  refine wpAny_call ?_
  k_dflt cell_enter
  k_steps
  rename Fr _ _ _ _ => FF
  rename News _ _ _ _ => NN
  rename Frag.In _ _ => XX
  rename Below _ _ _ _ => BB
  rename Top _ _ _ _ _ _ => TT
  have F2 := fr_pack (x1 := .ref z.x) (x2 := .str (Str.ofString "") _) (x3 := .ref _) FF (by with_unfolding_all rfl) (by with_unfolding_all rfl) (by with_unfolding_all rfl)
  with_unfolding_all refine' gt_L1 w _ loose mean mg mb p z us l _ _ _ np own _ _ _ ?hq1 ?hq2 ?hqo hz hs _ kMark (gtT l) (ln + cnt l) rfl rfl hlen [] dp un gd cn sc a' ccd cl outer base _ _ L _ _ s _ _ _ BB ?hdp ?hun NN XX TT ?hE codeHd hk F2 ?hN ?hr ?hn
  case hN => with_unfolding_all rfl
  case hdp => omega
  case hun => omega
  case hE => passes_own
  case hq1 => omega
  case hq2 => omega
  case hqo =>
    rename (_ < _ ∧ _) => l9
    exact fun p hp => Nat.ne_of_lt (kst_ltOf l9.2.2.2.2.2.2.2.2.2.2.2 p hp)
  case hr =>
    intro v t h' tk' m' us' n' ln' tl' e1 e2 e3 F N
    dsimp only [Lx.led, lamP, lamB, lamS] at N
    simp only [List.cons_append, List.nil_append] at N
    k_steps
    exact hret v t h' _ us' n' ln' tl' e1 e2 e3 (by assumption) (by assumption)
  case hn =>
    intro v t h' tk' m' us' n' ln' tl' e1 e2 e3 F e4 N
    dsimp only [Lx.led, lamP, lamB, lamS] at N
    simp only [List.cons_append, List.nil_append] at N
    have F := fr_pack1 F e4
    clear FF F2
    k_steps
    exact hret v t h' _ us' n' ln' tl' e1 e2 e3 (by assumption) (by assumption)
end
section
theorem calm_L2lexo : True ∧ True := by
  w_top off
  k_with_none
  first
    | (walk1; fail)
    | exact ⟨trivial, trivial⟩
theorem rows_L2lexo_ne : True := by
  k_with "ne" => (refine neN ?_; (try dsimp only); first | (exact Nat.ne_of_gt (And.left (by assumption))) | (exact Nat.ne_of_gt (And.left (And.right (by assumption)))) | (exact Nat.ne_of_gt (And.right (by assumption))) | (exact Nat.ne_of_gt (And.left (And.right (And.right (by assumption))))) | (exact Nat.ne_of_gt (And.right (And.right (by assumption)))) | (exact Nat.ne_of_gt (And.left (And.right (And.right (And.right (by assumption)))))) | (exact Nat.ne_of_gt (And.right (And.right (And.right (by assumption))))) | (exact Nat.ne_of_gt (And.left (And.right (And.right (And.right (And.right (by assumption))))))) | (exact Nat.ne_of_gt (And.right (And.right (And.right (And.right (by assumption)))))) | (exact Nat.ne_of_gt (And.left (And.right (And.right (And.right (And.right (And.right (by assumption)))))))) | (exact Nat.ne_of_gt (And.right (And.right (And.right (And.right (And.right (by assumption))))))) | (exact Nat.ne_of_gt (And.left (And.right (And.right (And.right (And.right (And.right (And.right (by assumption))))))))) | (exact Nat.ne_of_gt (And.right (And.right (And.right (And.right (And.right (And.right (by assumption)))))))) | (exact Nat.ne_of_gt (And.left (And.right (And.right (And.right (And.right (And.right (And.right (And.right (by assumption)))))))))) | (exact Nat.ne_of_gt (And.right (And.right (And.right (And.right (And.right (And.right (And.right (by assumption))))))))) | (exact Nat.ne_of_gt (And.left (And.right (And.right (And.right (And.right (And.right (And.right (And.right (And.right (by assumption))))))))))) | (exact Nat.ne_of_gt (And.right (And.right (And.right (And.right (And.right (And.right (And.right (And.right (by assumption)))))))))) | (exact Nat.ne_of_gt (And.left (And.right (And.right (And.right (And.right (And.right (And.right (And.right (And.right (And.right (by assumption)))))))))))) | (exact Nat.ne_of_gt (And.right (And.right (And.right (And.right (And.right (And.right (And.right (And.right (And.right (by assumption))))))))))) | (exact Nat.ne_of_lt (And.left (by assumption))) | (exact Nat.ne_of_lt (And.left (And.right (by assumption)))) | (exact Nat.ne_of_lt (And.right (by assumption))) | (exact Nat.ne_of_lt (And.left (And.right (And.right (by assumption))))) | (exact Nat.ne_of_lt (And.right (And.right (by assumption)))) | (exact Nat.ne_of_lt (And.left (And.right (And.right (And.right (by assumption)))))) | (exact Nat.ne_of_lt (And.right (And.right (And.right (by assumption))))) | (exact Nat.ne_of_lt (And.left (And.right (And.right (And.right (And.right (by assumption))))))) | (exact Nat.ne_of_lt (And.right (And.right (And.right (And.right (by assumption)))))) | (exact Nat.ne_of_lt (And.left (And.right (And.right (And.right (And.right (And.right (by assumption)))))))) | (exact Nat.ne_of_lt (And.right (And.right (And.right (And.right (And.right (by assumption))))))) | (exact Nat.ne_of_lt (And.left (And.right (And.right (And.right (And.right (And.right (And.right (by assumption))))))))) | (exact Nat.ne_of_lt (And.right (And.right (And.right (And.right (And.right (And.right (by assumption)))))))) | (exact Nat.ne_of_lt (And.left (And.right (And.right (And.right (And.right (And.right (And.right (And.right (by assumption)))))))))) | (exact Nat.ne_of_lt (And.right (And.right (And.right (And.right (And.right (And.right (And.right (by assumption))))))))) | (exact Nat.ne_of_lt (And.left (And.right (And.right (And.right (And.right (And.right (And.right (And.right (And.right (by assumption))))))))))) | (exact Nat.ne_of_lt (And.right (And.right (And.right (And.right (And.right (And.right (And.right (And.right (by assumption)))))))))) | (exact Nat.ne_of_lt (And.left (And.right (And.right (And.right (And.right (And.right (And.right (And.right (And.right (And.right (by assumption)))))))))))) | (exact Nat.ne_of_lt (And.right (And.right (And.right (And.right (And.right (And.right (And.right (And.right (And.right (by assumption))))))))))))
  trivial
theorem strs_carried : ∀ {ys : List Value} {l : List Str}, CarriedAll ys (l.map PyData.str) → StrsAre ys l
  | [], [], _ => .nil
  | _ :: _, [], h => by cases h
  | [], _ :: _, h => by cases h
  | y :: ys, x :: l, h => by
    cases h with
    | cons a b =>
      have : ∃ t, y = .str x t := by cases a; exact ⟨_, rfl⟩
      obtain ⟨t, rfl⟩ := this
      exact .cons _ _ (strs_carried b)
theorem list_strN {prog : Program} {w : World} {A : Around} {E : Value → Shared → Prop} {s : Shared} {h₀ : Heap} {L : Addr} {m : Str → Option Value} {news : List (Addr × Obj)} {x : Str} {t : Tok} {Q : Value → Shared → Prop}
    (hh : A.handled = none) (F : Fr h₀ L s.heap m) (N : News h₀ L s.heap news) (hsz : x.length ≤ sizeLine)
    (h : ∀ D us c h' tk, Fr h₀ L h' m → News h₀ L h' ((D, listOf (List.toArray us) c) :: news) → (∀ p ∈ news, p.1 < D) → StrsAre us (signs x) → Q (.ref D) { s with heap := h', toks := tk }) :
    wpAny (model prog w) A (call (.type "list") [.str x t]) Q E s := by
  refine list_strD hh F N (fun h' tk ys F' N' hk hg hl hp hc => ?_) hsz
  obtain ⟨⟨n, e⟩, _⟩ := hp
  refine h _ ys n h' tk F' (fun p hp => ?_) (fun p hp => Heap.lt_size (N p hp).1) (strs_carried hc)
  rcases List.mem_cons.mp hp with rfl | hp
  · exact ⟨e, Nat.ne_of_gt F.ns.lt, hg⟩
  · exact N' p hp
theorem rows_L2lexo_9 : True := by
  k_with "call type:list" => (k_here; (with_reducible show wpAny _ _ (call (Value.type _) [Value.str _ _]) _ _ _); (with_unfolding_all refine' list_strN ?h1 ?h2 ?h3 ?h4 ?_); (case h1 => with_unfolding_all rfl); (case h2 => k_asm); (case h3 => k_asm); (case h4 => (rw [sizeLine_eq]; omega)); intro DqRow vsqRow cqRow hqRow tkqRow FqRow NqRow l1Row hIqRow; (try k_lt l1Row); (try k_sweep))
  trivial
theorem sig_of {us : List Value} {a : Str} (h : StrsAre us (signs a)) : SigAre us (cs a) := by
  have key : ∀ (l : List Nat) (us : List Value), StrsAre us (l.map fun c => (⟨#[c]⟩ : Str)) → SigAre us l := by
    intro l
    induction l with
    | nil => intro us h; cases h; exact .nil
    | cons c l ih => intro us h; cases h with | cons u _ h => exact .cons _ _ (ih _ h)
  exact key _ _ h
/-- the table of codes, with the lambda's code -/
noncomputable abbrev lamTab (c : Nat) : Array Value := #[rawInt 119, rawInt 16, .ref c]
noncomputable abbrev lamQ : Str := (Str.ofString "_law_lexer" ++ Str.ofString ".<locals>.") ++ Str.ofString "<lambda>"
theorem lexer_walk (w : World) (news : CbLed) (loose : List Str) (mean : ExcName → Option Value) (mg mb : Str → Option Value) (p : Program) (a : Str) (ta : CbTok) (ha : a.length ≤ 100) (own : CbLed) (hn : news = (104, tabObj #[]) :: own) (hoff : OwnOff own [104]) (kMark : KstMark)
  (dp un : Nat) (gd : Option (List Code)) (cn : Str) (sc : Scope) (a' : CbAddr) (ccd : CbVal) (cl : List (Str × CbAddr)) (outer : List Env) (A₀ : Around) (base h₀ : Heap) (L : CbAddr) (mm : Str → Option Value) (s : Shared)
  (Q E : Value → Shared → Prop)
  (B : Below A₀ base outer h₀) (F : Fr h₀ L s.heap mm) (X : (Mine.hd.heap_39 w.params).In h₀) (N : News h₀ L s.heap news) (T : Top p loose mean mg mb h₀) (hk : sc.kind = .function) (hdp : dp + 200 < recursionLimit) (hun : un + 1000 < cLine)
  (hret : ∀ (z : Lx) (us : List Value) (c tl : Nat) h' tk', AllLt z.ce ((104, tabObj (lamTab z.cc)) :: own) → z.Ok ((104, tabObj (lamTab z.cc)) :: own) → z.pb2 < z.cc → z.ql = lamQ → SigAre us (cs a) → Fr h₀ L h' mm → News h₀ L h' (z.led w us c 1 tl [] 0 ++ (104, tabObj (lamTab z.cc)) :: own) → Q (.ref z.x) { s with heap := h', toks := tk' }) (codeHd : CodeHd base 108 104) :
  wpAny (model PySem.Challenge.rw_rw0047_02.prog w) (ktrTop dp un gd cn sc L a' ccd cl outer) (call (.ref 109) [Value.str a ta]) Q E s := by
  revert X; k_fill; intro X
  subst hn
  refine wpAny_call ?_
  refine' code_defC ?k1 ?k2 ?k3 ?k4 ?k5 ?kA ?kF ?kK ?k6 ?k7 ?k8 ?k9 ?kB ?kD ?_ ?c2 ?c3 ?c4
  case kA => exact rfl
  case kF => exact rfl
  case kK => assumption
  case k1 => k_asm
  case k2 => k_asm
  case k3 => k_asm
  case k4 => k_asm
  case k5 => k_asm
  case k6 => k_dflt k_is
  case k7 => k_dflt k_is
  case k8 => ktr_room
  case k9 => exact BindsTo.of_eq rfl
  case kB => exact rfl
  case kD => decide +kernel
  case c2 => exact rfl
  case c3 => exact rfl
  case c4 => exact rfl
  intro g' L' h' tk' cells' FG' F' N' Y' B' X' T' l1
  k_lt l1
  k_cells Y'
  try simp only [List.cons_append, List.nil_append] at N'
  try dsimp only
  try k_lift B'
  try k_fold
  have l1' : AllLt (L' + 1) own := allLt_of fun p hp => Nat.lt_succ_of_lt (kst_ltOf l1.2 p hp)
  k_steps
  refine' hret ⟨_, _, _, _, _, _, _, _, _, _, _, _, _, _, _, _, _, _, _, _, _, _, _, _, _, _, _⟩ _ _ _ _ _ ?al ?ok ?oc ?ql ?sg ?hF ?hN
  case hN => with_unfolding_all assumption
  case hF => assumption
  case sg => exact sig_of (by assumption)
  case ql => with_unfolding_all rfl
  case oc => dsimp only; omega
  case al => exact ⟨Nat.lt_succ_of_lt l1.1, l1'⟩
  case ok => exact Lx.Ok.of ⟨Nat.lt_succ_of_lt l1.1, l1'⟩ (by dsimp only; omega) (by dsimp only; omega) (by dsimp only; omega) (by dsimp only; omega) (by dsimp only; omega) (by dsimp only; omega) (by dsimp only; omega) (by dsimp only; omega) (by dsimp only; omega) (by assumption) ⟨_, _, by assumption, by with_unfolding_all assumption⟩
theorem lexer_law2 (w : World) (news : CbLed) (loose : List Str) (mean : ExcName → Option Value) (mg mb : Str → Option Value) (p : Program) (a : Str) (ta : CbTok) (ha : a.length ≤ 100) (Wd Cn : Nat) (oW oN : Obj) (hW : Wd ≠ 104) (hC : Cn ≠ 104) (hn : news = [(Wd, oW), (Cn, oN), (104, tabObj #[])]) (kMark : KstMark)
  (dp un : Nat) (gd : Option (List Code)) (cn : Str) (sc : Scope) (a' : CbAddr) (ccd : CbVal) (cl : List (Str × CbAddr)) (outer : List Env) (A₀ : Around) (base h₀ : Heap) (L : CbAddr) (mm : Str → Option Value) (s : Shared)
  (Q E : Value → Shared → Prop)
  (B : Below A₀ base outer h₀) (F : Fr h₀ L s.heap mm) (X : (Mine.hd.heap_39 w.params).In h₀) (N : News h₀ L s.heap news) (T : Top p loose mean mg mb h₀) (hk : sc.kind = .function) (hdp : dp + 200 < recursionLimit) (hun : un + 1000 < cLine)
  (hret : ∀ (z : Lx) (us : List Value) (c tl : Nat) h' tk', 104 < z.ce → Wd < z.ce → Cn < z.ce → z.pb2 < z.cc → z.Ok [(104, tabObj (lamTab z.cc)), (Wd, oW), (Cn, oN)] → SigAre us (cs a) → Fr h₀ L h' mm → News h₀ L h' (z.led w us c 1 tl [] 0 ++ [(104, tabObj (lamTab z.cc)), (Wd, oW), (Cn, oN)]) → Q (.ref z.x) { s with heap := h', toks := tk' }) (codeHd : CodeHd base 108 104) :
  wpAny (model PySem.Challenge.rw_rw0047_02.prog w) (ktrTop dp un gd cn sc L a' ccd cl outer) (call (.ref 109) [Value.str a ta]) Q E s := by
  subst hn
  refine lexer_walk w ((104, tabObj #[]) :: [(Wd, oW), (Cn, oN)]) loose mean mg mb p a ta ha [(Wd, oW), (Cn, oN)] rfl (fun q hq b hb => ?_) kMark dp un gd cn sc a' ccd cl outer A₀ base h₀ L mm s Q E B F X (fun q hq => N q ?_) T hk hdp hun (fun z us c tl h' tk' al ok oc _ sg F' N' => hret z us c tl h' tk' al.1 al.2.1 al.2.2.1 oc ok sg F' N') codeHd
  · rw [List.mem_singleton.mp hb]
    rcases List.mem_cons.mp hq with rfl | hq
    · exact hW
    · rw [List.mem_singleton.mp hq]; exact hC
  · simp only [List.mem_cons, List.not_mem_nil, or_false] at hq ⊢
    rcases hq with h | h | h <;> simp [h]
end
section
theorem calm_L2popo : True ∧ True := by
  w_top off
  k_with_none
  first
    | (walk1; fail)
    | exact ⟨trivial, trivial⟩
theorem rows_L2popo_ne : True := by
  k_with "ne" => (refine neN ?_; (try dsimp only); first | (exact Nat.ne_of_gt (And.left (by assumption))) | (exact Nat.ne_of_gt (And.left (And.right (by assumption)))) | (exact Nat.ne_of_gt (And.right (by assumption))) | (exact Nat.ne_of_gt (And.left (And.right (And.right (by assumption))))) | (exact Nat.ne_of_gt (And.right (And.right (by assumption)))) | (exact Nat.ne_of_gt (And.left (And.right (And.right (And.right (by assumption)))))) | (exact Nat.ne_of_gt (And.right (And.right (And.right (by assumption))))) | (exact Nat.ne_of_gt (And.left (And.right (And.right (And.right (And.right (by assumption))))))) | (exact Nat.ne_of_gt (And.right (And.right (And.right (And.right (by assumption)))))) | (exact Nat.ne_of_gt (And.left (And.right (And.right (And.right (And.right (And.right (by assumption)))))))) | (exact Nat.ne_of_gt (And.right (And.right (And.right (And.right (And.right (by assumption))))))) | (exact Nat.ne_of_gt (And.left (And.right (And.right (And.right (And.right (And.right (And.right (by assumption))))))))) | (exact Nat.ne_of_gt (And.right (And.right (And.right (And.right (And.right (And.right (by assumption)))))))) | (exact Nat.ne_of_gt (And.left (And.right (And.right (And.right (And.right (And.right (And.right (And.right (by assumption)))))))))) | (exact Nat.ne_of_gt (And.right (And.right (And.right (And.right (And.right (And.right (And.right (by assumption))))))))) | (exact Nat.ne_of_gt (And.left (And.right (And.right (And.right (And.right (And.right (And.right (And.right (And.right (by assumption))))))))))) | (exact Nat.ne_of_gt (And.right (And.right (And.right (And.right (And.right (And.right (And.right (And.right (by assumption)))))))))) | (exact Nat.ne_of_gt (And.left (And.right (And.right (And.right (And.right (And.right (And.right (And.right (And.right (And.right (by assumption)))))))))))) | (exact Nat.ne_of_gt (And.right (And.right (And.right (And.right (And.right (And.right (And.right (And.right (And.right (by assumption))))))))))) | (exact Nat.ne_of_lt (And.left (by assumption))) | (exact Nat.ne_of_lt (And.left (And.right (by assumption)))) | (exact Nat.ne_of_lt (And.right (by assumption))) | (exact Nat.ne_of_lt (And.left (And.right (And.right (by assumption))))) | (exact Nat.ne_of_lt (And.right (And.right (by assumption)))) | (exact Nat.ne_of_lt (And.left (And.right (And.right (And.right (by assumption)))))) | (exact Nat.ne_of_lt (And.right (And.right (And.right (by assumption))))) | (exact Nat.ne_of_lt (And.left (And.right (And.right (And.right (And.right (by assumption))))))) | (exact Nat.ne_of_lt (And.right (And.right (And.right (And.right (by assumption)))))) | (exact Nat.ne_of_lt (And.left (And.right (And.right (And.right (And.right (And.right (by assumption)))))))) | (exact Nat.ne_of_lt (And.right (And.right (And.right (And.right (And.right (by assumption))))))) | (exact Nat.ne_of_lt (And.left (And.right (And.right (And.right (And.right (And.right (And.right (by assumption))))))))) | (exact Nat.ne_of_lt (And.right (And.right (And.right (And.right (And.right (And.right (by assumption)))))))) | (exact Nat.ne_of_lt (And.left (And.right (And.right (And.right (And.right (And.right (And.right (And.right (by assumption)))))))))) | (exact Nat.ne_of_lt (And.right (And.right (And.right (And.right (And.right (And.right (And.right (by assumption))))))))) | (exact Nat.ne_of_lt (And.left (And.right (And.right (And.right (And.right (And.right (And.right (And.right (And.right (by assumption))))))))))) | (exact Nat.ne_of_lt (And.right (And.right (And.right (And.right (And.right (And.right (And.right (And.right (by assumption)))))))))) | (exact Nat.ne_of_lt (And.left (And.right (And.right (And.right (And.right (And.right (And.right (And.right (And.right (And.right (by assumption)))))))))))) | (exact Nat.ne_of_lt (And.right (And.right (And.right (And.right (And.right (And.right (And.right (And.right (And.right (by assumption))))))))))))
  trivial
theorem rows_L2popo_upd : True := by
  k_with "upd" => first | (with_unfolding_all exact updAt0 (by assumption)) | (with_unfolding_all exact updAt1 (by assumption)) | (with_unfolding_all exact updAt2 (by assumption)) | (with_unfolding_all exact updAt3 (by assumption)) | (with_unfolding_all exact updAt4 (by assumption)) | (with_unfolding_all exact updAt5 (by assumption)) | (with_unfolding_all exact updAt6 (by assumption)) | (with_unfolding_all exact updAt7 (by assumption)) | (with_unfolding_all exact updAt8 (by assumption)) | (with_unfolding_all exact updAt9 (by assumption)) | (with_unfolding_all exact updAt10 (by assumption)) | (with_unfolding_all exact updAt11 (by assumption)) | (with_unfolding_all exact updAt12 (by assumption)) | (with_unfolding_all exact updAt13 (by assumption)) | (with_unfolding_all exact updAt14 (by assumption)) | (with_unfolding_all exact updAt15 (by assumption)) | (refine' Upd.tail ?ua1 ?ub1; (case ua1 => k_ne); (case ub1 => (first | (with_unfolding_all exact updAt0 (by assumption)) | (with_unfolding_all exact updAt1 (by assumption)) | (with_unfolding_all exact updAt2 (by assumption)) | (with_unfolding_all exact updAt3 (by assumption)) | (with_unfolding_all exact updAt4 (by assumption)) | (with_unfolding_all exact updAt5 (by assumption)) | (with_unfolding_all exact updAt6 (by assumption)) | (with_unfolding_all exact updAt7 (by assumption)) | (with_unfolding_all exact updAt8 (by assumption)) | (with_unfolding_all exact updAt9 (by assumption)) | (with_unfolding_all exact updAt10 (by assumption)) | (with_unfolding_all exact updAt11 (by assumption)) | (with_unfolding_all exact updAt12 (by assumption)) | (with_unfolding_all exact updAt13 (by assumption)) | (with_unfolding_all exact updAt14 (by assumption)) | (with_unfolding_all exact updAt15 (by assumption)) | (refine' Upd.tail ?ua2 ?ub2; (case ua2 => k_ne); (case ub2 => (first | (with_unfolding_all exact updAt0 (by assumption)) | (with_unfolding_all exact updAt1 (by assumption)) | (with_unfolding_all exact updAt2 (by assumption)) | (with_unfolding_all exact updAt3 (by assumption)) | (with_unfolding_all exact updAt4 (by assumption)) | (with_unfolding_all exact updAt5 (by assumption)) | (with_unfolding_all exact updAt6 (by assumption)) | (with_unfolding_all exact updAt7 (by assumption)) | (with_unfolding_all exact updAt8 (by assumption)) | (with_unfolding_all exact updAt9 (by assumption)) | (with_unfolding_all exact updAt10 (by assumption)) | (with_unfolding_all exact updAt11 (by assumption)) | (with_unfolding_all exact updAt12 (by assumption)) | (with_unfolding_all exact updAt13 (by assumption)) | (with_unfolding_all exact updAt14 (by assumption)) | (with_unfolding_all exact updAt15 (by assumption)) | (refine' Upd.tail ?ua3 ?ub3; (case ua3 => k_ne); (case ub3 => (first | (with_unfolding_all exact updAt0 (by assumption)) | (with_unfolding_all exact updAt1 (by assumption)) | (with_unfolding_all exact updAt2 (by assumption)) | (with_unfolding_all exact updAt3 (by assumption)) | (with_unfolding_all exact updAt4 (by assumption)) | (with_unfolding_all exact updAt5 (by assumption)) | (with_unfolding_all exact updAt6 (by assumption)) | (with_unfolding_all exact updAt7 (by assumption)) | (with_unfolding_all exact updAt8 (by assumption)) | (with_unfolding_all exact updAt9 (by assumption)) | (with_unfolding_all exact updAt10 (by assumption)) | (with_unfolding_all exact updAt11 (by assumption)) | (with_unfolding_all exact updAt12 (by assumption)) | (with_unfolding_all exact updAt13 (by assumption)) | (with_unfolding_all exact updAt14 (by assumption)) | (with_unfolding_all exact updAt15 (by assumption)))))))))))
  k_with "updF" => first | (with_unfolding_all exact updFAt0 (by assumption)) | (with_unfolding_all exact updFAt1 (by assumption)) | (with_unfolding_all exact updFAt2 (by assumption)) | (with_unfolding_all exact updFAt3 (by assumption)) | (with_unfolding_all exact updFAt4 (by assumption)) | (with_unfolding_all exact updFAt5 (by assumption)) | (with_unfolding_all exact updFAt6 (by assumption)) | (with_unfolding_all exact updFAt7 (by assumption)) | (with_unfolding_all exact updFAt8 (by assumption)) | (with_unfolding_all exact updFAt9 (by assumption)) | (with_unfolding_all exact updFAt10 (by assumption)) | (with_unfolding_all exact updFAt11 (by assumption)) | (with_unfolding_all exact updFAt12 (by assumption)) | (with_unfolding_all exact updFAt13 (by assumption)) | (with_unfolding_all exact updFAt14 (by assumption)) | (with_unfolding_all exact updFAt15 (by assumption)) | (refine' UpdF.tail ?uaF1 ?ubF1; (case uaF1 => k_ne); (case ubF1 => (first | (with_unfolding_all exact updFAt0 (by assumption)) | (with_unfolding_all exact updFAt1 (by assumption)) | (with_unfolding_all exact updFAt2 (by assumption)) | (with_unfolding_all exact updFAt3 (by assumption)) | (with_unfolding_all exact updFAt4 (by assumption)) | (with_unfolding_all exact updFAt5 (by assumption)) | (with_unfolding_all exact updFAt6 (by assumption)) | (with_unfolding_all exact updFAt7 (by assumption)) | (with_unfolding_all exact updFAt8 (by assumption)) | (with_unfolding_all exact updFAt9 (by assumption)) | (with_unfolding_all exact updFAt10 (by assumption)) | (with_unfolding_all exact updFAt11 (by assumption)) | (with_unfolding_all exact updFAt12 (by assumption)) | (with_unfolding_all exact updFAt13 (by assumption)) | (with_unfolding_all exact updFAt14 (by assumption)) | (with_unfolding_all exact updFAt15 (by assumption)) | (refine' UpdF.tail ?uaF2 ?ubF2; (case uaF2 => k_ne); (case ubF2 => (first | (with_unfolding_all exact updFAt0 (by assumption)) | (with_unfolding_all exact updFAt1 (by assumption)) | (with_unfolding_all exact updFAt2 (by assumption)) | (with_unfolding_all exact updFAt3 (by assumption)) | (with_unfolding_all exact updFAt4 (by assumption)) | (with_unfolding_all exact updFAt5 (by assumption)) | (with_unfolding_all exact updFAt6 (by assumption)) | (with_unfolding_all exact updFAt7 (by assumption)) | (with_unfolding_all exact updFAt8 (by assumption)) | (with_unfolding_all exact updFAt9 (by assumption)) | (with_unfolding_all exact updFAt10 (by assumption)) | (with_unfolding_all exact updFAt11 (by assumption)) | (with_unfolding_all exact updFAt12 (by assumption)) | (with_unfolding_all exact updFAt13 (by assumption)) | (with_unfolding_all exact updFAt14 (by assumption)) | (with_unfolding_all exact updFAt15 (by assumption)) | (refine' UpdF.tail ?uaF3 ?ubF3; (case uaF3 => k_ne); (case ubF3 => (first | (with_unfolding_all exact updFAt0 (by assumption)) | (with_unfolding_all exact updFAt1 (by assumption)) | (with_unfolding_all exact updFAt2 (by assumption)) | (with_unfolding_all exact updFAt3 (by assumption)) | (with_unfolding_all exact updFAt4 (by assumption)) | (with_unfolding_all exact updFAt5 (by assumption)) | (with_unfolding_all exact updFAt6 (by assumption)) | (with_unfolding_all exact updFAt7 (by assumption)) | (with_unfolding_all exact updFAt8 (by assumption)) | (with_unfolding_all exact updFAt9 (by assumption)) | (with_unfolding_all exact updFAt10 (by assumption)) | (with_unfolding_all exact updFAt11 (by assumption)) | (with_unfolding_all exact updFAt12 (by assumption)) | (with_unfolding_all exact updFAt13 (by assumption)) | (with_unfolding_all exact updFAt14 (by assumption)) | (with_unfolding_all exact updFAt15 (by assumption)))))))))))
  trivial
section
theorem rows_L2popo_10 : True := by
  k_with "truthy ref" => (k_here; (with_unfolding_all refine' truthy_cons ?h1 ?h2 ?h3 ?_); (case h1 => k_asm); (case h2 => k_mem); (case h3 => omega))
  k_with "call builtin:list.pop" => (k_here; (with_unfolding_all refine' pop_first ?h1 ?h2 ?h3 ?h4 ?_); (case h1 => k_asm); (case h2 => k_asm); (case h3 => k_upd); (case h4 => exact Nat.le_trans (by assumption) (by decide)); intro hqRow FqRow NqRow; (try k_sweep))
  trivial
/-- get_token, a token being pushed back -/
theorem gt_pop (w : World) (news : CbLed) (loose : List Str) (mean : ExcName → Option Value) (mg mb : Str → Option Value) (p : Program) (z : Lx) (us : List Value) (nn : Nat) (ln : Int) (tl np : Nat) (y : Value) (pbs : List Value) (own : CbLed) (hz : z.Ok own) (hlen : pbs.length ≤ 900) (hN : news = z.led w us nn ln tl (y :: pbs) np ++ own) (kMark : KstMark)
  (dp un : Nat) (gd : Option (List Code)) (cn : Str) (sc : Scope) (a' : CbAddr) (ccd : CbVal) (cl : List (Str × CbAddr)) (outer : List Env) (A₀ : Around) (base h₀ : Heap) (L : CbAddr) (mm : Str → Option Value) (s : Shared)
  (Q E : Value → Shared → Prop)
  (B : Below A₀ base outer h₀) (F : Fr h₀ L s.heap mm) (X : (Mine.hd.heap_39 w.params).In h₀) (N : News h₀ L s.heap news) (T : Top p loose mean mg mb h₀) (hk : sc.kind = .function) (hdp : dp + 200 < recursionLimit) (hun : un + 1000 < cLine)
  (hret : ∀ h' tk', Fr h₀ L h' mm → News h₀ L h' (z.led w us nn ln tl pbs (np + 1) ++ own) → Q y { s with heap := h', toks := tk' }) (codeHd : CodeHd base 108 104) :
  wpAny (model PySem.Challenge.rw_rw0047_02.prog w) (ktrTop dp un gd cn sc L a' ccd cl outer) (call (.ref 88) [.ref z.x]) Q E s := by
  revert X; k_fill; intro X
  subst hN
  obtain ⟨o0, o1, o2, o3, o4, o5, o6, o7, o8, o9, hcell, hcode⟩ := id hz
  have q1 : OwnOff own [z.cl, z.dx, z.pb] := hz.off
  have f3 := hz.offP
  clear o0
  dsimp only [Lx.led, lamP, lamB, lamS] at N
  simp only [List.cons_append, List.nil_append] at N
  refine wpAny_call ?_
  k_dflt cell_enter
  k_steps
  exact hret _ _ (by assumption) (by with_unfolding_all assumption)
/-- push_token -/
theorem push_walk (w : World) (news : CbLed) (loose : List Str) (mean : ExcName → Option Value) (mg mb : Str → Option Value) (p : Program) (z : Lx) (us : List Value) (nn : Nat) (ln : Int) (tl np : Nat) (y : Value) (pbs : List Value) (own : CbLed) (hz : z.Ok own) (hlen : pbs.length ≤ 900) (hN : news = z.led w us nn ln tl pbs np ++ own) (kMark : KstMark)
  (dp un : Nat) (gd : Option (List Code)) (cn : Str) (sc : Scope) (a' : CbAddr) (ccd : CbVal) (cl : List (Str × CbAddr)) (outer : List Env) (A₀ : Around) (base h₀ : Heap) (L : CbAddr) (mm : Str → Option Value) (s : Shared)
  (Q E : Value → Shared → Prop)
  (B : Below A₀ base outer h₀) (F : Fr h₀ L s.heap mm) (X : (Mine.hd.heap_39 w.params).In h₀) (N : News h₀ L s.heap news) (T : Top p loose mean mg mb h₀) (hk : sc.kind = .function) (hdp : dp + 200 < recursionLimit) (hun : un + 1000 < cLine)
  (hret : ∀ h' tk', Fr h₀ L h' mm → News h₀ L h' (z.led w us nn ln tl (pbs ++ [y]) (np + 1) ++ own) → Q .none { s with heap := h', toks := tk' }) (codeHd : CodeHd base 108 104) :
  wpAny (model PySem.Challenge.rw_rw0047_02.prog w) (ktrTop dp un gd cn sc L a' ccd cl outer) (call (.ref 95) [.ref z.x, y]) Q E s := by
  revert X; k_fill; intro X
  subst hN
  obtain ⟨o0, o1, o2, o3, o4, o5, o6, o7, o8, o9, hcell, hcode⟩ := id hz
  have q1 : OwnOff own [z.cl, z.dx, z.pb] := hz.off
  have f3 := hz.offP
  clear o0
  dsimp only [Lx.led, lamP, lamB, lamS] at N
  simp only [List.cons_append, List.nil_append] at N
  refine wpAny_call ?_
  k_dflt cell_enter
  k_steps
  rename News h₀ _ _ _ => N9
  rw [List.push_toArray] at N9
  with_unfolding_all refine hret _ _ (by assumption) ?_
  dsimp only [Lx.led, lamP, lamB, lamS]
  simp only [List.cons_append, List.nil_append]
  with_unfolding_all exact N9
end
end
local macro_rules | `(tactic| walk_at $s:str) => `(tactic| k_extra $s)
section
theorem calm_L2word2 : True ∧ True := by
  w_top off
  k_with_none
  first
    | (walk1; fail)
    | exact ⟨trivial, trivial⟩
theorem rows_L2word2_ne : True := by
  k_with "ne" => (refine neN ?_; (try dsimp only); first | (exact Nat.ne_of_gt (And.left (by assumption))) | (exact Nat.ne_of_gt (And.left (And.right (by assumption)))) | (exact Nat.ne_of_gt (And.right (by assumption))) | (exact Nat.ne_of_gt (And.left (And.right (And.right (by assumption))))) | (exact Nat.ne_of_gt (And.right (And.right (by assumption)))) | (exact Nat.ne_of_gt (And.left (And.right (And.right (And.right (by assumption)))))) | (exact Nat.ne_of_gt (And.right (And.right (And.right (by assumption))))) | (exact Nat.ne_of_gt (And.left (And.right (And.right (And.right (And.right (by assumption))))))) | (exact Nat.ne_of_gt (And.right (And.right (And.right (And.right (by assumption)))))) | (exact Nat.ne_of_gt (And.left (And.right (And.right (And.right (And.right (And.right (by assumption)))))))) | (exact Nat.ne_of_gt (And.right (And.right (And.right (And.right (And.right (by assumption))))))) | (exact Nat.ne_of_gt (And.left (And.right (And.right (And.right (And.right (And.right (And.right (by assumption))))))))) | (exact Nat.ne_of_gt (And.right (And.right (And.right (And.right (And.right (And.right (by assumption)))))))) | (exact Nat.ne_of_gt (And.left (And.right (And.right (And.right (And.right (And.right (And.right (And.right (by assumption)))))))))) | (exact Nat.ne_of_gt (And.right (And.right (And.right (And.right (And.right (And.right (And.right (by assumption))))))))) | (exact Nat.ne_of_gt (And.left (And.right (And.right (And.right (And.right (And.right (And.right (And.right (And.right (by assumption))))))))))) | (exact Nat.ne_of_gt (And.right (And.right (And.right (And.right (And.right (And.right (And.right (And.right (by assumption)))))))))) | (exact Nat.ne_of_gt (And.left (And.right (And.right (And.right (And.right (And.right (And.right (And.right (And.right (And.right (by assumption)))))))))))) | (exact Nat.ne_of_gt (And.right (And.right (And.right (And.right (And.right (And.right (And.right (And.right (And.right (by assumption))))))))))) | (exact Nat.ne_of_lt (And.left (by assumption))) | (exact Nat.ne_of_lt (And.left (And.right (by assumption)))) | (exact Nat.ne_of_lt (And.right (by assumption))) | (exact Nat.ne_of_lt (And.left (And.right (And.right (by assumption))))) | (exact Nat.ne_of_lt (And.right (And.right (by assumption)))) | (exact Nat.ne_of_lt (And.left (And.right (And.right (And.right (by assumption)))))) | (exact Nat.ne_of_lt (And.right (And.right (And.right (by assumption))))) | (exact Nat.ne_of_lt (And.left (And.right (And.right (And.right (And.right (by assumption))))))) | (exact Nat.ne_of_lt (And.right (And.right (And.right (And.right (by assumption)))))) | (exact Nat.ne_of_lt (And.left (And.right (And.right (And.right (And.right (And.right (by assumption)))))))) | (exact Nat.ne_of_lt (And.right (And.right (And.right (And.right (And.right (by assumption))))))) | (exact Nat.ne_of_lt (And.left (And.right (And.right (And.right (And.right (And.right (And.right (by assumption))))))))) | (exact Nat.ne_of_lt (And.right (And.right (And.right (And.right (And.right (And.right (by assumption)))))))) | (exact Nat.ne_of_lt (And.left (And.right (And.right (And.right (And.right (And.right (And.right (And.right (by assumption)))))))))) | (exact Nat.ne_of_lt (And.right (And.right (And.right (And.right (And.right (And.right (And.right (by assumption))))))))) | (exact Nat.ne_of_lt (And.left (And.right (And.right (And.right (And.right (And.right (And.right (And.right (And.right (by assumption))))))))))) | (exact Nat.ne_of_lt (And.right (And.right (And.right (And.right (And.right (And.right (And.right (And.right (by assumption)))))))))) | (exact Nat.ne_of_lt (And.left (And.right (And.right (And.right (And.right (And.right (And.right (And.right (And.right (And.right (by assumption)))))))))))) | (exact Nat.ne_of_lt (And.right (And.right (And.right (And.right (And.right (And.right (And.right (And.right (And.right (by assumption))))))))))))
  trivial
/-- a sign of the word -/
noncomputable def gw (n k : Int) : Str := Txt.item (Str.ofString "aAb\"\\ ") ((n.fdiv (4 * 6 ^ k.toNat)).fmod 6)
theorem pow6_b (k : Int) (h : k < 3) : (0 : Int) < 4 * 6 ^ k.toNat ∧ (4 * 6 ^ k.toNat : Int) ≤ 144 := by
  have h2 : k.toNat < 3 := by omega
  generalize k.toNat = n at h2
  match n, h2 with
  | 0, _ => decide
  | 1, _ => decide
  | 2, _ => decide
/-- the word that a total tells -/
noncomputable def wordT (n : Int) : Str := Txt.join (Str.ofString "") ((rangeKs 0 (n.fmod 4 - 0).toNat).map (gw n))
theorem wordT_eq {n : Int} {f : Int → Str} (h : ∀ k, f k = gw n k) : Txt.join (Str.ofString "") ((rangeKs 0 (n.fmod 4 - 0).toNat).map f) = wordT n := by
  have : f = gw n := funext h
  rw [this]; rfl
section
theorem rows_L2word2_11 : True := by
  k_with "eval ListComp" => (k_here; k_dflt (refine LCg.ListComp_U (F₀ := by k_asm) (by with_unfolding_all rfl) (by decide) (by rfl) (by decide) (by rfl) ?_))
  k_with "CompSrc" => (k_here; (try k_fmods); (k_dflt (refine LCg.CompSrc.range (by rfl) (by k_asm) (by k_asm) (by assumption) (by first | decide | exact small_one (by l_bnd) (by l_bnd) (by l_bnd) (by l_bnd)) (by first | exact rangeSize_nat _ _ | rfl) (by first | exact Nat.le_of_ble_eq_true rfl | (rw [PySem.sizeLine_eq]; omega) | size_fits) ?_; intro gqRow; (refine' kct_range (gw _) (fun kqRow tqRow IqRow oIqRow CqRow oCqRow DqRow mqRow ysqRow hqRow tkqRow EqRow hloqRow hhiqRow hCqRow hxqRow FqRow NqRow offqRow neqRow => ?_) ?_); (all_goals (try (simp only [LCg.Off3, and_true] at offqRow))); (all_goals (try ((show KPfMark → _); intro hMarkqRow; have hpwRow := pow6_b kqRow (by omega)))))))
  k_with "binaryOp FloorDiv int int" => (k_here; (with_reducible refine floordiv_int ?kbe ?_ (Or.inl (PyProof.noPylong_small ?kbp))); (case kbe => omega); (case kbp => omega))
  k_with "CompEnd" => (refine LCg.CompEnd.intro (by assumption) (by assumption) _ (fun pRow hpRow => hpRow) (by with_unfolding_all assumption) True.intro ?_)
  k_with "KCtEl" => (refine kct_el ?kce (by with_unfolding_all rfl) (by with_unfolding_all rfl); (case kce => with_unfolding_all rfl))
  trivial
theorem word_walk (w : World) (news : CbLed) (loose : List Str) (mean : ExcName → Option Value) (mg mb : Str → Option Value) (p : Program) (n : Int) (tn : CbTok) (hn0 : 0 ≤ n) (hn1 : n < 1000000)
  (dp un : Nat) (gd : Option (List Code)) (cn : Str) (sc : Scope) (a' : CbAddr) (ccd : CbVal) (cl : List (Str × CbAddr)) (outer : List Env) (A₀ : Around) (base h₀ : Heap) (L : CbAddr) (mm : Str → Option Value) (s : Shared)
  (Q E : Value → Shared → Prop)
  (B : Below A₀ base outer h₀) (F : Fr h₀ L s.heap mm) (X : (Mine.hd.heap_39 w.params).In h₀) (N : News h₀ L s.heap news) (T : Top p loose mean mg mb h₀) (hk : sc.kind = .function) (hdp : dp + 150 < recursionLimit) (hun : un + 800 < cLine)
  (hret : ∀ t h' tk', Fr h₀ L h' mm → News h₀ L h' news → Q (.str (wordT n) t) { s with heap := h', toks := tk' }) :
  wpAny (model PySem.Challenge.rw_rw0047_02.prog w) (ktrTop dp un gd cn sc L a' ccd cl outer) (call (.ref 114) [Value.int n tn]) Q E s := by
  revert X; k_fill; intro X
  refine wpAny_call ?_
  refine' code_defC ?k1 ?k2 ?k3 ?k4 ?k5 ?kA ?kF ?kK ?k6 ?k7 ?k8 ?k9 ?kB ?kD ?_ ?c2 ?c3 ?c4
  case kA => exact rfl
  case kF => exact rfl
  case kK => assumption
  case k1 => k_asm
  case k2 => k_asm
  case k3 => k_asm
  case k4 => k_asm
  case k5 => k_asm
  case k6 => k_dflt k_is
  case k7 => k_dflt k_is
  case k8 => ktr_room
  case k9 => exact BindsTo.of_eq rfl
  case kB => exact rfl
  case kD => decide +kernel
  case c2 => exact rfl
  case c3 => exact rfl
  case c4 => exact rfl
  intro g' L' h' tk' cells' FG' F' N' Y' B' X' T' l1
  try k_lt l1
  k_cells Y'
  try simp only [List.cons_append, List.nil_append] at N'
  try dsimp only
  try k_lift B'
  try k_fold
  k_steps
  rename News _ _ _ _ => N9
  exact hret _ _ _ (by assumption) (fun q hq => N9 q (.tail _ (.tail _ hq)))
end
end
section
theorem calm_L2writ2 : True ∧ True := by
  w_top off
  k_with_none
  first
    | (walk1; fail)
    | exact ⟨trivial, trivial⟩
theorem rows_L2writ2_ne : True := by
  k_with "ne" => (refine neN ?_; (try dsimp only); first | (exact Nat.ne_of_gt (And.left (by assumption))) | (exact Nat.ne_of_gt (And.left (And.right (by assumption)))) | (exact Nat.ne_of_gt (And.right (by assumption))) | (exact Nat.ne_of_gt (And.left (And.right (And.right (by assumption))))) | (exact Nat.ne_of_gt (And.right (And.right (by assumption)))) | (exact Nat.ne_of_gt (And.left (And.right (And.right (And.right (by assumption)))))) | (exact Nat.ne_of_gt (And.right (And.right (And.right (by assumption))))) | (exact Nat.ne_of_gt (And.left (And.right (And.right (And.right (And.right (by assumption))))))) | (exact Nat.ne_of_gt (And.right (And.right (And.right (And.right (by assumption)))))) | (exact Nat.ne_of_gt (And.left (And.right (And.right (And.right (And.right (And.right (by assumption)))))))) | (exact Nat.ne_of_gt (And.right (And.right (And.right (And.right (And.right (by assumption))))))) | (exact Nat.ne_of_gt (And.left (And.right (And.right (And.right (And.right (And.right (And.right (by assumption))))))))) | (exact Nat.ne_of_gt (And.right (And.right (And.right (And.right (And.right (And.right (by assumption)))))))) | (exact Nat.ne_of_gt (And.left (And.right (And.right (And.right (And.right (And.right (And.right (And.right (by assumption)))))))))) | (exact Nat.ne_of_gt (And.right (And.right (And.right (And.right (And.right (And.right (And.right (by assumption))))))))) | (exact Nat.ne_of_gt (And.left (And.right (And.right (And.right (And.right (And.right (And.right (And.right (And.right (by assumption))))))))))) | (exact Nat.ne_of_gt (And.right (And.right (And.right (And.right (And.right (And.right (And.right (And.right (by assumption)))))))))) | (exact Nat.ne_of_gt (And.left (And.right (And.right (And.right (And.right (And.right (And.right (And.right (And.right (And.right (by assumption)))))))))))) | (exact Nat.ne_of_gt (And.right (And.right (And.right (And.right (And.right (And.right (And.right (And.right (And.right (by assumption))))))))))) | (exact Nat.ne_of_lt (And.left (by assumption))) | (exact Nat.ne_of_lt (And.left (And.right (by assumption)))) | (exact Nat.ne_of_lt (And.right (by assumption))) | (exact Nat.ne_of_lt (And.left (And.right (And.right (by assumption))))) | (exact Nat.ne_of_lt (And.right (And.right (by assumption)))) | (exact Nat.ne_of_lt (And.left (And.right (And.right (And.right (by assumption)))))) | (exact Nat.ne_of_lt (And.right (And.right (And.right (by assumption))))) | (exact Nat.ne_of_lt (And.left (And.right (And.right (And.right (And.right (by assumption))))))) | (exact Nat.ne_of_lt (And.right (And.right (And.right (And.right (by assumption)))))) | (exact Nat.ne_of_lt (And.left (And.right (And.right (And.right (And.right (And.right (by assumption)))))))) | (exact Nat.ne_of_lt (And.right (And.right (And.right (And.right (And.right (by assumption))))))) | (exact Nat.ne_of_lt (And.left (And.right (And.right (And.right (And.right (And.right (And.right (by assumption))))))))) | (exact Nat.ne_of_lt (And.right (And.right (And.right (And.right (And.right (And.right (by assumption)))))))) | (exact Nat.ne_of_lt (And.left (And.right (And.right (And.right (And.right (And.right (And.right (And.right (by assumption)))))))))) | (exact Nat.ne_of_lt (And.right (And.right (And.right (And.right (And.right (And.right (And.right (by assumption))))))))) | (exact Nat.ne_of_lt (And.left (And.right (And.right (And.right (And.right (And.right (And.right (And.right (And.right (by assumption))))))))))) | (exact Nat.ne_of_lt (And.right (And.right (And.right (And.right (And.right (And.right (And.right (And.right (by assumption)))))))))) | (exact Nat.ne_of_lt (And.left (And.right (And.right (And.right (And.right (And.right (And.right (And.right (And.right (And.right (by assumption)))))))))))) | (exact Nat.ne_of_lt (And.right (And.right (And.right (And.right (And.right (And.right (And.right (And.right (And.right (by assumption))))))))))))
  trivial
/-- a sign of a bare word, as a file wants it -/
noncomputable def wrC (m : Int) (c : Nat) : Str := if m = 2 ∨ c = 34 ∨ c = 92 ∨ c = 32 then ⟨#[92, c]⟩ else ⟨#[c]⟩
theorem wrC_len (m : Int) (c : Nat) : (wrC m c).length ≤ 2 := by
  unfold wrC; split
  · show 2 ≤ 2; omega
  · exact (by omega : 1 ≤ 2)
noncomputable def wrS (m : Int) (x : Str) : Str := ⟨((cs x).flatMap fun c => cs (wrC m c)).toArray⟩
noncomputable def escS2 (x : Str) : Str := ⟨((cs x).flatMap fun c => cs (escC c)).toArray⟩
theorem join_wr (m : Int) (x : Str) : Txt.join (Str.ofString "") ((cs x).map (wrC m)) = wrS m x := by
  apply str_ext; rw [cs_joinE, List.flatMap_map]; simp [wrS, cs]
theorem str_qbb : cs (Str.ofString "\"\\ ") = [34, 92, 32] := by decide +kernel
theorem wr1 {m : Int} {c : Nat} (h : m = 2) : Str.ofString "\\" ++ ⟨#[c]⟩ = wrC m c := by
  unfold wrC; rw [if_pos (.inl h), str_b]; rfl
theorem wr2 {m : Int} {c : Nat} (h : ((Builtin.Str.occurrences (Str.ofString "\"\\ ") ⟨#[c]⟩ 0 (Str.ofString "\"\\ ").length 1).isEmpty) = false) : Str.ofString "\\" ++ ⟨#[c]⟩ = wrC m c := by
  have h := congrArg (! ·) h
  rw [StrLaws.found_one, Bool.not_false, decide_eq_true_eq] at h
  have h : c ∈ cs (Str.ofString "\"\\ ") := h
  rw [str_qbb] at h
  have : c = 34 ∨ c = 92 ∨ c = 32 := by simpa using h
  unfold wrC
  rw [if_pos (.inr this), str_b]
  rfl
theorem wr3 {m : Int} {c : Nat} (hm : m ≠ 2) (h : ((Builtin.Str.occurrences (Str.ofString "\"\\ ") ⟨#[c]⟩ 0 (Str.ofString "\"\\ ").length 1).isEmpty) = true) : (⟨#[c]⟩ : Str) = wrC m c := by
  have h := congrArg (! ·) h
  rw [StrLaws.found_one, Bool.not_true, decide_eq_false_iff_not] at h
  have h : ¬ c ∈ cs (Str.ofString "\"\\ ") := h
  rw [str_qbb] at h
  have : ¬ (c = 34 ∨ c = 92 ∨ c = 32) := by simpa using h
  unfold wrC
  rw [if_neg fun e => e.elim hm this]
/-- what is written of a word -/
noncomputable def writT (n : Int) : Str := if (wordT n == Str.ofString "") = true ∨ (n.fdiv 864).fmod 3 = 0 then Str.ofString "\"" ++ escS (wordT n) ++ Str.ofString "\"" else wrS ((n.fdiv 864).fmod 3) (wordT n)
theorem writ_1 {n : Int} (h : (wordT n == Str.ofString "") = true) : Str.ofString "\"" ++ escS (wordT n) ++ Str.ofString "\"" = writT n := by
  unfold writT; rw [if_pos (.inl h)]
theorem writ_2 {n : Int} (h : (n.fdiv 864).fmod 3 = 0) : Str.ofString "\"" ++ escS (wordT n) ++ Str.ofString "\"" = writT n := by
  unfold writT; rw [if_pos (.inr h)]
theorem writ_3 {n : Int} (h : (wordT n == Str.ofString "") = false) (h2 : (n.fdiv 864).fmod 3 ≠ 0) : wrS ((n.fdiv 864).fmod 3) (wordT n) = writT n := by
  unfold writT; rw [if_neg]; rintro (e | e)
  · rw [h] at e; cases e
  · exact h2 e
theorem wordT_len {n : Int} (h : n < 1000000) : (wordT n).length ≤ 3 := by
  unfold wordT
  rw [← cs_len, cs_joinE]
  have e : ∀ l : List Int, ((l.map (gw n)).flatMap cs).length = l.length := by
    intro l
    have hl : (Str.ofString "aAb\"\\ ").length = 6 := by decide +kernel
    induction l with
    | nil => rfl
    | cons k l ih =>
      have h0 := Int.fmod_nonneg_of_pos (n.fdiv (4 * 6 ^ k.toNat)) (show (0 : Int) < 6 by decide)
      have h1 := Int.fmod_lt_of_pos (n.fdiv (4 * 6 ^ k.toNat)) (show (0 : Int) < 6 by decide)
      rw [List.map_cons, List.flatMap_cons, List.length_append, ih]
      unfold gw
      rw [item_cs h0 (by rw [hl]; exact h1)]
      simp [cs]; omega
  rw [e, rangeKs_length]
  have h0 := Int.fmod_nonneg_of_pos n (show (0 : Int) < 4 by decide)
  have h1 := Int.fmod_lt_of_pos n (show (0 : Int) < 4 by decide)
  omega
theorem len_q : (Str.ofString "\"").length = 1 := by decide +kernel
theorem escS_len (x : Str) : (escS x).length ≤ 2 * x.length := by
  rw [← cs_len, ← cs_len]
  show ((cs x).flatMap fun c => cs (escC c)).toArray.toList.length ≤ _
  rw [List.toList_toArray]
  generalize cs x = l
  induction l with
  | nil => simp
  | cons c l ih =>
    have := escC_len c
    rw [← cs_len] at this
    simp only [List.flatMap_cons, List.length_append, List.length_cons]
    omega
section
variable {prog : Program} {w : World} {A : Around} {E : Value → Shared → Prop} {s : Shared} {D : Addr} {items : Array Value} {x : Str} {t : Tok} {Q : Value → Shared → Prop}
theorem join_E (hl : s.heap.IsList D items) (hi : StrsAre items.toList ((cs x).map escC)) (hz : x.length ≤ 1000) (h : ∀ t' k, Q (.str (escS x) t') { s with toks := k }) : wpAny (model prog w) A (call (.builtin "str.join") [.str (Str.ofString "") t, .ref D]) Q E s :=
  join_listW hl hi (by decide) (Nat.le_trans (sum_le2 escC_len _) (by rw [cs_len]; omega)) fun t' k => by rw [join_esc]; exact h t' k
theorem join_W {m : Int} (hl : s.heap.IsList D items) (hi : StrsAre items.toList ((cs x).map (wrC m))) (hz : x.length ≤ 1000) (h : ∀ t' k, Q (.str (wrS m x) t') { s with toks := k }) : wpAny (model prog w) A (call (.builtin "str.join") [.str (Str.ofString "") t, .ref D]) Q E s :=
  join_listW hl hi (by decide) (Nat.le_trans (sum_le2 (wrC_len m) _) (by rw [cs_len]; omega)) fun t' k => by rw [join_wr]; exact h t' k
end
section
theorem rows_L2writ2_12 : True := by
  k_with "CompEnd" => (refine LCg.CompEnd.intro (by assumption) (by assumption) _ (fun pRow hpRow => hpRow) (by with_unfolding_all assumption) True.intro ?_)
  k_with "KCtEl" => (refine kct_el ?kce (by with_unfolding_all rfl) (by with_unfolding_all rfl); (case kce => first | exact (wr1 (by assumption)).symm | exact (wr2 (by assumption)).symm | exact (wr3 (by assumption) (by assumption)).symm))
  k_with "eval ListComp" => (k_here; (rename Fr _ _ _ _ => lF9Row); (rename News _ _ _ _ => lN9Row); (with_unfolding_all refine' ListComp_S ?h0 lF9Row lN9Row ?h1 ?h2 ?h3 ?h4 ?h5 ?h6 ?h7 ?_ ?h9); (case h0 => with_unfolding_all rfl); (case h1 => with_unfolding_all rfl); (case h2 => with_unfolding_all decide); (case h3 => with_unfolding_all rfl); (case h4 => with_unfolding_all decide); (case h5 => with_unfolding_all rfl); (case h7 => (intro Q9Row hqRow; walk1; exact hqRow)); (case h6 => (rw [sizeLine_eq]; omega)); (case h9 => (intro _; with_unfolding_all rfl)); intro gqRow; (refine' csg_rest (wrC _) (fun cqRow tqRow IqRow oIqRow CqRow oCqRow DqRow mqRow ysqRow hqRow tkqRow EqRow hcqRow hCqRow hxqRow FqRow NqRow offqRow neqRow hMarkqRow => ?_) ?_); (all_goals (try (intro ysqRow hysqRow))))
  k_with "eval ListComp" => (k_here; (rename Fr _ _ _ _ => lF9Row); (rename News _ _ _ _ => lN9Row); (with_unfolding_all refine' comp_signs escC ?h1 ?h2 ?h3 ?h4 ?h5 ?h6 lF9Row lN9Row ?h7 ?h8 ?_ ?_ ?h9); (case h1 => with_unfolding_all rfl); (case h2 => with_unfolding_all decide); (case h3 => with_unfolding_all decide); (case h4 => with_unfolding_all rfl); (case h5 => with_unfolding_all decide); (case h6 => with_unfolding_all rfl); (case h8 => (intro Q9Row hqRow; walk1; exact hqRow)); (case h7 => (rw [sizeLine_eq]; omega)); (case h9 => (intro _; with_unfolding_all rfl)); all_goals intros)
  k_with "binaryOp Add str str" => (k_here; (with_unfolding_all refine' SBL.add ?_ ?h2); (case h2 => (rw [sizeLine_eq]; simp only [Str.length_append, len_q]; omega)); intros)
  k_with "call builtin:str.join" => (k_here; first
    | ((with_unfolding_all refine' join_E ?h1 ?h2 ?h3 ?_); (case h2 => assumption); (case h1 => first | assumption | exact News.isList (by k_asm) (by k_mem)); (case h3 => omega); intro _ _)
    | ((with_unfolding_all refine' join_W ?h1 ?h2 ?h3 ?_); (case h2 => assumption); (case h1 => first | assumption | exact News.isList (by k_asm) (by k_mem)); (case h3 => omega); intro _ _))
  k_with "And" => (with_unfolding_all refine' leaf_str (fun _ _ eRow => eRow) ?_; first | exact esc1 (by assumption) | exact esc2 (by assumption))
  k_with "call ref" => (k_here; (with_unfolding_all refine' word_walk _ _ _ _ _ _ _ _ _ ?p0 ?p1 _ _ _ _ _ _ _ _ _ _ _ _ _ _ _ _ _ ?k1 ?k2 ?k3 ?k4 ?k5 ?k6 ?k7 ?k8 ?_); (case k2 => first | k_asm | with_unfolding_all assumption); (case k4 => first | k_asm | with_unfolding_all assumption); (case k1 => first | k_asm | with_unfolding_all assumption); (case k3 => k_asm); (case k5 => k_asm); (case k6 => with_unfolding_all rfl); (case k7 => ktr_room); (case k8 => ktr_units); (case p0 => omega); (case p1 => omega); intros)
  trivial
theorem writ_walk (w : World) (news : CbLed) (loose : List Str) (mean : ExcName → Option Value) (mg mb : Str → Option Value) (p : Program) (n : Int) (tn : CbTok) (hn0 : 0 ≤ n) (hn1 : n < 1000000)
  (dp un : Nat) (gd : Option (List Code)) (cn : Str) (sc : Scope) (a' : CbAddr) (ccd : CbVal) (cl : List (Str × CbAddr)) (outer : List Env) (A₀ : Around) (base h₀ : Heap) (L : CbAddr) (mm : Str → Option Value) (s : Shared)
  (Q E : Value → Shared → Prop)
  (B : Below A₀ base outer h₀) (F : Fr h₀ L s.heap mm) (X : (Mine.hd.heap_39 w.params).In h₀) (N : News h₀ L s.heap news) (T : Top p loose mean mg mb h₀) (hk : sc.kind = .function) (hdp : dp + 200 < recursionLimit) (hun : un + 1000 < cLine)
  (hret : ∀ t h' tk', Fr h₀ L h' mm → News h₀ L h' news → Q (.str (writT n) t) { s with heap := h', toks := tk' }) :
  wpAny (model PySem.Challenge.rw_rw0047_02.prog w) (ktrTop dp un gd cn sc L a' ccd cl outer) (call (.ref 119) [Value.int n tn]) Q E s := by
  have hwl := wordT_len hn1
  have hel := escS_len (wordT n)
  revert X; k_fill; intro X
  refine wpAny_call ?_
  refine' code_defC ?k1 ?k2 ?k3 ?k4 ?k5 ?kA ?kF ?kK ?k6 ?k7 ?k8 ?k9 ?kB ?kD ?_ ?c2 ?c3 ?c4
  case kA => exact rfl
  case kF => exact rfl
  case kK => assumption
  case k1 => k_asm
  case k2 => k_asm
  case k3 => k_asm
  case k4 => k_asm
  case k5 => k_asm
  case k6 => k_dflt k_is
  case k7 => k_dflt k_is
  case k8 => ktr_room
  case k9 => exact BindsTo.of_eq rfl
  case kB => exact rfl
  case kD => decide +kernel
  case c2 => exact rfl
  case c3 => exact rfl
  case c4 => exact rfl
  intro g' L' h' tk' cells' FG' F' N' Y' B' X' T' l1
  try k_lt l1
  k_cells Y'
  try simp only [List.cons_append, List.nil_append] at N'
  try dsimp only
  try k_lift B'
  try k_fold
  have l1' : AllLt (L' + 1) news := allLt_of fun q hq => Nat.lt_succ_of_lt (l1 q hq)
  k_steps
  all_goals (rename News _ _ _ _ => N9)
  all_goals first
    | exact q_of (hret _ _ _ (by assumption) (fun q hq => N9 q (.tail _ hq))) (writ_1 (by assumption))
    | exact q_of (hret _ _ _ (by assumption) (fun q hq => N9 q (.tail _ hq))) (writ_2 (by assumption))
    | exact q_of (hret _ _ _ (by assumption) (fun q hq => N9 q (.tail _ (.tail _ hq)))) (writ_3 (by assumption) (by assumption))
end
end
section
theorem calm_L2name2 : True ∧ True := by
  w_top off
  k_with_none
  first
    | (walk1; fail)
    | exact ⟨trivial, trivial⟩
theorem rows_L2name2_ne : True := by
  k_with "ne" => (refine neN ?_; (try dsimp only); first | (exact Nat.ne_of_gt (And.left (by assumption))) | (exact Nat.ne_of_gt (And.left (And.right (by assumption)))) | (exact Nat.ne_of_gt (And.right (by assumption))) | (exact Nat.ne_of_gt (And.left (And.right (And.right (by assumption))))) | (exact Nat.ne_of_gt (And.right (And.right (by assumption)))) | (exact Nat.ne_of_gt (And.left (And.right (And.right (And.right (by assumption)))))) | (exact Nat.ne_of_gt (And.right (And.right (And.right (by assumption))))) | (exact Nat.ne_of_gt (And.left (And.right (And.right (And.right (And.right (by assumption))))))) | (exact Nat.ne_of_gt (And.right (And.right (And.right (And.right (by assumption)))))) | (exact Nat.ne_of_gt (And.left (And.right (And.right (And.right (And.right (And.right (by assumption)))))))) | (exact Nat.ne_of_gt (And.right (And.right (And.right (And.right (And.right (by assumption))))))) | (exact Nat.ne_of_gt (And.left (And.right (And.right (And.right (And.right (And.right (And.right (by assumption))))))))) | (exact Nat.ne_of_gt (And.right (And.right (And.right (And.right (And.right (And.right (by assumption)))))))) | (exact Nat.ne_of_gt (And.left (And.right (And.right (And.right (And.right (And.right (And.right (And.right (by assumption)))))))))) | (exact Nat.ne_of_gt (And.right (And.right (And.right (And.right (And.right (And.right (And.right (by assumption))))))))) | (exact Nat.ne_of_gt (And.left (And.right (And.right (And.right (And.right (And.right (And.right (And.right (And.right (by assumption))))))))))) | (exact Nat.ne_of_gt (And.right (And.right (And.right (And.right (And.right (And.right (And.right (And.right (by assumption)))))))))) | (exact Nat.ne_of_gt (And.left (And.right (And.right (And.right (And.right (And.right (And.right (And.right (And.right (And.right (by assumption)))))))))))) | (exact Nat.ne_of_gt (And.right (And.right (And.right (And.right (And.right (And.right (And.right (And.right (And.right (by assumption))))))))))) | (exact Nat.ne_of_lt (And.left (by assumption))) | (exact Nat.ne_of_lt (And.left (And.right (by assumption)))) | (exact Nat.ne_of_lt (And.right (by assumption))) | (exact Nat.ne_of_lt (And.left (And.right (And.right (by assumption))))) | (exact Nat.ne_of_lt (And.right (And.right (by assumption)))) | (exact Nat.ne_of_lt (And.left (And.right (And.right (And.right (by assumption)))))) | (exact Nat.ne_of_lt (And.right (And.right (And.right (by assumption))))) | (exact Nat.ne_of_lt (And.left (And.right (And.right (And.right (And.right (by assumption))))))) | (exact Nat.ne_of_lt (And.right (And.right (And.right (And.right (by assumption)))))) | (exact Nat.ne_of_lt (And.left (And.right (And.right (And.right (And.right (And.right (by assumption)))))))) | (exact Nat.ne_of_lt (And.right (And.right (And.right (And.right (And.right (by assumption))))))) | (exact Nat.ne_of_lt (And.left (And.right (And.right (And.right (And.right (And.right (And.right (by assumption))))))))) | (exact Nat.ne_of_lt (And.right (And.right (And.right (And.right (And.right (And.right (by assumption)))))))) | (exact Nat.ne_of_lt (And.left (And.right (And.right (And.right (And.right (And.right (And.right (And.right (by assumption)))))))))) | (exact Nat.ne_of_lt (And.right (And.right (And.right (And.right (And.right (And.right (And.right (by assumption))))))))) | (exact Nat.ne_of_lt (And.left (And.right (And.right (And.right (And.right (And.right (And.right (And.right (And.right (by assumption))))))))))) | (exact Nat.ne_of_lt (And.right (And.right (And.right (And.right (And.right (And.right (And.right (And.right (by assumption)))))))))) | (exact Nat.ne_of_lt (And.left (And.right (And.right (And.right (And.right (And.right (And.right (And.right (And.right (And.right (by assumption)))))))))))) | (exact Nat.ne_of_lt (And.right (And.right (And.right (And.right (And.right (And.right (And.right (And.right (And.right (by assumption))))))))))))
  trivial
/-- the name that runs of quotation marks say -/
noncomputable def nmGo : List Nat → Nat → List Nat
  | [], m => List.replicate (m / 2) 34
  | c :: r, m => if c = 34 then nmGo r (m + 1) else if m % 2 = 1 then List.replicate (m / 2) 34 else List.replicate (m / 2) 34 ++ c :: nmGo r 0
noncomputable def nameS (x : Str) : Str := ⟨(nmGo (cs x) 0).toArray⟩
noncomputable def nmJ (x : Str) (pre : List Int) (name : Str) (m : Int) : Prop := cs name ++ nmGo ((cs x).drop pre.length) m.toNat = nmGo (cs x) 0
theorem nm_mul (m : Int) : cs (Txt.mul (Str.ofString "\"") (m.fdiv 2)) = List.replicate (m.fdiv 2).toNat 34 := by
  rw [str_q]; exact mul_one_list 34 _
theorem nm_half {m : Int} (h : 0 ≤ m) : (m.fdiv 2).toNat = m.toNat / 2 := by
  rw [Int.fdiv_eq_ediv_of_nonneg _ (by decide)]; omega
theorem nm_eq {x v : Str} (h : cs v = nmGo (cs x) 0) : v = nameS x := by apply str_ext; rw [h]; simp [nameS, cs]
theorem nm_next {x : Str} {pre post : List Int} {c : Nat} (h : KStt.codes x = pre ++ (c : Int) :: post) : (cs x).drop pre.length = c :: (cs x).drop (pre ++ [(c : Int)]).length := by
  have e : (cs x).map (fun c : Nat => (c : Int)) = pre ++ (c : Int) :: post := h
  have e2 := congrArg (List.drop pre.length) e
  rw [← List.map_drop, List.drop_append_of_le_length (Nat.le_refl _), List.drop_length, List.nil_append] at e2
  have e3 : (cs x).drop (pre ++ [(c : Int)]).length = ((cs x).drop pre.length).tail := by
    rw [List.length_append, List.length_singleton, ← List.tail_drop]
  rw [e3]
  generalize (cs x).drop pre.length = l at e2
  cases l with
  | nil => cases e2
  | cons d l =>
    rw [List.map_cons] at e2
    injection e2 with e4 e5
    have : d = c := by omega
    subst this; rfl
theorem nm_start (x : Str) : (0 : Int) ≤ 0 ∧ ((Str.ofString "").length : Int) + 0 ≤ ([] : List Int).length ∧ nmJ x [] (Str.ofString "") 0 := ⟨by omega, by decide, rfl⟩
theorem nm_t1 {x : Str} {pre post : List Int} {c : Nat} {name : Str} {m : Int} (h : KStt.codes x = pre ++ (c : Int) :: post) (h0 : 0 ≤ m) (h2 : (name.length : Int) + m ≤ pre.length) (hJ : nmJ x pre name m) (hq : ((⟨#[c]⟩ : Str) == Str.ofString "\"") = true) :
    0 ≤ m + 1 ∧ (name.length : Int) + (m + 1) ≤ (pre ++ [(c : Int)]).length ∧ nmJ x (pre ++ [(c : Int)]) name (m + 1) := by
  have e := nm_next h
  rw [str_q] at hq
  have hc : c = 34 := by have := beq_iff_eq.mp hq; injection this with this; simpa using this
  refine ⟨by omega, by simp; omega, ?_⟩
  unfold nmJ at hJ ⊢
  rw [e, hc, nmGo, if_pos rfl] at hJ
  rw [show (m + 1).toNat = m.toNat + 1 by omega]
  rw [hc]
  exact hJ
theorem nm_ne {c : Nat} (hq : ((⟨#[c]⟩ : Str) == Str.ofString "\"") = false) : c ≠ 34 := by
  rw [str_q] at hq
  rintro rfl
  simp at hq
theorem nm_t2 {x : Str} {pre post : List Int} {c : Nat} {name : Str} {m : Int} (h : KStt.codes x = pre ++ (c : Int) :: post) (h0 : 0 ≤ m) (h2 : (name.length : Int) + m ≤ pre.length) (hJ : nmJ x pre name m) (hq : ((⟨#[c]⟩ : Str) == Str.ofString "\"") = false) (hm : m.fmod 2 ≠ 1) :
    (0 : Int) ≤ 0 ∧ ((name ++ (Txt.mul (Str.ofString "\"") (m.fdiv 2) ++ ⟨#[c]⟩)).length : Int) + 0 ≤ (pre ++ [(c : Int)]).length ∧ nmJ x (pre ++ [(c : Int)]) (name ++ (Txt.mul (Str.ofString "\"") (m.fdiv 2) ++ ⟨#[c]⟩)) 0 := by
  have e := nm_next h
  have hc := nm_ne hq
  have hh := nm_half h0
  refine ⟨by omega, ?_, ?_⟩
  · rw [← cs_len, cs_append, cs_append, nm_mul, List.length_append, List.length_append, List.length_replicate, cs_len, hh]
    have : (cs (⟨#[c]⟩ : Str)).length = 1 := rfl
    rw [this, List.length_append, List.length_singleton]
    omega
  · unfold nmJ at hJ ⊢
    have hm2 : ¬ m.toNat % 2 = 1 := by rw [Int.fmod_eq_emod_of_nonneg _ (by decide)] at hm; omega
    rw [e, nmGo, if_neg hc, if_neg hm2] at hJ
    rw [cs_append, cs_append, nm_mul, hh, ← hJ]
    simp [cs]
theorem nm_e1 {x : Str} {pre post : List Int} {c : Nat} {name : Str} {m : Int} (h : KStt.codes x = pre ++ (c : Int) :: post) (h0 : 0 ≤ m) (hJ : nmJ x pre name m) (hq : ((⟨#[c]⟩ : Str) == Str.ofString "\"") = false) (hm : m.fmod 2 = 1) :
    name ++ Txt.mul (Str.ofString "\"") (m.fdiv 2) = nameS x := by
  have e := nm_next h
  have hc := nm_ne hq
  apply nm_eq
  unfold nmJ at hJ
  have hm2 : m.toNat % 2 = 1 := by rw [Int.fmod_eq_emod_of_nonneg _ (by decide)] at hm; omega
  rw [e, nmGo, if_neg hc, if_pos hm2] at hJ
  rw [cs_append, nm_mul, nm_half h0, hJ]
theorem nm_e2 {x : Str} {name : Str} {m : Int} (h0 : 0 ≤ m) (hJ : nmJ x (KStt.codes x) name m) : name ++ Txt.mul (Str.ofString "\"") (m.fdiv 2) = nameS x := by
  apply nm_eq
  unfold nmJ at hJ
  rw [KStt.codes_length, List.drop_of_length_le (by rw [cs_len]; omega), nmGo] at hJ
  rw [cs_append, nm_mul, nm_half h0, hJ]
section
theorem one_q : (Str.ofString "\"").length = 1 := by decide +kernel
theorem mul_len {m : Int} (h : 0 ≤ m) : ((Txt.mul (Str.ofString "\"") (m.fdiv 2)).length : Int) ≤ m := by
  rw [← cs_len, nm_mul, List.length_replicate, nm_half h]; omega
theorem rows_L2name2_13 : True := by
  k_with "binaryOp Add str str" => (k_here; (with_unfolding_all refine' SBL.add ?_ ?h2); (case h2 => (rw [sizeLine_eq]; (have hMLRow := mul_len (by assumption)); (show _ + 1 ≤ _); omega)); intros)
  k_with "inplaceOp Add str str" => (k_here; (with_unfolding_all refine' SBL.iadd ?_ ?h2); (case h2 => (rw [sizeLine_eq]; (have hMLRow := mul_len (by assumption)); (rw [Str.length_append]); (show _ + (_ + 1) ≤ _); omega)); intros)
  trivial
theorem name_walk (w : World) (news : CbLed) (loose : List Str) (mean : ExcName → Option Value) (mg mb : Str → Option Value) (p : Program) (x : Str) (tx : CbTok) (hx : x.length ≤ 1000)
  (dp un : Nat) (gd : Option (List Code)) (cn : Str) (sc : Scope) (a' : CbAddr) (ccd : CbVal) (cl : List (Str × CbAddr)) (outer : List Env) (A₀ : Around) (base h₀ : Heap) (L : CbAddr) (mm : Str → Option Value) (s : Shared)
  (Q E : Value → Shared → Prop)
  (B : Below A₀ base outer h₀) (F : Fr h₀ L s.heap mm) (X : (Mine.hd.heap_39 w.params).In h₀) (N : News h₀ L s.heap news) (T : Top p loose mean mg mb h₀) (hk : sc.kind = .function) (hdp : dp + 150 < recursionLimit) (hun : un + 800 < cLine)
  (hret : ∀ t h' tk', Fr h₀ L h' mm → News h₀ L h' news → Q (.str (nameS x) t) { s with heap := h', toks := tk' }) :
  wpAny (model PySem.Challenge.rw_rw0047_02.prog w) (ktrTop dp un gd cn sc L a' ccd cl outer) (call (.ref 126) [Value.str x tx]) Q E s := by
  revert X; k_fill; intro X
  refine wpAny_call ?_
  k_dflt cell_enter
  k_with "pyIter str" => k_state (fun pre name marks => 0 ≤ marks ∧ (name.length : Int) + marks ≤ pre.length ∧ nmJ x pre name marks) "name" "marks"
  k_with "state" => first | exact nm_start _ | exact nm_t1 (by assumption) (by assumption) (by assumption) (by assumption) (by assumption) | exact nm_t2 (by assumption) (by assumption) (by assumption) (by assumption) (by assumption) (by assumption)
  k_steps
  all_goals first
    | exact q_of (hret _ _ _ (by assumption) (by rename News _ _ _ _ => N9; exact fun q hq => N9 q (List.mem_append_left _ hq))) (nm_e1 (by assumption) (by assumption) (by assumption) (by assumption) (by assumption))
    | exact q_of (hret _ _ _ (by assumption) (by assumption)) (nm_e2 (by assumption) (by assumption))
end
end
section
theorem calm_L2sought2 : True ∧ True := by
  w_top off
  k_with_none
  first
    | (walk1; fail)
    | exact ⟨trivial, trivial⟩
theorem rows_L2sought2_ne : True := by
  k_with "ne" => (refine neN ?_; (try dsimp only); first | (exact Nat.ne_of_gt (And.left (by assumption))) | (exact Nat.ne_of_gt (And.left (And.right (by assumption)))) | (exact Nat.ne_of_gt (And.right (by assumption))) | (exact Nat.ne_of_gt (And.left (And.right (And.right (by assumption))))) | (exact Nat.ne_of_gt (And.right (And.right (by assumption)))) | (exact Nat.ne_of_gt (And.left (And.right (And.right (And.right (by assumption)))))) | (exact Nat.ne_of_gt (And.right (And.right (And.right (by assumption))))) | (exact Nat.ne_of_gt (And.left (And.right (And.right (And.right (And.right (by assumption))))))) | (exact Nat.ne_of_gt (And.right (And.right (And.right (And.right (by assumption)))))) | (exact Nat.ne_of_gt (And.left (And.right (And.right (And.right (And.right (And.right (by assumption)))))))) | (exact Nat.ne_of_gt (And.right (And.right (And.right (And.right (And.right (by assumption))))))) | (exact Nat.ne_of_gt (And.left (And.right (And.right (And.right (And.right (And.right (And.right (by assumption))))))))) | (exact Nat.ne_of_gt (And.right (And.right (And.right (And.right (And.right (And.right (by assumption)))))))) | (exact Nat.ne_of_gt (And.left (And.right (And.right (And.right (And.right (And.right (And.right (And.right (by assumption)))))))))) | (exact Nat.ne_of_gt (And.right (And.right (And.right (And.right (And.right (And.right (And.right (by assumption))))))))) | (exact Nat.ne_of_gt (And.left (And.right (And.right (And.right (And.right (And.right (And.right (And.right (And.right (by assumption))))))))))) | (exact Nat.ne_of_gt (And.right (And.right (And.right (And.right (And.right (And.right (And.right (And.right (by assumption)))))))))) | (exact Nat.ne_of_gt (And.left (And.right (And.right (And.right (And.right (And.right (And.right (And.right (And.right (And.right (by assumption)))))))))))) | (exact Nat.ne_of_gt (And.right (And.right (And.right (And.right (And.right (And.right (And.right (And.right (And.right (by assumption))))))))))) | (exact Nat.ne_of_lt (And.left (by assumption))) | (exact Nat.ne_of_lt (And.left (And.right (by assumption)))) | (exact Nat.ne_of_lt (And.right (by assumption))) | (exact Nat.ne_of_lt (And.left (And.right (And.right (by assumption))))) | (exact Nat.ne_of_lt (And.right (And.right (by assumption)))) | (exact Nat.ne_of_lt (And.left (And.right (And.right (And.right (by assumption)))))) | (exact Nat.ne_of_lt (And.right (And.right (And.right (by assumption))))) | (exact Nat.ne_of_lt (And.left (And.right (And.right (And.right (And.right (by assumption))))))) | (exact Nat.ne_of_lt (And.right (And.right (And.right (And.right (by assumption)))))) | (exact Nat.ne_of_lt (And.left (And.right (And.right (And.right (And.right (And.right (by assumption)))))))) | (exact Nat.ne_of_lt (And.right (And.right (And.right (And.right (And.right (by assumption))))))) | (exact Nat.ne_of_lt (And.left (And.right (And.right (And.right (And.right (And.right (And.right (by assumption))))))))) | (exact Nat.ne_of_lt (And.right (And.right (And.right (And.right (And.right (And.right (by assumption)))))))) | (exact Nat.ne_of_lt (And.left (And.right (And.right (And.right (And.right (And.right (And.right (And.right (by assumption)))))))))) | (exact Nat.ne_of_lt (And.right (And.right (And.right (And.right (And.right (And.right (And.right (by assumption))))))))) | (exact Nat.ne_of_lt (And.left (And.right (And.right (And.right (And.right (And.right (And.right (And.right (And.right (by assumption))))))))))) | (exact Nat.ne_of_lt (And.right (And.right (And.right (And.right (And.right (And.right (And.right (And.right (by assumption)))))))))) | (exact Nat.ne_of_lt (And.left (And.right (And.right (And.right (And.right (And.right (And.right (And.right (And.right (And.right (by assumption)))))))))))) | (exact Nat.ne_of_lt (And.right (And.right (And.right (And.right (And.right (And.right (And.right (And.right (And.right (by assumption))))))))))))
  trivial
noncomputable def soughtI (a b : List Nat) : Int := (soughtN a b : Int)
noncomputable def sgJ (x y : Str) (pre : List Int) (least begin_ : Int) : Prop := least = ((sgo (cs x) (cs y) pre.length).1 : Int) ∧ begin_ = ((sgo (cs x) (cs y) pre.length).2 : Int)
theorem sg_start (x y : Str) : (0 : Int) ≤ 2 * (x.length : Int) + 1 ∧ sgJ x y [] (2 * (x.length : Int) + 1) (y.length : Int) := by
  refine ⟨by omega, ?_, ?_⟩
  · show _ = ((2 * (cs x).length + 1 : Nat) : Int); rw [cs_len]; omega
  · show _ = (((cs y).length : Nat) : Int); rw [cs_len]
theorem sg_t1 {x y : Str} {pre : List Int} {k least b v : Int} (hk : k = 0 + (pre.length : Int)) (h1 : pre.length < ((y.length : Int) + 1 - 0).toNat) (hJ : sgJ x y pre least b) (hv : LevOk x (Txt.slice y (some k) none) (least - 1) v) (hlt : v < least) : v = (D (cs x) ((cs y).drop pre.length) : Int) ∧ sgJ x y (pre ++ [k]) v k := by
  have e : cs (Txt.slice y (some k) none) = (cs y).drop pre.length := by rw [slice_from (by omega) (by omega)]; congr 1; omega
  have hD : v = (D (cs x) ((cs y).drop pre.length) : Int) := by
    rcases hv with hv | hv
    · rw [hv, e]
    · omega
  refine ⟨hD, ?_⟩
  have hl : (pre ++ [k]).length = pre.length + 1 := by simp
  unfold sgJ
  rw [hl, sgo]
  have : D (cs x) ((cs y).drop pre.length) < (sgo (cs x) (cs y) pre.length).1 := by have := hJ.1; omega
  rw [if_pos this]
  exact ⟨hD, by omega⟩
theorem sg_t2 {x y : Str} {pre : List Int} {k least b v : Int} (hk : k = 0 + (pre.length : Int)) (h1 : pre.length < ((y.length : Int) + 1 - 0).toNat) (hJ : sgJ x y pre least b) (hv : LevOk x (Txt.slice y (some k) none) (least - 1) v) (hlt : ¬ v < least) : sgJ x y (pre ++ [k]) least b := by
  have e : cs (Txt.slice y (some k) none) = (cs y).drop pre.length := by rw [slice_from (by omega) (by omega)]; congr 1; omega
  have hl : (pre ++ [k]).length = pre.length + 1 := by simp
  unfold sgJ
  rw [hl, sgo]
  have : ¬ D (cs x) ((cs y).drop pre.length) < (sgo (cs x) (cs y) pre.length).1 := by
    have := hJ.1
    rcases hv with hv | hv
    · rw [e] at hv; omega
    · rw [e] at hv; omega
  rw [if_neg this]
  exact hJ
theorem sl_len {y : Str} {k : Int} (h0 : 0 ≤ k) (h1 : k ≤ y.length) (h : y.length ≤ 40) : (Txt.slice y (some k) none).length ≤ 40 := by
  rw [← cs_len, slice_from h0 h1, List.length_drop, cs_len]; omega
theorem sg_s0 (x y : Str) : (0 : Int) ≤ 2 * (x.length : Int) + 1 ∧ (2 * (x.length : Int) + 1 : Int) ≤ 2 * (x.length : Int) + 1 ∧ sgJ x y [] (2 * (x.length : Int) + 1) (y.length : Int) := ⟨by omega, by omega, (sg_start x y).2⟩
theorem sg_w1 {x y : Str} {pre : List Int} {k least b v : Int} (hk : k = 0 + (pre.length : Int)) (h1 : pre.length < ((y.length : Int) + 1 - 0).toNat) (a1 : least ≤ 2 * (x.length : Int) + 1) (hJ : sgJ x y pre least b) (hv : LevOk x (Txt.slice y (some k) none) (least - 1) v) (hlt : v < least) :
    0 ≤ v ∧ v ≤ 2 * (x.length : Int) + 1 ∧ sgJ x y (pre ++ [k]) v k := by
  obtain ⟨h, h2⟩ := sg_t1 hk h1 hJ hv hlt
  exact ⟨by omega, by omega, h2⟩
theorem sg_w2 {x y : Str} {pre : List Int} {k least b v : Int} (hk : k = 0 + (pre.length : Int)) (h1 : pre.length < ((y.length : Int) + 1 - 0).toNat) (a0 : 0 ≤ least) (a1 : least ≤ 2 * (x.length : Int) + 1) (hJ : sgJ x y pre least b) (hv : LevOk x (Txt.slice y (some k) none) (least - 1) v) (hlt : ¬ v < least) :
    0 ≤ least ∧ least ≤ 2 * (x.length : Int) + 1 ∧ sgJ x y (pre ++ [k]) least b := ⟨a0, a1, sg_t2 hk h1 hJ hv hlt⟩
theorem sg_end {x y : Str} {least b : Int} (hJ : sgJ x y (rangeKs 0 ((y.length : Int) + 1 - 0).toNat) least b) : 100 * least + b = soughtI (cs x) (cs y) := by
  obtain ⟨h1, h2⟩ := hJ
  have e : (rangeKs 0 ((y.length : Int) + 1 - 0).toNat).length = (cs y).length + 1 := by rw [rangeKs_length, cs_len]; omega
  rw [e] at h1 h2
  rw [h1, h2]
  unfold soughtI soughtN
  omega
theorem q_ofI {Q : Value → Shared → Prop} {d e : Int} {t : Tok} {s : Shared} (h : Q (.int e t) s) (he : d = e) : Q (.int d t) s := he ▸ h
section
theorem rows_L2sought2_14 : True := by
  k_with "call ref" => (k_here; (with_unfolding_all refine' lev_walk _ _ _ _ _ _ _ _ _ _ _ _ _ ?p0 ?p1 _ _ _ _ _ _ _ _ _ _ _ _ _ _ _ _ _ ?k1 ?k2 ?k3 ?k4 ?k5 ?k6 ?k7 ?k8 ?_); (case k2 => first | k_asm | with_unfolding_all assumption); (case k4 => first | k_asm | with_unfolding_all assumption); (case k1 => first | k_asm | with_unfolding_all assumption); (case k3 => k_asm); (case k5 => k_asm); (case k6 => with_unfolding_all rfl); (case k7 => ktr_room); (case k8 => ktr_units); (case p0 => first | omega | exact sl_len (by omega) (by omega) (by omega)); (case p1 => first | omega | exact sl_len (by omega) (by omega) (by omega)); intros)
  trivial
theorem sought_walk (w : World) (news : CbLed) (loose : List Str) (mean : ExcName → Option Value) (mg mb : Str → Option Value) (p : Program) (x y : Str) (tx ty : CbTok) (hx : x.length ≤ 3) (hy : y.length ≤ 40)
  (dp un : Nat) (gd : Option (List Code)) (cn : Str) (sc : Scope) (a' : CbAddr) (ccd : CbVal) (cl : List (Str × CbAddr)) (outer : List Env) (A₀ : Around) (base h₀ : Heap) (L : CbAddr) (mm : Str → Option Value) (s : Shared)
  (Q E : Value → Shared → Prop)
  (B : Below A₀ base outer h₀) (F : Fr h₀ L s.heap mm) (X : (Mine.hd.heap_39 w.params).In h₀) (N : News h₀ L s.heap news) (T : Top p loose mean mg mb h₀) (hk : sc.kind = .function) (hdp : dp + 200 < recursionLimit) (hun : un + 1000 < cLine)
  (hret : ∀ t h' tk', Fr h₀ L h' mm → News h₀ L h' news → Q (.int (soughtI (cs x) (cs y)) t) { s with heap := h', toks := tk' }) :
  wpAny (model PySem.Challenge.rw_rw0047_02.prog w) (ktrTop dp un gd cn sc L a' ccd cl outer) (call (.ref 133) [Value.str x tx, Value.str y ty]) Q E s := by
  revert X; k_fill; intro X
  refine wpAny_call ?_
  k_dflt cell_enter
  k_with "pyIter ref" => k_state (fun pre least begin => 0 ≤ least ∧ least ≤ 2 * (x.length : Int) + 1 ∧ sgJ x y pre least begin) "least" "begin"
  k_with "state" => first | exact sg_s0 _ _ | exact sg_w1 (by assumption) (by assumption) (by assumption) (by assumption) (by assumption) (by assumption) | exact sg_w2 (by assumption) (by assumption) (by assumption) (by assumption) (by assumption) (by assumption) (by assumption)
  k_steps
  exact q_ofI (hret _ _ _ (by assumption) (by assumption)) (sg_end (by assumption))
end
end
section
theorem calm_L2row2 : True ∧ True := by
  w_top off
  k_with_none
  first
    | (walk1; fail)
    | exact ⟨trivial, trivial⟩
theorem rows_L2row2_ne : True := by
  k_with "ne" => (refine neN ?_; (try dsimp only); first | (exact Nat.ne_of_gt (And.left (by assumption))) | (exact Nat.ne_of_gt (And.left (And.right (by assumption)))) | (exact Nat.ne_of_gt (And.right (by assumption))) | (exact Nat.ne_of_gt (And.left (And.right (And.right (by assumption))))) | (exact Nat.ne_of_gt (And.right (And.right (by assumption)))) | (exact Nat.ne_of_gt (And.left (And.right (And.right (And.right (by assumption)))))) | (exact Nat.ne_of_gt (And.right (And.right (And.right (by assumption))))) | (exact Nat.ne_of_gt (And.left (And.right (And.right (And.right (And.right (by assumption))))))) | (exact Nat.ne_of_gt (And.right (And.right (And.right (And.right (by assumption)))))) | (exact Nat.ne_of_gt (And.left (And.right (And.right (And.right (And.right (And.right (by assumption)))))))) | (exact Nat.ne_of_gt (And.right (And.right (And.right (And.right (And.right (by assumption))))))) | (exact Nat.ne_of_gt (And.left (And.right (And.right (And.right (And.right (And.right (And.right (by assumption))))))))) | (exact Nat.ne_of_gt (And.right (And.right (And.right (And.right (And.right (And.right (by assumption)))))))) | (exact Nat.ne_of_gt (And.left (And.right (And.right (And.right (And.right (And.right (And.right (And.right (by assumption)))))))))) | (exact Nat.ne_of_gt (And.right (And.right (And.right (And.right (And.right (And.right (And.right (by assumption))))))))) | (exact Nat.ne_of_gt (And.left (And.right (And.right (And.right (And.right (And.right (And.right (And.right (And.right (by assumption))))))))))) | (exact Nat.ne_of_gt (And.right (And.right (And.right (And.right (And.right (And.right (And.right (And.right (by assumption)))))))))) | (exact Nat.ne_of_gt (And.left (And.right (And.right (And.right (And.right (And.right (And.right (And.right (And.right (And.right (by assumption)))))))))))) | (exact Nat.ne_of_gt (And.right (And.right (And.right (And.right (And.right (And.right (And.right (And.right (And.right (by assumption))))))))))) | (exact Nat.ne_of_lt (And.left (by assumption))) | (exact Nat.ne_of_lt (And.left (And.right (by assumption)))) | (exact Nat.ne_of_lt (And.right (by assumption))) | (exact Nat.ne_of_lt (And.left (And.right (And.right (by assumption))))) | (exact Nat.ne_of_lt (And.right (And.right (by assumption)))) | (exact Nat.ne_of_lt (And.left (And.right (And.right (And.right (by assumption)))))) | (exact Nat.ne_of_lt (And.right (And.right (And.right (by assumption))))) | (exact Nat.ne_of_lt (And.left (And.right (And.right (And.right (And.right (by assumption))))))) | (exact Nat.ne_of_lt (And.right (And.right (And.right (And.right (by assumption)))))) | (exact Nat.ne_of_lt (And.left (And.right (And.right (And.right (And.right (And.right (by assumption)))))))) | (exact Nat.ne_of_lt (And.right (And.right (And.right (And.right (And.right (by assumption))))))) | (exact Nat.ne_of_lt (And.left (And.right (And.right (And.right (And.right (And.right (And.right (by assumption))))))))) | (exact Nat.ne_of_lt (And.right (And.right (And.right (And.right (And.right (And.right (by assumption)))))))) | (exact Nat.ne_of_lt (And.left (And.right (And.right (And.right (And.right (And.right (And.right (And.right (by assumption)))))))))) | (exact Nat.ne_of_lt (And.right (And.right (And.right (And.right (And.right (And.right (And.right (by assumption))))))))) | (exact Nat.ne_of_lt (And.left (And.right (And.right (And.right (And.right (And.right (And.right (And.right (And.right (by assumption))))))))))) | (exact Nat.ne_of_lt (And.right (And.right (And.right (And.right (And.right (And.right (And.right (And.right (by assumption)))))))))) | (exact Nat.ne_of_lt (And.left (And.right (And.right (And.right (And.right (And.right (And.right (And.right (And.right (And.right (by assumption)))))))))))) | (exact Nat.ne_of_lt (And.right (And.right (And.right (And.right (And.right (And.right (And.right (And.right (And.right (by assumption))))))))))))
  trivial
section
open PyProof.Rows PyProof.V PySem.Spec
variable {prog : Program} {w : World} {A : Around} {E : Value → Shared → Prop} {s : Shared} {env : Env} {h₀ : Heap} {x : Str} {body : List Stmt} {Q : Flow → Shared → Prop}
theorem pyIter_strO {xt : Str} {t : Tok} {Q : Value → Shared → Prop}
    (hQ : ∀ (o : Obj) (St : Nat → Heap → Prop), (∀ A' : Around, A'.handled = none → Walks prog w A' s.heap.objs.size [s.heap.objs.size] [s.heap.objs.size] xt.cps.size (SignAt xt) St) → (∀ i h, St i h → ∃ o', h.get? s.heap.objs.size = some o') → St 0 (s.heap.push o) →
      Q (.ref s.heap.objs.size) { s with heap := s.heap.push o }) : wpAny (model prog w) A (pyIter (.str xt t)) Q E s := by
  cases ha : xt.cps.all (· < 128)
  · exact wpAny_pyIter_wide ha (hQ _ _ (fun A' hA => Walks.strWide hA _ xt t) (fun i h ⟨o', ho, _⟩ => ⟨o', ho⟩) ⟨_, Heap.get?_push_size _ rfl, rfl, rfl⟩)
  · exact wpAny_pyIter_ascii ha (hQ _ _ (fun A' hA => Walks.strAscii hA _ xt t) (fun i h ⟨o', ho, _⟩ => ⟨o', ho⟩) ⟨_, Heap.get?_push_size _ rfl, rfl, rfl⟩)
/-- a loop over the signs of a text, its state in the ledger -/
theorem tbt_inv {xt : Str} {tx : Tok} {m₀ : Str → Option Value} {news : List (Addr × Obj)} (J : Nat → (Str → Option Value) → List (Addr × Obj) → Prop)
    (hh : A.handled = none) (F : Fr h₀ env.locals s.heap m₀) (N : News h₀ env.locals s.heap news) (hj : J 0 m₀ news)
    (turn : ∀ i c t m₁ nx h tk own, (cs xt)[i]? = some c → TbOff own nx → J i m₁ nx → Fr h₀ env.locals h (fun y => if y = x then some (.str ⟨#[c]⟩ t) else m₁ y) → News h₀ env.locals h (nx ++ own) →
      wpAny (model prog w) A (execs body env) (TbPost h₀ env.locals (J (i + 1)) own { s with heap := h, toks := tk } Q) E { s with heap := h, toks := tk })
    (done : ∀ m₁ nx h tk, J (cs xt).length m₁ nx → Fr h₀ env.locals h m₁ → News h₀ env.locals h nx → Q .next { s with heap := h, toks := tk }) :
    wpAny (model prog w) A (pyIter (.str xt tx)) (fun it s₂ => LoopAtV prog w A h₀ env x body Q E it s₂) E s := by
  refine pyIter_strO fun o St hW hob hst => ?_
  have W := hW A hh
  refine tbr_loop J W (fun _ h => h) (fun _ h => h) ?_ ?_ ?_ ?_ hst (F.push _) (fun p hp => ⟨Heap.get?_push_of_some _ (N p hp).1, (N p hp).2⟩) hj ?_ ?_
  · intro i h hi b hb
    rw [List.mem_singleton.mp hb]
    exact hob i h hi
  · intro hm
    exact absurd F.ns.lt ((List.mem_singleton.mp hm) ▸ Nat.lt_irrefl _)
  · intro b hb
    rw [List.mem_singleton.mp hb]
    exact next_is_new F
  · intro p hp hI
    exact absurd (Heap.lt_size (N p hp).1) ((List.mem_singleton.mp hI) ▸ Nat.lt_irrefl _)
  · rintro i v m₁ nx h tk own hi ⟨c, u, hc, rfl⟩ hoff hJ F₁ N₁
    exact turn i c u m₁ nx h tk own (by simpa [cs] using hc) hoff hJ F₁ N₁
  · intro m₁ nx h tk hJ F₁ N₁
    exact done m₁ nx h tk (by simpa [cs] using hJ) F₁ N₁
end
section
variable {prog : Program} {w : World} {A : Around} {E : Value → Shared → Prop} {s : Shared} {h₀ : Heap} {L : Addr} {m : Str → Option Value} {news : List (Addr × Obj)} {value slice : PySem.Expr} {D : Addr} {Q : Value → Shared → Prop}
/-- an item of a list of ints -/
theorem item_int {us : List Value} {n : Nat} {u : Tok} {k : Int} {ns : List Int} (N : News h₀ L s.heap news) (hm : (D, listOf us.toArray n) ∈ news) (hi : IntsAre us ns) (h0 : 0 ≤ k) (h1 : k < ns.length) (hz : ns.length ≤ 1000)
    (h : ∀ t, Q (.int (ns.getD k.toNat 0) t) s)
    (hs : subscripted slice false (.ref D) (.int k u) = operate [.ref D, .int k u] (getItem (.ref D) (.int k u)) := by with_unfolding_all rfl) :
    wpAny (model prog w) A (subscriptTail value slice (.ref D) (.int k u)) Q E s := by
  have hl : s.heap.IsList D us.toArray := ⟨_, (N _ hm).1, rfl, n, rfl⟩
  have e : ns[k.toNat]? = some (ns.getD k.toNat 0) := by
    rw [List.getD_eq_getElem?_getD, List.getElem?_eq_getElem (by omega)]; rfl
  obtain ⟨t, ht⟩ := hi.get _ _ e
  exact tail_any hl.typeIs slot_list_getitem.lookup (wpAny_getItem_list hl h0 (by omega) (by rw [List.getElem?_toArray]; exact ht) (h t)) hs
end
section
variable {prog : Program} {w : World} {A : Around} {E : Value → Shared → Prop} {s : Shared} {h₀ : Heap} {L : Addr} {m : Str → Option Value} {news : List (Addr × Obj)} {Q : Value → Shared → Prop}
theorem min_three_N {a b c : Int} {t u x : Tok} (hh : A.handled = none) (F : Fr h₀ L s.heap m) (N : News h₀ L s.heap news)
    (h : ∀ h' tk t', Fr h₀ L h' m → News h₀ L h' news → Q (.int (min (min a b) c) t') { s with heap := h', toks := tk }) :
    wpAny (model prog w) A (call (.builtin "min") [.int a t, .int b u, .int c x]) Q E s :=
  min_three_ints hh fun h' tk hk => by
    have key := fun t' => h h' tk t' (F.grownK hk) (N.grown hk)
    have e : min (min a b) c = (if b < a then (if c < b then c else b) else (if c < a then c else a)) := by
      split <;> split <;> omega
    rw [e] at key
    by_cases hba : b < a <;> by_cases hc1 : c < b <;> by_cases hc2 : c < a <;> simp only [hba, hc1, hc2, if_true, if_false] at key ⊢ <;> exact key _
end
theorem line_len (a b : List Nat) : (lineOf a b).length = b.length + 1 := by simp [lineOf]
theorem line_get {a b : List Nat} {k : Nat} (h : k < b.length + 1) : (lineOf a b).getD k 0 = (soughtN a (b.take k) : Int) := by
  simp [lineOf, List.getD_eq_getElem?_getD, h]
theorem line_take {a b : List Nat} {k : Nat} (h : k < b.length + 1) : (lineOf a b).take (k + 1) = (lineOf a b).take k ++ [(soughtN a (b.take k) : Int)] := by
  rw [take_oneI (by rw [line_len]; exact h), line_get h]
/-- the frame's names that the table's loop needs -/
noncomputable abbrev frow (R : Value) (y : Str) (ty : CbTok) (m : Str → Option Value) : Str → Option Value := fun z => if z = Str.ofString "row" then some R else if z = Str.ofString "name" then some (.str y ty) else m z
theorem frow_pack2 {m : Str → Option Value} {R : Value} {y : Str} {ty : CbTok} (a : m (Str.ofString "row") = some R) (b : m (Str.ofString "name") = some (.str y ty)) : m = frow R y ty m := by
  funext z
  unfold frow
  split
  · next e => rw [e, a]
  · split
    · next e => rw [e, b]
    · rfl
theorem row_start {vs : List Value} {x y : Str} (hy : y.length ≤ 40) (h : IntsAre vs (rangeKs 0 ((y.length : Int) + 1 - 0).toNat)) : IntsAre vs (lineOf ((cs x).take 0) (cs y)) := by
  have e : rangeKs 0 ((y.length : Int) + 1 - 0).toNat = lineOf ((cs x).take 0) (cs y) := by
    have e1 : ((y.length : Int) + 1 - 0).toNat = (cs y).length + 1 := by rw [cs_len]; omega
    rw [e1]
    unfold lineOf rangeKs
    apply List.map_congr_left
    intro k hk
    rw [List.mem_range] at hk
    rw [List.take_zero, so_nil (by rw [List.length_take, cs_len]; omega), List.length_take, Nat.min_eq_left (by omega)]
    try omega
  exact e ▸ h
inductive RowJ (x y : Str) (ty : CbTok) (news : CbLed) (i : Nat) (m : Str → Option Value) (nx : CbLed) : Prop
  | mk (R : Nat) (vs : List Value) (c : Nat) (m' : Str → Option Value) (hI : IntsAre vs (lineOf ((cs x).take i) (cs y))) (ln : ∀ q ∈ news, q.1 < R) (hx : nx = (R, listOf vs.toArray c) :: news) (hm : m = frow (.ref R) y ty m') : RowJ x y ty news i m nx
theorem cast_min (p q : Nat) : ((min p q : Nat) : Int) = min (p : Int) q := by
  rcases Nat.le_total p q with h | h
  · rw [Nat.min_eq_left h, Int.min_eq_left (Int.ofNat_le.mpr h)]
  · rw [Nat.min_eq_right h, Int.min_eq_right (Int.ofNat_le.mpr h)]
theorem cast_min3 (p q r s : Nat) : min (min ((p : Int) + 100 * (s : Int)) ((q : Int) + 200)) ((r : Int) + 200) = ((min (min (p + 100 * s) (q + 200)) (r + 200) : Nat) : Int) := by
  rw [cast_min, cast_min]; rfl
/-- the new line so far -/
noncomputable def FreJ (x y : Str) (i k : Nat) (fresh : List Int) : Prop := fresh = (lineOf ((cs x).take (i + 1)) (cs y)).take (k + 1)
theorem fre_start {x y : Str} {i c : Nat} (hc : (cs x)[i]? = some c) : [(lineOf ((cs x).take i) (cs y)).getD (0 : Int).toNat 0 + 200].length = ([] : List Int).length + 1 ∧ FreJ x y i ([] : List Int).length [(lineOf ((cs x).take i) (cs y)).getD (0 : Int).toNat 0 + 200] := by
  obtain ⟨hi, hc⟩ := List.getElem?_eq_some_iff.mp hc
  refine ⟨rfl, ?_⟩
  show [(lineOf ((cs x).take i) (cs y)).getD 0 0 + 200] = (lineOf ((cs x).take (i + 1)) (cs y)).take (0 + 1)
  rw [line_take (by omega), line_get (by omega), List.take_zero, List.take_zero, so_first, so_first, List.length_take, List.length_take, Nat.min_eq_left (by omega), Nat.min_eq_left (by omega), List.nil_append]
  congr 1
theorem fre_turn {x y : Str} {i c : Nat} {pre fresh : List Int} {k pay : Int} (hc : (cs x)[i]? = some c) (hy : y.length ≤ 40) (hk : k = 0 + (pre.length : Int)) (h1 : pre.length < ((y.length : Int) - 0).toNat) (hl : fresh.length = pre.length + 1) (hJ : FreJ x y i pre.length fresh)
    (hp : pay = 100 * (sc c ((cs y).getD pre.length 0) : Int)) :
    (fresh ++ [min (min ((lineOf ((cs x).take i) (cs y)).getD k.toNat 0 + pay) ((lineOf ((cs x).take i) (cs y)).getD (k + 1).toNat 0 + 200)) (fresh.getD k.toNat 0 + 200)]).length = (pre ++ [k]).length + 1 ∧
    FreJ x y i (pre ++ [k]).length (fresh ++ [min (min ((lineOf ((cs x).take i) (cs y)).getD k.toNat 0 + pay) ((lineOf ((cs x).take i) (cs y)).getD (k + 1).toNat 0 + 200)) (fresh.getD k.toNat 0 + 200)]) := by
  obtain ⟨hi, hc⟩ := List.getElem?_eq_some_iff.mp hc
  have hn : pre.length < (cs y).length := by rw [cs_len]; omega
  have e1 : k.toNat = pre.length := by omega
  have e2 : (k + 1).toNat = pre.length + 1 := by omega
  have hlen : (pre ++ [k]).length = pre.length + 1 := by simp
  refine ⟨by simp [hl], ?_⟩
  unfold FreJ at hJ ⊢
  rw [hlen, line_take (by omega), ← hJ]
  congr 1
  have hf : fresh.getD k.toNat 0 = (soughtN ((cs x).take (i + 1)) ((cs y).take pre.length) : Int) := by
    rw [e1, hJ, line_take (by omega), getD_right (by rw [List.length_take]; exact Nat.min_le_left _ _), List.length_take, line_len, Nat.min_eq_left (by omega), Nat.sub_self]; rfl
  have ex : (cs x).take (i + 1) = (cs x).take i ++ [c] := by rw [take_one hi, List.getD_eq_getElem?_getD, List.getElem?_eq_getElem hi, hc]; rfl
  have ey : (cs y).take (pre.length + 1) = (cs y).take pre.length ++ [(cs y).getD pre.length 0] := take_one hn
  have hb : ((cs y).take pre.length).length < 99 := by rw [List.length_take, cs_len]; omega
  have hs := so_step (a := (cs x).take i) (x := c) (y := (cs y).getD pre.length 0) hb
  rw [← ex, ← ey] at hs
  rw [hf, e1, e2, line_get (by omega), line_get (by omega), hs, hp, cast_min3]
theorem pay_sc {x : Nat} {y : Str} {pre : List Int} {k : Int} (hk : k = 0 + (pre.length : Int)) (h1 : pre.length < ((y.length : Int) - 0).toNat) : scS ⟨#[x]⟩ (Txt.item y k) = (sc x ((cs y).getD pre.length 0) : Int) := by
  have e1 : k.toNat = pre.length := by omega
  rw [item_cs (by omega) (by omega), e1, scS_one]
theorem pay0 {c : Nat} {y : Str} {pre : List Int} {k : Int} (hk : k = 0 + (pre.length : Int)) (h1 : pre.length < ((y.length : Int) - 0).toNat) (h : ((⟨#[c]⟩ : Str) == Txt.item y k) = true) : (0 : Int) = 100 * (sc c ((cs y).getD pre.length 0) : Int) := by
  rw [← pay_sc hk h1, ← scS0 h]; rfl
theorem pay1 {c : Nat} {y : Str} {pre : List Int} {k : Int} (hk : k = 0 + (pre.length : Int)) (h1 : pre.length < ((y.length : Int) - 0).toNat) (h : ((⟨#[c]⟩ : Str) == Txt.item y k) = false) (h2 : (Txt.lower ⟨#[c]⟩ == Txt.lower (Txt.item y k)) = true) : (100 : Int) = 100 * (sc c ((cs y).getD pre.length 0) : Int) := by
  rw [← pay_sc hk h1, ← scS1 h h2]; rfl
theorem pay2 {c : Nat} {y : Str} {pre : List Int} {k : Int} (hk : k = 0 + (pre.length : Int)) (h1 : pre.length < ((y.length : Int) - 0).toNat) (h : ((⟨#[c]⟩ : Str) == Txt.item y k) = false) (h2 : (Txt.lower ⟨#[c]⟩ == Txt.lower (Txt.item y k)) = false) : (200 : Int) = 100 * (sc c ((cs y).getD pre.length 0) : Int) := by
  rw [← pay_sc hk h1, ← scS2 h h2]; rfl
theorem fre_end {x y : Str} {i : Nat} {fresh : List Int} (hJ : FreJ x y i (rangeKs 0 ((y.length : Int) - 0).toNat).length fresh) : fresh = lineOf ((cs x).take (i + 1)) (cs y) := by
  unfold FreJ at hJ
  rw [hJ, List.take_of_length_le]
  rw [line_len, rangeKs_length, cs_len]; omega
theorem row_end {g h : Heap} {L R l' : Nat} {s : Shared} {tk : Nat} {x y : Str} {ty : CbTok} {i n n' : Nat} {m : Str → Option Value} {news own : CbLed} {vs us : List Value} {m' : Str → Option Value}
    (F : Fr g L h m) (N : News g L h ((l', listOf us.toArray n') :: (R, listOf vs.toArray n) :: (news ++ own))) (hlt : AllLt l' (news ++ own)) (hoff : TbOff own ((R, listOf vs.toArray n) :: news)) (ln : ∀ q ∈ news, q.1 < R) (hI : IntsAre us (lineOf ((cs x).take (i + 1)) (cs y)))
    (hm : m = frow (.ref l') y ty m') : TbEnd g L (RowJ x y ty news (i + 1)) own s { s with heap := h, toks := tk } := by
  refine ⟨h, tk, m, _, (l', listOf us.toArray n') :: news, rfl, F, N, fun q hq => ?_, fun q hq => .tail _ (.tail _ (List.mem_append_right _ hq)), fun p hp q hq => ?_, l', us, n', m', hI, fun q hq => kst_ltOf hlt q (List.mem_append_left _ hq), rfl, hm⟩
  · rcases List.mem_cons.mp hq with rfl | hq
    · exact .head _
    · exact .tail _ (.tail _ (List.mem_append_left _ hq))
  · rcases List.mem_cons.mp hq with rfl | hq
    · exact Nat.ne_of_lt (kst_ltOf hlt p (List.mem_append_right _ hp))
    · exact hoff p hp q (.tail _ hq)
section
noncomputable def Hold (P : Prop) : Prop := P
theorem hold_of {P : Prop} (h : Hold P) : P := h
theorem rows_L2row2_15 : True := by
  k_with "exec For Name Name cons nil" => (k_here; refine hold_of ?_)
  k_with "pyIter str" => (k_here; refine hold_of ?_)
  k_with "subscriptTail Name Name ref int" => (k_here; (with_reducible show wpAny _ _ (subscriptTail _ _ (Value.ref _) (Value.int _ _)) _ _ _); (with_unfolding_all refine' item_int ?h1 ?h2 ?h3 ?h4 ?h5 ?h6 ?_); (case h1 => first | k_asm | with_unfolding_all assumption); (case h2 => with_unfolding_all (first | exact .head _ | exact .tail _ (.head _) | exact .tail _ (.tail _ (.head _)))); (case h3 => assumption); (case h4 => omega); (case h5 => first | omega | (rw [line_len, cs_len]; omega)); (case h6 => first | omega | (rw [line_len, cs_len]; omega)); intro tqRow)
  k_with "subscriptTail Name BinOp ref int" => (k_here; (with_reducible show wpAny _ _ (subscriptTail _ _ (Value.ref _) (Value.int _ _)) _ _ _); (with_unfolding_all refine' item_int ?h1 ?h2 ?h3 ?h4 ?h5 ?h6 ?_); (case h1 => first | k_asm | with_unfolding_all assumption); (case h2 => with_unfolding_all (first | exact .head _ | exact .tail _ (.head _) | exact .tail _ (.tail _ (.head _)))); (case h3 => assumption); (case h4 => omega); (case h5 => first | omega | (rw [line_len, cs_len]; omega)); (case h6 => first | omega | (rw [line_len, cs_len]; omega)); intro tqRow)
  k_with "subscriptTail Name Constant ref int" => (k_here; (with_reducible show wpAny _ _ (subscriptTail _ _ (Value.ref _) (Value.int _ _)) _ _ _); (with_unfolding_all refine' item_int ?h1 ?h2 ?h3 ?h4 ?h5 ?h6 ?_); (case h1 => first | k_asm | with_unfolding_all assumption); (case h2 => with_unfolding_all (first | exact .head _ | exact .tail _ (.head _) | exact .tail _ (.tail _ (.head _)))); (case h3 => assumption); (case h4 => omega); (case h5 => first | omega | (rw [line_len, cs_len]; omega)); (case h6 => first | omega | (rw [line_len, cs_len]; omega)); intro tqRow)
  k_with "call builtin:min" => (k_here; (with_reducible show wpAny _ _ (call (Value.builtin _) [Value.int _ _, Value.int _ _, Value.int _ _]) _ _ _); (rename Fr _ _ _ _ => lF9Row); (rename News _ _ _ _ => lN9Row); (with_unfolding_all refine' min_three_N ?h1 lF9Row lN9Row ?_); (case h1 => with_unfolding_all rfl); clear lF9Row lN9Row; intro hqRow tkqRow tqRow FqRow NqRow)
  trivial
theorem row_walk (w : World) (news : CbLed) (loose : List Str) (mean : ExcName → Option Value) (mg mb : Str → Option Value) (p : Program) (x y : Str) (tx ty : CbTok) (hx : x.length ≤ 3) (hy : y.length ≤ 40) (kMark : KstMark)
  (dp un : Nat) (gd : Option (List Code)) (cn : Str) (sc : Scope) (a' : CbAddr) (ccd : CbVal) (cl : List (Str × CbAddr)) (outer : List Env) (A₀ : Around) (base h₀ : Heap) (L : CbAddr) (mm : Str → Option Value) (s : Shared)
  (Q E : Value → Shared → Prop)
  (B : Below A₀ base outer h₀) (F : Fr h₀ L s.heap mm) (X : (Mine.hd.heap_39 w.params).In h₀) (N : News h₀ L s.heap news) (T : Top p loose mean mg mb h₀) (hk : sc.kind = .function) (hdp : dp + 200 < recursionLimit) (hun : un + 1000 < cLine)
  (hret : ∀ (R : Nat) vs c h' tk', IntsAre vs (lineOf (cs x) (cs y)) → (∀ q ∈ news, q.1 < R) → Fr h₀ L h' mm → News h₀ L h' ((R, listOf vs.toArray c) :: news) → Q (.ref R) { s with heap := h', toks := tk' }) :
  wpAny (model PySem.Challenge.rw_rw0047_02.prog w) (ktrTop dp un gd cn sc L a' ccd cl outer) (call (.ref 140) [Value.str x tx, Value.str y ty]) Q E s := by
  revert X; k_fill; intro X
  refine wpAny_call ?_
  k_dflt cell_enter
  k_steps
  rename Fr _ _ _ _ => F1
  rename News _ _ _ _ => N1
  rename IntsAre _ _ => I1
  rename (∀ p ∈ news, p.1 < _) => ln
  show wpAny _ _ _ _ _ _
  with_unfolding_all refine' For_invVF F1 ?k1 ?k2 ?_
  case k1 => exact rfl
  case k2 => exact rfl
  k_steps
  show wpAny _ _ _ _ _ _
  refine tbt_inv (RowJ x y ty news) rfl F1 N1 ?_ ?_ ?_
  · exact ⟨_, _, _, _, row_start hy I1, ln, rfl, frow_pack2 (by with_unfolding_all rfl) (by with_unfolding_all rfl)⟩
  · clear F1 N1 I1 ln
    rintro i c t m₁ nx h tk own hc hoff ⟨R, vs, cn', m', I1, ln, rfl, rfl⟩ F1 N1
    simp only [List.cons_append] at N1
    k_with "pyIter ref" => k_state (fun pre fresh => fresh.length = pre.length + 1 ∧ FreJ x y i pre.length fresh) "fresh"
    k_with "state" => first | exact fre_start (by assumption) | exact fre_turn (by assumption) hy (by assumption) (by assumption) (by assumption) (by assumption) (pay0 (by assumption) (by assumption) (by assumption)) | exact fre_turn (by assumption) hy (by assumption) (by assumption) (by assumption) (by assumption) (pay1 (by assumption) (by assumption) (by assumption) (by assumption)) | exact fre_turn (by assumption) hy (by assumption) (by assumption) (by assumption) (by assumption) (pay2 (by assumption) (by assumption) (by assumption) (by assumption))
    k_steps
    rename News _ _ _ _ => N4
    rename Fr _ _ _ _ => F4
    rename FreJ _ _ _ _ _ => hJ
    rename (R < _ ∧ AllLt _ _) => l4
    rename IntsAre _ _ => I4
    rw [fre_end hJ] at I4
    exact row_end F4 N4 l4.2 hoff ln I4 (frow_pack2 (by with_unfolding_all rfl) (by with_unfolding_all rfl))
  · rintro m₁ nx h tk ⟨R, vs, cn', m', I1, ln, rfl, rfl⟩ F1 N1
    k_steps
    rw [List.take_length] at I1
    exact hret R vs cn' _ _ I1 ln (by assumption) (by assumption)
end
end
section
theorem calm_L2pl2 : True ∧ True := by
  w_top off
  k_with_none
  first
    | (walk1; fail)
    | exact ⟨trivial, trivial⟩
/-- what parse257 tells of the reply's signs, as runs of marks say it -/
theorem nm_go : ∀ (l : List Nat) (m : Nat), nmGo l m = List.replicate (m / 2) 34 ++ p257go (if m % 2 = 1 then 34 :: l else l)
  | [], m => by
    by_cases h : m % 2 = 1
    · rw [if_pos h]; simp [nmGo, p257go]
    · rw [if_neg h]; simp [nmGo, p257go]
  | c :: r, m => by
    rw [nmGo]
    by_cases hc : c = 34
    · subst hc
      rw [if_pos rfl, nm_go r (m + 1)]
      by_cases h : m % 2 = 1
      · rw [if_pos h, if_neg (by omega), go_qq, show (m + 1) / 2 = m / 2 + 1 by omega, List.replicate_succ']
        simp
      · rw [if_neg h, if_pos (by omega), show (m + 1) / 2 = m / 2 by omega]
    · rw [if_neg hc]
      by_cases h : m % 2 = 1
      · rw [if_pos h, if_pos h, go_q r hc, List.append_nil]
      · rw [if_neg h, if_neg h, go_other hc, nm_go r 0]
        simp
theorem p257_name {y x : Str} (h : (cs y).drop 5 = cs x) : p257 y = nameS x := by
  unfold p257 nameS
  rw [h, nm_go]
  simp
theorem nm_first (l : List Nat) (m : Nat) : nmGo (l.take 0) m = List.replicate (m / 2) 34 := by rw [List.take_zero]; rfl
/-- a sign more of the reply: the name stays, or grows by a sign -/
theorem nm_grow : ∀ (l : List Nat) (m k : Nat), k < l.length → nmGo (l.take (k + 1)) m = nmGo (l.take k) m ∨ ∃ c, nmGo (l.take (k + 1)) m = nmGo (l.take k) m ++ [c]
  | [], m, k, h => absurd h (Nat.not_lt_zero _)
  | c :: r, m, 0, _ => by
    rw [nm_first]
    show nmGo (c :: r.take 0) m = _ ∨ ∃ d, nmGo (c :: r.take 0) m = _
    rw [nmGo]
    by_cases hc : c = 34
    · rw [if_pos hc, nm_first]
      by_cases h : m % 2 = 1
      · right
        rw [show (m + 1) / 2 = m / 2 + 1 by omega, List.replicate_succ']
        exact ⟨34, rfl⟩
      · left
        rw [show (m + 1) / 2 = m / 2 by omega]
    · rw [if_neg hc]
      by_cases h : m % 2 = 1
      · left; rw [if_pos h]
      · right; rw [if_neg h, nm_first]; exact ⟨c, rfl⟩
  | c :: r, m, k + 1, hk => by
    show nmGo (c :: r.take (k + 1)) m = nmGo (c :: r.take k) m ∨ ∃ d, nmGo (c :: r.take (k + 1)) m = nmGo (c :: r.take k) m ++ [d]
    rw [nmGo, nmGo]
    by_cases hc : c = 34
    · rw [if_pos hc, if_pos hc]
      exact nm_grow r (m + 1) k (by simpa using hk)
    · rw [if_neg hc, if_neg hc]
      by_cases h : m % 2 = 1
      · rw [if_pos h, if_pos h]; exact .inl rfl
      · rw [if_neg h, if_neg h]
        rcases nm_grow r 0 k (by simpa using hk) with e | ⟨d, e⟩
        · left; rw [e]
        · right; exact ⟨d, by rw [e]; simp⟩
/-- the name of the first k signs -/
noncomputable def nmAt (x : Str) (k : Nat) : List Nat := nmGo ((cs x).take k) 0
theorem nmAt_len (x : Str) : ∀ k, (nmAt x k).length ≤ k
  | 0 => by rw [nmAt, nm_first]; simp
  | k + 1 => by
    have ih := nmAt_len x k
    unfold nmAt at ih ⊢
    by_cases h : k < (cs x).length
    · rcases nm_grow (cs x) 0 k h with e | ⟨c, e⟩
      · rw [e]; omega
      · rw [e, List.length_append, List.length_singleton]; omega
    · rw [List.take_of_length_le (by omega)] at ih ⊢
      omega
/-- the costs sought so far, ahead of the turn k -/
noncomputable def foundAt (a : List Nat) (x : Str) : Nat → List Int
  | 0 => []
  | k + 1 => if (nmAt x k).length = (foundAt a x k).length then foundAt a x k ++ [soughtI a (nmAt x k)] else foundAt a x k
theorem found_len (a : List Nat) (x : Str) : ∀ k, k ≤ (cs x).length + 1 → (foundAt a x k).length = (if k = 0 then 0 else (nmAt x (k - 1)).length + 1) ∧ ∀ j, j < (foundAt a x k).length → (foundAt a x k).getD j 0 = soughtI a ((nmAt x (k - 1)).take j)
  | 0, _ => ⟨rfl, fun j hj => absurd hj (Nat.not_lt_zero _)⟩
  | 1, _ => by
    have e : foundAt a x 1 = [soughtI a (nmAt x 0)] := by
      rw [foundAt, if_pos]; rfl
      show (nmAt x 0).length = 0
      have := nmAt_len x 0
      omega
    rw [e]
    have z : (nmAt x 0) = [] := by have := nmAt_len x 0; exact List.length_eq_zero_iff.mp (by omega)
    refine ⟨by show 1 = (nmAt x 0).length + 1; rw [z]; rfl, fun j hj => ?_⟩
    have : j = 0 := by simpa using hj
    subst this
    show soughtI a (nmAt x 0) = soughtI a ((nmAt x 0).take 0)
    rw [z]; rfl
  | k + 2, hk => by
    obtain ⟨h1, h2⟩ := found_len a x (k + 1) (by omega)
    rw [if_neg (Nat.succ_ne_zero _)] at h1
    have h1 : (foundAt a x (k + 1)).length = (nmAt x k).length + 1 := h1
    have h2 : ∀ j, j < (foundAt a x (k + 1)).length → (foundAt a x (k + 1)).getD j 0 = soughtI a ((nmAt x k).take j) := h2
    rw [if_neg (Nat.succ_ne_zero _)]
    show (foundAt a x (k + 2)).length = (nmAt x (k + 1)).length + 1 ∧ ∀ j, j < (foundAt a x (k + 2)).length → (foundAt a x (k + 2)).getD j 0 = soughtI a ((nmAt x (k + 1)).take j)
    rw [foundAt]
    have hg : nmAt x (k + 1) = nmAt x k ∨ ∃ c, nmAt x (k + 1) = nmAt x k ++ [c] := nm_grow (cs x) 0 k (by omega)
    rcases hg with e | ⟨c, e⟩
    · rw [e, if_neg (by omega)]
      exact ⟨h1, h2⟩
    · have el : (nmAt x (k + 1)).length = (nmAt x k).length + 1 := by rw [e, List.length_append, List.length_singleton]
      rw [if_pos (by omega)]
      refine ⟨by rw [List.length_append, List.length_singleton]; omega, fun j hj => ?_⟩
      rw [List.length_append, List.length_singleton] at hj
      by_cases hj2 : j < (foundAt a x (k + 1)).length
      · have et : (nmAt x (k + 1)).take j = (nmAt x k).take j := by rw [e, List.take_append_of_le_length (by omega)]
        rw [et, ← h2 j hj2]
        simp only [List.getD_eq_getElem?_getD]
        rw [List.getElem?_append_left hj2]
      · have ej : j = (foundAt a x (k + 1)).length := by omega
        rw [getD_right (by omega), ej, Nat.sub_self]
        show soughtI a (nmAt x (k + 1)) = soughtI a ((nmAt x (k + 1)).take (foundAt a x (k + 1)).length)
        rw [List.take_of_length_le (by omega)]
theorem lineI (a b : List Nat) : lineOf a b = (List.range (b.length + 1)).map fun k => soughtI a (b.take k) := rfl
/-- at the end: the table's last line -/
theorem found_end (a : List Nat) (x : Str) : foundAt a x ((cs x).length + 1) = lineOf a (cs (nameS x)) := by
  obtain ⟨h1, h2⟩ := found_len a x ((cs x).length + 1) (Nat.le_refl _)
  have en : nmAt x (cs x).length = cs (nameS x) := by
    unfold nmAt nameS
    rw [List.take_length]
    simp [cs]
  rw [if_neg (Nat.succ_ne_zero _)] at h1
  have h1 : (foundAt a x ((cs x).length + 1)).length = (nmAt x (cs x).length).length + 1 := h1
  have h2 : ∀ j, j < (foundAt a x ((cs x).length + 1)).length → (foundAt a x ((cs x).length + 1)).getD j 0 = soughtI a ((nmAt x (cs x).length).take j) := h2
  rw [en] at h1 h2
  apply List.ext_getElem
  · rw [h1, line_len]
  · intro j hj1 hj2
    have e1 := h2 j hj1
    have e2 := line_get (a := a) (b := cs (nameS x)) (k := j) (by rw [h1] at hj1; exact hj1)
    rw [List.getD_eq_getElem?_getD, List.getElem?_eq_getElem hj1] at e1
    rw [List.getD_eq_getElem?_getD, List.getElem?_eq_getElem hj2] at e2
    have e1 : (foundAt a x ((cs x).length + 1))[j] = soughtI a ((cs (nameS x)).take j) := e1
    have e2 : (lineOf a (cs (nameS x)))[j] = (soughtN a ((cs (nameS x)).take j) : Int) := e2
    rw [e1, e2]; rfl
end
section
theorem calm_L2tok2 : True ∧ True := by
  w_top off
  k_with_none
  first
    | (walk1; fail)
    | exact ⟨trivial, trivial⟩
/-- the signs of a word -/
noncomputable def Alph2 (l : List Nat) : Prop := ∀ c ∈ l, c = 97 ∨ c = 65 ∨ c = 98 ∨ c = 34 ∨ c = 92 ∨ c = 32
theorem gw_alph (n k : Int) : Alph2 (cs (gw n k)) := by
  have h0 := Int.fmod_nonneg_of_pos (n.fdiv (4 * 6 ^ k.toNat)) (show (0 : Int) < 6 by decide)
  have h1 := Int.fmod_lt_of_pos (n.fdiv (4 * 6 ^ k.toNat)) (show (0 : Int) < 6 by decide)
  have hl : (Str.ofString "aAb\"\\ ").length = 6 := by decide +kernel
  have hc : cs (Str.ofString "aAb\"\\ ") = [97, 65, 98, 34, 92, 32] := by decide +kernel
  unfold gw
  rw [item_cs h0 (by rw [hl]; exact h1), hc]
  have h2 : ((n.fdiv (4 * 6 ^ k.toNat)).fmod 6).toNat < 6 := by omega
  generalize ((n.fdiv (4 * 6 ^ k.toNat)).fmod 6).toNat = j at h2
  intro c hc
  have hc : c ∈ [([97, 65, 98, 34, 92, 32] : List Nat).getD j 0] := hc
  rw [List.mem_singleton.mp hc]
  match j, h2 with
  | 0, _ => decide
  | 1, _ => decide
  | 2, _ => decide
  | 3, _ => decide
  | 4, _ => decide
  | 5, _ => decide
theorem wordT_alph (n : Int) : Alph2 (cs (wordT n)) := by
  unfold wordT
  rw [cs_joinE]
  intro c hc
  obtain ⟨x, hx, hc⟩ := List.mem_flatMap.mp hc
  obtain ⟨k, _, rfl⟩ := List.mem_map.mp hx
  exact gw_alph n k c hc
theorem cs_escC (c : Nat) : cs (escC c) = if c = 34 ∨ c = 92 then [92, c] else [c] := by unfold escC; split <;> rfl
theorem cs_wrC (m : Int) (c : Nat) : cs (wrC m c) = if m = 2 ∨ c = 34 ∨ c = 92 ∨ c = 32 then [92, c] else [c] := by unfold wrC; split <;> rfl
theorem gt2_esc2 (r : List Nat) : ∀ (l tok : List Nat), gt2 (l.flatMap (fun c => cs (escC c)) ++ 34 :: r) tok = (tok ++ l, r)
  | [], tok => by rw [List.flatMap_nil, List.nil_append, gt2_q, List.append_nil]
  | c :: l, tok => by
    rw [List.flatMap_cons, List.append_assoc, cs_escC]
    have ih := gt2_esc2 r l (tok ++ [c])
    by_cases h : c = 34 ∨ c = 92
    · rw [if_pos h]
      show gt2 (92 :: (c :: _)) tok = _
      rw [gt2_b]
      show gt2 (l.flatMap (fun c => cs (escC c)) ++ 34 :: r) (tok ++ [c]) = _
      rw [ih]; simp
    · rw [if_neg h]
      have h1 : c ≠ 34 := fun e => h (.inl e)
      have h2 : c ≠ 92 := fun e => h (.inr e)
      show gt2 (c :: _) tok = _
      rw [gt2_o h1 h2]
      show gt2 (l.flatMap (fun c => cs (escC c)) ++ 34 :: r) (tok ++ [c]) = _
      rw [ih]; simp
theorem alph_ws {c : Nat} (h : c = 97 ∨ c = 65 ∨ c = 98 ∨ c = 34 ∨ c = 92 ∨ c = 32) (h2 : c ≠ 32) : isWs c = false := by
  rcases h with rfl | rfl | rfl | rfl | rfl | rfl <;> first | rfl | exact absurd rfl h2
theorem gt3_wr (m : Int) (r : List Nat) : ∀ (l tok : List Nat), Alph2 l → gt3 (l.flatMap (fun c => cs (wrC m c)) ++ 10 :: r) tok = (tok ++ l, r)
  | [], tok, _ => by rw [List.flatMap_nil, List.nil_append, gt3_ws rfl, List.append_nil]
  | c :: l, tok, ha => by
    rw [List.flatMap_cons, List.append_assoc, cs_wrC]
    have ih := gt3_wr m r l (tok ++ [c]) (fun d hd => ha d (.tail _ hd))
    have hc := ha c (.head _)
    by_cases h : m = 2 ∨ c = 34 ∨ c = 92 ∨ c = 32
    · rw [if_pos h]
      show gt3 (92 :: (c :: _)) tok = _
      rw [gt3_b]
      show gt3 (l.flatMap (fun c => cs (wrC m c)) ++ 10 :: r) (tok ++ [c]) = _
      rw [ih]; simp
    · rw [if_neg h]
      have h2 : c ≠ 92 := fun e => h (.inr (.inr (.inl e)))
      have h3 : c ≠ 32 := fun e => h (.inr (.inr (.inr e)))
      show gt3 (c :: _) tok = _
      rw [gt3_o (alph_ws hc h3) h2]
      show gt3 (l.flatMap (fun c => cs (wrC m c)) ++ 10 :: r) (tok ++ [c]) = _
      rw [ih]; simp
theorem gtT_cons {c : Nat} {r : List Nat} : gtT (c :: r) = if isWs c then gtT r else if c = 34 then gt2 r [] else if c = 92 then gt3 r.tail (cs (rdc r)) else gt3 r [c] := by rw [gtT]
theorem gtT_nl (r : List Nat) : gtT (10 :: r) = gtT r := by rw [gtT_cons]; rfl
theorem gtT_wr (m : Int) (r : List Nat) {c : Nat} {l : List Nat} (ha : Alph2 (c :: l)) : gtT ((c :: l).flatMap (fun c => cs (wrC m c)) ++ 10 :: r) = (c :: l, r) := by
  have ih := gt3_wr m r l [c] (fun d hd => ha d (.tail _ hd))
  have hc := ha c (.head _)
  rw [List.flatMap_cons, List.append_assoc, cs_wrC]
  by_cases h : m = 2 ∨ c = 34 ∨ c = 92 ∨ c = 32
  · rw [if_pos h]
    show gtT (92 :: (c :: _)) = _
    rw [gtT_cons, if_neg (by decide), if_neg (by decide), if_pos rfl]
    show gt3 (l.flatMap (fun c => cs (wrC m c)) ++ 10 :: r) [c] = _
    rw [ih]; rfl
  · rw [if_neg h]
    have h1 : c ≠ 34 := fun e => h (.inr (.inl e))
    have h2 : c ≠ 92 := fun e => h (.inr (.inr (.inl e)))
    have h3 : c ≠ 32 := fun e => h (.inr (.inr (.inr e)))
    show gtT (c :: _) = _
    rw [gtT_cons, alph_ws hc h3, if_neg (by decide), if_neg h1, if_neg h2]
    show gt3 (l.flatMap (fun c => cs (wrC m c)) ++ 10 :: r) [c] = _
    rw [ih]; rfl
theorem cs_escS (x : Str) : cs (escS x) = (cs x).flatMap fun c => cs (escC c) := by simp [escS, cs]
theorem cs_wrS (m : Int) (x : Str) : cs (wrS m x) = (cs x).flatMap fun c => cs (wrC m c) := by simp [wrS, cs]
theorem cs_q : cs (Str.ofString "\"") = [34] := by decide +kernel
theorem writ_cs (n : Int) : (cs (writT n) = 34 :: ((cs (wordT n)).flatMap (fun c => cs (escC c)) ++ [34])) ∨ (cs (wordT n) ≠ [] ∧ ∃ m, cs (writT n) = (cs (wordT n)).flatMap fun c => cs (wrC m c)) := by
  unfold writT
  by_cases h : (wordT n == Str.ofString "") = true ∨ (n.fdiv 864).fmod 3 = 0
  · left
    rw [if_pos h, cs_append, cs_append, cs_q, cs_escS]; simp
  · right
    rw [if_neg h]
    refine ⟨fun e => h (.inl ?_), _, cs_wrS _ _⟩
    rw [beq_iff_eq]
    apply str_ext
    rw [e]
    decide +kernel
theorem tok_writ (n : Int) (r : List Nat) : ∃ r', (r' = r ∨ r' = 10 :: r) ∧ gtT (cs (writT n) ++ 10 :: r) = (cs (wordT n), r') := by
  rcases writ_cs n with h | ⟨h0, m, h⟩
  · refine ⟨10 :: r, .inr rfl, ?_⟩
    rw [h, List.cons_append, gtT_cons, if_neg (by decide), if_pos rfl, List.append_assoc]
    show gt2 ((cs (wordT n)).flatMap (fun c => cs (escC c)) ++ 34 :: (10 :: r)) [] = _
    rw [gt2_esc2]; rfl
  · refine ⟨r, .inl rfl, ?_⟩
    rw [h]
    have ha := wordT_alph n
    cases hw : cs (wordT n) with
    | nil => exact absurd hw h0
    | cons c l => rw [hw] at ha; exact gtT_wr m r ha
theorem cnt_app (a b : List Nat) : cnt (a ++ b) = cnt a + cnt b := by unfold cnt; rw [List.count_append]; omega
theorem alph_10 {l : List Nat} (h : Alph2 l) : 10 ∉ l := by
  intro hm
  rcases h 10 hm with e | e | e | e | e | e <;> cases e
theorem cnt_none {l : List Nat} (h : 10 ∉ l) : cnt l = 0 := by unfold cnt; rw [List.count_eq_zero_of_not_mem h]; rfl
theorem writ_none (n : Int) : 10 ∉ cs (writT n) := by
  have ha := alph_10 (wordT_alph n)
  rcases writ_cs n with h | ⟨_, m, h⟩
  · rw [h]
    intro hm
    rcases List.mem_cons.mp hm with e | hm
    · cases e
    rcases List.mem_append.mp hm with hm | hm
    · obtain ⟨c, hc, hm⟩ := List.mem_flatMap.mp hm
      rw [cs_escC] at hm
      split at hm
      · rcases List.mem_cons.mp hm with e | hm
        · cases e
        · exact ha (List.mem_singleton.mp hm ▸ hc)
      · exact ha (List.mem_singleton.mp hm ▸ hc)
    · cases List.mem_singleton.mp hm
  · rw [h]
    intro hm
    obtain ⟨c, hc, hm⟩ := List.mem_flatMap.mp hm
    rw [cs_wrC] at hm
    split at hm
    · rcases List.mem_cons.mp hm with e | hm
      · cases e
      · exact ha (List.mem_singleton.mp hm ▸ hc)
    · exact ha (List.mem_singleton.mp hm ▸ hc)
/-- the tokens of the written words, and the ends of lines -/
theorem toks {n1 n2 : Int} {x : List Nat} (hx : x = cs (writT n1) ++ 10 :: (cs (writT n2) ++ 10 :: [])) :
    ∃ r1 r2, gtT x = (cs (wordT n1), r1) ∧ gtT r1 = (cs (wordT n2), r2) ∧ gtT r2 = ([], []) ∧ cnt x = 2 ∧ r1.length ≤ x.length ∧ r2.length ≤ 1 := by
  obtain ⟨r1, h1, e1⟩ := tok_writ n1 (cs (writT n2) ++ 10 :: [])
  obtain ⟨r2, h2, e2⟩ := tok_writ n2 []
  have c1 := cnt_none (writ_none n1)
  have c2 := cnt_none (writ_none n2)
  refine ⟨r1, r2, by rw [hx]; exact e1, ?_, ?_, ?_, ?_, ?_⟩
  · rcases h1 with rfl | rfl
    · exact e2
    · rw [gtT_nl]; exact e2
  · rcases h2 with rfl | rfl
    · rfl
    · rw [gtT_nl]; rfl
  · rw [hx, cnt_app, cnt_cons, cnt_app, cnt_cons, c1, c2]; rfl
  · rw [hx]
    rcases h1 with rfl | rfl <;> simp <;> omega
  · rcases h2 with rfl | rfl <;> simp
end
section
theorem calm_L2loop2 : True ∧ True := by
  w_top off
  k_with_none
  first
    | (walk1; fail)
    | exact ⟨trivial, trivial⟩
section
theorem mem_sw {α : Type} {q : α} {l m o : List α} (h : q ∈ l ++ (m ++ o)) : q ∈ m ++ (l ++ o) := by
  rcases List.mem_append.mp h with h | h
  · exact List.mem_append_right _ (List.mem_append_left _ h)
  · rcases List.mem_append.mp h with h | h
    · exact List.mem_append_left _ h
    · exact List.mem_append_right _ (List.mem_append_right _ h)
/-- five entries ahead of the lexer's -/
theorem mem_5 {α : Type} {a b c d e q : α} {l o : List α} (h : q ∈ l ++ a :: b :: c :: d :: e :: o) : q ∈ a :: b :: c :: d :: e :: (l ++ o) := mem_sw (m := [a, b, c, d, e]) h
theorem mem_5' {α : Type} {a b c d e q : α} {l o : List α} (h : q ∈ a :: b :: c :: d :: e :: (l ++ o)) : q ∈ l ++ a :: b :: c :: d :: e :: o := mem_sw (l := [a, b, c, d, e]) h
theorem gt5 (w : World) (news : CbLed) (loose : List Str) (mean : ExcName → Option Value) (mg mb : Str → Option Value) (p : Program) (z : Lx) (us : List Value) (l l' : List Nat) (wx : Str) (nn : Nat) (ln : Int) (tl np : Nat) (own : CbLed) (A1 A2 A3 A4 A5 : Nat) (q1 q2 q3 q4 q5 : Obj) (hz : ∀ a b c d e : Obj, z.Ok ((A1, a) :: (A2, b) :: (A3, c) :: (A4, d) :: (A5, e) :: own)) (hs : SigAre us l) (hlen : l.length ≤ 900) (hw : gtT l = (cs wx, l'))
  (hN : news = (A1, q1) :: (A2, q2) :: (A3, q3) :: (A4, q4) :: (A5, q5) :: (z.led w us nn ln tl [] np ++ own)) (kMark : KstMark)
  (dp un : Nat) (gd : Option (List Code)) (cn : Str) (sc : Scope) (a' : CbAddr) (ccd : CbVal) (cl : List (Str × CbAddr)) (outer : List Env) (A₀ : Around) (base h₀ : Heap) (L : CbAddr) (mm : Str → Option Value) (s : Shared)
  (Q E : Value → Shared → Prop)
  (B : Below A₀ base outer h₀) (F : Fr h₀ L s.heap mm) (X : (Mine.hd.heap_39 w.params).In h₀) (N : News h₀ L s.heap news) (T : Top p loose mean mg mb h₀) (hk : sc.kind = .function) (hdp : dp + 200 < recursionLimit) (hun : un + 1000 < cLine)
  (hret : ∀ t h' tk' us' n' ln' tl', SigAre us' l' → ln' + cnt l' = ln + cnt l → Fr h₀ L h' mm → News h₀ L h' ((A1, q1) :: (A2, q2) :: (A3, q3) :: (A4, q4) :: (A5, q5) :: (z.led w us' n' ln' tl' [] np ++ own)) → Q (.str wx t) { s with heap := h', toks := tk' }) (codeHd : CodeHd base 108 104) :
  wpAny (model PySem.Challenge.rw_rw0047_02.prog w) (ktrTop dp un gd cn sc L a' ccd cl outer) (call (.ref 88) [.ref z.x]) Q E s := by
  subst hN
  refine gt_walk w (z.led w us nn ln tl [] np ++ (A1, q1) :: (A2, q2) :: (A3, q3) :: (A4, q4) :: (A5, q5) :: own) loose mean mg mb p z us l nn ln tl np _ (hz q1 q2 q3 q4 q5) hs hlen rfl kMark dp un gd cn sc a' ccd cl outer A₀ base h₀ L mm s Q E B F X (fun q hq => N q (mem_5 hq)) T hk hdp hun (fun v t h' tk' us' n' ln' tl' e1 e2 e3 F' N' => ?_) codeHd
  rw [hw] at e1 e2 e3
  have e := str_ext e1
  subst e
  exact hret t h' tk' us' n' ln' tl' e2 e3 F' fun q hq => N' q (mem_5' hq)
theorem pop5 (w : World) (news : CbLed) (loose : List Str) (mean : ExcName → Option Value) (mg mb : Str → Option Value) (p : Program) (z : Lx) (us : List Value) (nn : Nat) (ln : Int) (tl np : Nat) (y : Value) (pbs : List Value) (own : CbLed) (A1 A2 A3 A4 A5 : Nat) (q1 q2 q3 q4 q5 : Obj) (hz : ∀ a b c d e : Obj, z.Ok ((A1, a) :: (A2, b) :: (A3, c) :: (A4, d) :: (A5, e) :: own)) (hlen : pbs.length ≤ 900)
  (hN : news = (A1, q1) :: (A2, q2) :: (A3, q3) :: (A4, q4) :: (A5, q5) :: (z.led w us nn ln tl (y :: pbs) np ++ own)) (kMark : KstMark)
  (dp un : Nat) (gd : Option (List Code)) (cn : Str) (sc : Scope) (a' : CbAddr) (ccd : CbVal) (cl : List (Str × CbAddr)) (outer : List Env) (A₀ : Around) (base h₀ : Heap) (L : CbAddr) (mm : Str → Option Value) (s : Shared)
  (Q E : Value → Shared → Prop)
  (B : Below A₀ base outer h₀) (F : Fr h₀ L s.heap mm) (X : (Mine.hd.heap_39 w.params).In h₀) (N : News h₀ L s.heap news) (T : Top p loose mean mg mb h₀) (hk : sc.kind = .function) (hdp : dp + 200 < recursionLimit) (hun : un + 1000 < cLine)
  (hret : ∀ h' tk', Fr h₀ L h' mm → News h₀ L h' ((A1, q1) :: (A2, q2) :: (A3, q3) :: (A4, q4) :: (A5, q5) :: (z.led w us nn ln tl pbs (np + 1) ++ own)) → Q y { s with heap := h', toks := tk' }) (codeHd : CodeHd base 108 104) :
  wpAny (model PySem.Challenge.rw_rw0047_02.prog w) (ktrTop dp un gd cn sc L a' ccd cl outer) (call (.ref 88) [.ref z.x]) Q E s := by
  subst hN
  refine gt_pop w (z.led w us nn ln tl (y :: pbs) np ++ (A1, q1) :: (A2, q2) :: (A3, q3) :: (A4, q4) :: (A5, q5) :: own) loose mean mg mb p z us nn ln tl np y pbs _ (hz q1 q2 q3 q4 q5) hlen rfl kMark dp un gd cn sc a' ccd cl outer A₀ base h₀ L mm s Q E B F X (fun q hq => N q (mem_5 hq)) T hk hdp hun (fun h' tk' F' N' => ?_) codeHd
  exact hret h' tk' F' fun q hq => N' q (mem_5' hq)
end
theorem cs_257 : cs (Str.ofString "257 \"") = [50, 53, 55, 32, 34] := by decide +kernel
theorem len_257 : (Str.ofString "257 \"").length = 5 := by decide +kernel
theorem p257_n (w : World) (news : CbLed) (loose : List Str) (mean : ExcName → Option Value) (mg mb : Str → Option Value) (p : Program) (x : Str) (ta : CbTok) (hlen : x.length ≤ 100)
  (dp un : Nat) (gd : Option (List Code)) (cn : Str) (sc : Scope) (a' : CbAddr) (ccd : CbVal) (cl : List (Str × CbAddr)) (outer : List Env) (A₀ : Around) (base h₀ : Heap) (L : CbAddr) (mm : Str → Option Value) (s : Shared)
  (Q E : Value → Shared → Prop)
  (B : Below A₀ base outer h₀) (F : Fr h₀ L s.heap mm) (X : (Mine.hd.heap_39 w.params).In h₀) (N : News h₀ L s.heap news) (T : Top p loose mean mg mb h₀) (hk : sc.kind = .function) (hdp : dp + 150 < recursionLimit) (hun : un + 800 < cLine)
  (hret : ∀ t h' tk', Fr h₀ L h' mm → News h₀ L h' news → Q (.str (nameS x) t) { s with heap := h', toks := tk' }) :
  wpAny (model PySem.Challenge.rw_rw0047_02.prog w) (ktrTop dp un gd cn sc L a' ccd cl outer) (call (.ref 60) [Value.str (Str.ofString "257 \"" ++ x) ta]) Q E s := by
  refine p257_walk _ _ _ _ _ _ _ _ ta (by rw [Str.length_append, len_257]; omega) (by rw [cs_append, cs_257]; rfl) dp un gd cn sc a' ccd cl outer A₀ base h₀ L mm s Q E B F X N T hk hdp hun fun t h' tk' F' N' => ?_
  rw [p257_name (x := x) (by rw [cs_append, cs_257]; rfl)]
  exact hret t h' tk' F' N'
theorem nameS_len (x : Str) : (nameS x).length ≤ x.length := by
  have h := nmAt_len x x.length
  unfold nmAt at h
  rw [List.take_of_length_le (by rw [cs_len]; exact Nat.le_refl _)] at h
  rw [← cs_len]
  have e : cs (nameS x) = nmGo (cs x) 0 := by simp [nameS, cs]
  rw [e]; exact h
end
section
theorem calm_L2eqt2 : True ∧ True := by
  w_top off
  k_with_none
  first
    | (walk1; fail)
    | exact ⟨trivial, trivial⟩
theorem carried_strs : ∀ {vs : List Value} {xs : List Str}, StrsAre vs xs → CarriedAll vs (xs.map PyData.str)
  | _, _, .nil => .nil
  | _, _, .cons _ t r => .cons (.str _ t) (carried_strs r)
theorem canLay_strs : ∀ xs : List Str, (∀ x ∈ xs, PyData.strOk x = true) → PyData.canLayAll0 (xs.map PyData.str) = true
  | [], _ => rfl
  | x :: r, h => by simp [PyData.canLayAll0, PyData.canLay0, canLay_strs r fun y hy => h y (.tail _ hy), h x (.head _)]
theorem depth_strs : ∀ xs : List Str, PyData.depthAll (xs.map PyData.str) = 0
  | [] => rfl
  | _ :: r => by simp [PyData.depthAll, PyData.depth, depth_strs r]
theorem shaped_strs (xs : List Str) (h : ∀ x ∈ xs, PyData.strOk x = true) : SeqAt.shaped (.list (xs.map PyData.str)) = true := by
  simp [SeqAt.shaped, PyData.canLay0, PyData.depth, canLay_strs xs h, depth_strs]
theorem eqv_strs : ∀ xs : List Str, PyData.eqvAll (xs.map PyData.str) (xs.map PyData.str) = true
  | [] => by simp [PyData.eqvAll]
  | x :: r => by simp [PyData.eqvAll, PyData.eqv, eqv_strs r]
theorem eqv_intss : ∀ ns : List Int, PyData.eqvAll (ns.map PyData.int) (ns.map PyData.int) = true := fun ns => by rw [ked_eqvAll]; simp
section
variable {prog : Program} {w : World} {A : Around} {E : Value → Shared → Prop} {s : Shared} {a b : Addr} {us vs : List Value} {n k : Nat} {h₀ : Heap} {L : Addr} {news : List (Addr × Obj)} {xs : List Str} {Q : Value → Shared → Prop}
/-- two lists of the same texts -/
theorem ne_txts (N : News h₀ L s.heap news) (ma : (a, listOf us.toArray n) ∈ news) (mb : (b, listOf vs.toArray k) ∈ news) (hi : StrsAre us xs) (hj : StrsAre vs xs) (hx : ∀ x ∈ xs, PyData.strOk x = true) (hu : A.units + 64 < cLine) (h : Q (.bool false) s) :
    wpAny (model prog w) A (compareOp .NotEq (.ref a) (.ref b)) Q E s := by
  have ha : s.heap.IsList a us.toArray := ⟨_, (N _ ma).1, rfl, n, rfl⟩
  have hb : s.heap.IsList b vs.toArray := ⟨_, (N _ mb).1, rfl, k, rfl⟩
  refine ne_dataH (reads_newData ha (carried_strs hi)) (reads_newData hb (carried_strs hj)) (shaped_strs _ hx) (shaped_strs _ hx) hu ?_
  have e : PyData.eqv (.list (xs.map PyData.str)) (.list (xs.map PyData.str)) = true := by rw [PyData.eqv]; exact eqv_strs xs
  rw [e]; exact h
/-- two pairs of the same lists of ints -/
theorem eq_rows {a0 a1 b0 b1 : Addr} {u0 u1 v0 v1 : List Value} {i0 i1 j0 j1 n' k' : Nat} {ns ms : List Int} (N : News h₀ L s.heap news) (ma : (a, listOf #[.ref a0, .ref a1] n) ∈ news) (mb : (b, listOf #[.ref b0, .ref b1] k) ∈ news)
    (m0 : (a0, listOf u0.toArray i0) ∈ news) (m1 : (a1, listOf u1.toArray i1) ∈ news) (k0 : (b0, listOf v0.toArray j0) ∈ news) (k1 : (b1, listOf v1.toArray j1) ∈ news) (h0 : IntsAre u0 ns) (h1 : IntsAre u1 ms) (g0 : IntsAre v0 ns) (g1 : IntsAre v1 ms)
    (hu : A.units + 64 < cLine) (h : Q (.bool true) s) : wpAny (model prog w) A (compareOp .Eq (.ref a) (.ref b)) Q E s := by
  have r0 := reads_newData (h := s.heap) ⟨_, (N _ m0).1, rfl, i0, rfl⟩ (ke_carried h0)
  have r1 := reads_newData (h := s.heap) ⟨_, (N _ m1).1, rfl, i1, rfl⟩ (ke_carried h1)
  have q0 := reads_newData (h := s.heap) ⟨_, (N _ k0).1, rfl, j0, rfl⟩ (ke_carried g0)
  have q1 := reads_newData (h := s.heap) ⟨_, (N _ k1).1, rfl, j1, rfl⟩ (ke_carried g1)
  refine eq_dataH (reads_list_at (N.get ma) rfl rfl (.cons r0 (.cons r1 .nil))) (reads_list_at (N.get mb) rfl rfl (.cons q0 (.cons q1 .nil))) ?_ ?_ hu ?_
  · simp [SeqAt.shaped, PyData.canLay0, PyData.canLayAll0, PyData.depth, PyData.depthAll, ke_canLayAll0, ke_depthAll]
  · simp [SeqAt.shaped, PyData.canLay0, PyData.canLayAll0, PyData.depth, PyData.depthAll, ke_canLayAll0, ke_depthAll]
  · have e : PyData.eqv (.list [.list (ns.map PyData.int), .list (ms.map PyData.int)]) (.list [.list (ns.map PyData.int), .list (ms.map PyData.int)]) = true := by
      simp [PyData.eqv, PyData.eqvAll, eqv_intss]
    rw [e]; exact h
end
end
section
theorem calm_L2turn2 : True ∧ True := by
  w_top off
  k_with_none
  first
    | (walk1; fail)
    | exact ⟨trivial, trivial⟩
theorem rows_L2turn2_ne : True := by
  k_with "ne" => (refine neN ?_; (try dsimp only); first | (exact Nat.ne_of_gt (And.left (by assumption))) | (exact Nat.ne_of_gt (And.left (And.right (by assumption)))) | (exact Nat.ne_of_gt (And.right (by assumption))) | (exact Nat.ne_of_gt (And.left (And.right (And.right (by assumption))))) | (exact Nat.ne_of_gt (And.right (And.right (by assumption)))) | (exact Nat.ne_of_gt (And.left (And.right (And.right (And.right (by assumption)))))) | (exact Nat.ne_of_gt (And.right (And.right (And.right (by assumption))))) | (exact Nat.ne_of_gt (And.left (And.right (And.right (And.right (And.right (by assumption))))))) | (exact Nat.ne_of_gt (And.right (And.right (And.right (And.right (by assumption)))))) | (exact Nat.ne_of_gt (And.left (And.right (And.right (And.right (And.right (And.right (by assumption)))))))) | (exact Nat.ne_of_gt (And.right (And.right (And.right (And.right (And.right (by assumption))))))) | (exact Nat.ne_of_gt (And.left (And.right (And.right (And.right (And.right (And.right (And.right (by assumption))))))))) | (exact Nat.ne_of_gt (And.right (And.right (And.right (And.right (And.right (And.right (by assumption)))))))) | (exact Nat.ne_of_gt (And.left (And.right (And.right (And.right (And.right (And.right (And.right (And.right (by assumption)))))))))) | (exact Nat.ne_of_gt (And.right (And.right (And.right (And.right (And.right (And.right (And.right (by assumption))))))))) | (exact Nat.ne_of_gt (And.left (And.right (And.right (And.right (And.right (And.right (And.right (And.right (And.right (by assumption))))))))))) | (exact Nat.ne_of_gt (And.right (And.right (And.right (And.right (And.right (And.right (And.right (And.right (by assumption)))))))))) | (exact Nat.ne_of_gt (And.left (And.right (And.right (And.right (And.right (And.right (And.right (And.right (And.right (And.right (by assumption)))))))))))) | (exact Nat.ne_of_gt (And.right (And.right (And.right (And.right (And.right (And.right (And.right (And.right (And.right (by assumption))))))))))) | (exact Nat.ne_of_lt (And.left (by assumption))) | (exact Nat.ne_of_lt (And.left (And.right (by assumption)))) | (exact Nat.ne_of_lt (And.right (by assumption))) | (exact Nat.ne_of_lt (And.left (And.right (And.right (by assumption))))) | (exact Nat.ne_of_lt (And.right (And.right (by assumption)))) | (exact Nat.ne_of_lt (And.left (And.right (And.right (And.right (by assumption)))))) | (exact Nat.ne_of_lt (And.right (And.right (And.right (by assumption))))) | (exact Nat.ne_of_lt (And.left (And.right (And.right (And.right (And.right (by assumption))))))) | (exact Nat.ne_of_lt (And.right (And.right (And.right (And.right (by assumption)))))) | (exact Nat.ne_of_lt (And.left (And.right (And.right (And.right (And.right (And.right (by assumption)))))))) | (exact Nat.ne_of_lt (And.right (And.right (And.right (And.right (And.right (by assumption))))))) | (exact Nat.ne_of_lt (And.left (And.right (And.right (And.right (And.right (And.right (And.right (by assumption))))))))) | (exact Nat.ne_of_lt (And.right (And.right (And.right (And.right (And.right (And.right (by assumption)))))))) | (exact Nat.ne_of_lt (And.left (And.right (And.right (And.right (And.right (And.right (And.right (And.right (by assumption)))))))))) | (exact Nat.ne_of_lt (And.right (And.right (And.right (And.right (And.right (And.right (And.right (by assumption))))))))) | (exact Nat.ne_of_lt (And.left (And.right (And.right (And.right (And.right (And.right (And.right (And.right (And.right (by assumption))))))))))) | (exact Nat.ne_of_lt (And.right (And.right (And.right (And.right (And.right (And.right (And.right (And.right (by assumption)))))))))) | (exact Nat.ne_of_lt (And.left (And.right (And.right (And.right (And.right (And.right (And.right (And.right (And.right (And.right (by assumption)))))))))))) | (exact Nat.ne_of_lt (And.right (And.right (And.right (And.right (And.right (And.right (And.right (And.right (And.right (by assumption))))))))))))
  trivial
theorem rows_L2turn2_upd : True := by
  k_with "upd" => first | (with_unfolding_all exact updAt0 (by assumption)) | (with_unfolding_all exact updAt1 (by assumption)) | (with_unfolding_all exact updAt2 (by assumption)) | (with_unfolding_all exact updAt3 (by assumption)) | (with_unfolding_all exact updAt4 (by assumption)) | (with_unfolding_all exact updAt5 (by assumption)) | (with_unfolding_all exact updAt6 (by assumption)) | (with_unfolding_all exact updAt7 (by assumption)) | (with_unfolding_all exact updAt8 (by assumption)) | (with_unfolding_all exact updAt9 (by assumption)) | (with_unfolding_all exact updAt10 (by assumption)) | (with_unfolding_all exact updAt11 (by assumption)) | (with_unfolding_all exact updAt12 (by assumption)) | (with_unfolding_all exact updAt13 (by assumption)) | (with_unfolding_all exact updAt14 (by assumption)) | (with_unfolding_all exact updAt15 (by assumption)) | (refine' Upd.tail ?ua1 ?ub1; (case ua1 => k_ne); (case ub1 => (first | (with_unfolding_all exact updAt0 (by assumption)) | (with_unfolding_all exact updAt1 (by assumption)) | (with_unfolding_all exact updAt2 (by assumption)) | (with_unfolding_all exact updAt3 (by assumption)) | (with_unfolding_all exact updAt4 (by assumption)) | (with_unfolding_all exact updAt5 (by assumption)) | (with_unfolding_all exact updAt6 (by assumption)) | (with_unfolding_all exact updAt7 (by assumption)) | (with_unfolding_all exact updAt8 (by assumption)) | (with_unfolding_all exact updAt9 (by assumption)) | (with_unfolding_all exact updAt10 (by assumption)) | (with_unfolding_all exact updAt11 (by assumption)) | (with_unfolding_all exact updAt12 (by assumption)) | (with_unfolding_all exact updAt13 (by assumption)) | (with_unfolding_all exact updAt14 (by assumption)) | (with_unfolding_all exact updAt15 (by assumption)) | (refine' Upd.tail ?ua2 ?ub2; (case ua2 => k_ne); (case ub2 => (first | (with_unfolding_all exact updAt0 (by assumption)) | (with_unfolding_all exact updAt1 (by assumption)) | (with_unfolding_all exact updAt2 (by assumption)) | (with_unfolding_all exact updAt3 (by assumption)) | (with_unfolding_all exact updAt4 (by assumption)) | (with_unfolding_all exact updAt5 (by assumption)) | (with_unfolding_all exact updAt6 (by assumption)) | (with_unfolding_all exact updAt7 (by assumption)) | (with_unfolding_all exact updAt8 (by assumption)) | (with_unfolding_all exact updAt9 (by assumption)) | (with_unfolding_all exact updAt10 (by assumption)) | (with_unfolding_all exact updAt11 (by assumption)) | (with_unfolding_all exact updAt12 (by assumption)) | (with_unfolding_all exact updAt13 (by assumption)) | (with_unfolding_all exact updAt14 (by assumption)) | (with_unfolding_all exact updAt15 (by assumption)) | (refine' Upd.tail ?ua3 ?ub3; (case ua3 => k_ne); (case ub3 => (first | (with_unfolding_all exact updAt0 (by assumption)) | (with_unfolding_all exact updAt1 (by assumption)) | (with_unfolding_all exact updAt2 (by assumption)) | (with_unfolding_all exact updAt3 (by assumption)) | (with_unfolding_all exact updAt4 (by assumption)) | (with_unfolding_all exact updAt5 (by assumption)) | (with_unfolding_all exact updAt6 (by assumption)) | (with_unfolding_all exact updAt7 (by assumption)) | (with_unfolding_all exact updAt8 (by assumption)) | (with_unfolding_all exact updAt9 (by assumption)) | (with_unfolding_all exact updAt10 (by assumption)) | (with_unfolding_all exact updAt11 (by assumption)) | (with_unfolding_all exact updAt12 (by assumption)) | (with_unfolding_all exact updAt13 (by assumption)) | (with_unfolding_all exact updAt14 (by assumption)) | (with_unfolding_all exact updAt15 (by assumption)))))))))))
  k_with "updF" => first | (with_unfolding_all exact updFAt0 (by assumption)) | (with_unfolding_all exact updFAt1 (by assumption)) | (with_unfolding_all exact updFAt2 (by assumption)) | (with_unfolding_all exact updFAt3 (by assumption)) | (with_unfolding_all exact updFAt4 (by assumption)) | (with_unfolding_all exact updFAt5 (by assumption)) | (with_unfolding_all exact updFAt6 (by assumption)) | (with_unfolding_all exact updFAt7 (by assumption)) | (with_unfolding_all exact updFAt8 (by assumption)) | (with_unfolding_all exact updFAt9 (by assumption)) | (with_unfolding_all exact updFAt10 (by assumption)) | (with_unfolding_all exact updFAt11 (by assumption)) | (with_unfolding_all exact updFAt12 (by assumption)) | (with_unfolding_all exact updFAt13 (by assumption)) | (with_unfolding_all exact updFAt14 (by assumption)) | (with_unfolding_all exact updFAt15 (by assumption)) | (refine' UpdF.tail ?uaF1 ?ubF1; (case uaF1 => k_ne); (case ubF1 => (first | (with_unfolding_all exact updFAt0 (by assumption)) | (with_unfolding_all exact updFAt1 (by assumption)) | (with_unfolding_all exact updFAt2 (by assumption)) | (with_unfolding_all exact updFAt3 (by assumption)) | (with_unfolding_all exact updFAt4 (by assumption)) | (with_unfolding_all exact updFAt5 (by assumption)) | (with_unfolding_all exact updFAt6 (by assumption)) | (with_unfolding_all exact updFAt7 (by assumption)) | (with_unfolding_all exact updFAt8 (by assumption)) | (with_unfolding_all exact updFAt9 (by assumption)) | (with_unfolding_all exact updFAt10 (by assumption)) | (with_unfolding_all exact updFAt11 (by assumption)) | (with_unfolding_all exact updFAt12 (by assumption)) | (with_unfolding_all exact updFAt13 (by assumption)) | (with_unfolding_all exact updFAt14 (by assumption)) | (with_unfolding_all exact updFAt15 (by assumption)) | (refine' UpdF.tail ?uaF2 ?ubF2; (case uaF2 => k_ne); (case ubF2 => (first | (with_unfolding_all exact updFAt0 (by assumption)) | (with_unfolding_all exact updFAt1 (by assumption)) | (with_unfolding_all exact updFAt2 (by assumption)) | (with_unfolding_all exact updFAt3 (by assumption)) | (with_unfolding_all exact updFAt4 (by assumption)) | (with_unfolding_all exact updFAt5 (by assumption)) | (with_unfolding_all exact updFAt6 (by assumption)) | (with_unfolding_all exact updFAt7 (by assumption)) | (with_unfolding_all exact updFAt8 (by assumption)) | (with_unfolding_all exact updFAt9 (by assumption)) | (with_unfolding_all exact updFAt10 (by assumption)) | (with_unfolding_all exact updFAt11 (by assumption)) | (with_unfolding_all exact updFAt12 (by assumption)) | (with_unfolding_all exact updFAt13 (by assumption)) | (with_unfolding_all exact updFAt14 (by assumption)) | (with_unfolding_all exact updFAt15 (by assumption)) | (refine' UpdF.tail ?uaF3 ?ubF3; (case uaF3 => k_ne); (case ubF3 => (first | (with_unfolding_all exact updFAt0 (by assumption)) | (with_unfolding_all exact updFAt1 (by assumption)) | (with_unfolding_all exact updFAt2 (by assumption)) | (with_unfolding_all exact updFAt3 (by assumption)) | (with_unfolding_all exact updFAt4 (by assumption)) | (with_unfolding_all exact updFAt5 (by assumption)) | (with_unfolding_all exact updFAt6 (by assumption)) | (with_unfolding_all exact updFAt7 (by assumption)) | (with_unfolding_all exact updFAt8 (by assumption)) | (with_unfolding_all exact updFAt9 (by assumption)) | (with_unfolding_all exact updFAt10 (by assumption)) | (with_unfolding_all exact updFAt11 (by assumption)) | (with_unfolding_all exact updFAt12 (by assumption)) | (with_unfolding_all exact updFAt13 (by assumption)) | (with_unfolding_all exact updFAt14 (by assumption)) | (with_unfolding_all exact updFAt15 (by assumption)))))))))))
  trivial
noncomputable def lawB : {l : List Stmt // fnBody (fnOfName (Str.ofString "law") PySem.Challenge.rw_rw0047_02.prog.main.body) = l} := by
  apply Subtype.mk
  conv => lhs; whnf
noncomputable def lawS : {l : Scope // fnScope (fnOfName (Str.ofString "law") PySem.Challenge.rw_rw0047_02.prog.main.body) = l} := by
  apply Subtype.mk
  conv => lhs; whnf
noncomputable def lawC : {l : List Stmt // lawB.1.drop 3 = l} := by
  apply Subtype.mk
  conv => lhs; whnf
noncomputable def lawF : {l : Stmt // lawB.1.getD 7 default = l} := by
  apply Subtype.mk
  conv => lhs; whnf
/-- the frame's names that the loop needs -/
noncomputable abbrev ffr (FO Wd zx : Nat) (body : Str) (tb : CbTok) (m : Str → Option Value) : Str → Option Value := fun y => if y = Str.ofString "found" then some (.ref FO) else if y = Str.ofString "words" then some (.ref Wd) else if y = Str.ofString "lexer" then some (.ref zx) else if y = Str.ofString "body" then some (.str body tb) else m y
theorem ffr_eq {m : Str → Option Value} {FO Wd zx : Nat} {body : Str} {tb : CbTok} (a : m (Str.ofString "found") = some (.ref FO)) (b : m (Str.ofString "words") = some (.ref Wd)) (c : m (Str.ofString "lexer") = some (.ref zx)) (d : m (Str.ofString "body") = some (.str body tb)) : m = ffr FO Wd zx body tb m := by
  funext y
  unfold ffr
  split
  · next e => rw [e, a]
  · split
    · next e => rw [e, b]
    · split
      · next e => rw [e, c]
      · split
        · next e => rw [e, d]
        · rfl
noncomputable def lawFb : {l : List Stmt // forBody lawF.1 = l} := by
  apply Subtype.mk
  conv => lhs; whnf
/-- what holds ahead of each turn -/
inductive LoopJ (w : World) (z : Lx) (w0 w1 body : Str) (tb : CbTok) (f0 f1 FO Wd Cn : Nat) (oW : Obj) (r0 r2 : List Nat) (i : Nat) (m : Str → Option Value) (nx : CbLed) : Prop
  | mk (u0 u1 : List Value) (n0 n1 : Nat) (oN : Obj) (v : Option Value) (us : List Value) (r : List Nat) (n : Nat) (ln : Int) (tl np : Nat) (pbs : List Value) (m' : Str → Option Value)
    (I0 : IntsAre u0 (foundAt (cs w0) body i)) (I1 : IntsAre u1 (foundAt (cs w1) body i)) (hoN : oN.data = .cell v) (hv : 0 < i → ∃ x t, v = some (.str x t) ∧ cs x = nmAt body (i - 1)) (hs : SigAre us r) (hln : ln + cnt r = 3)
    (hc : (i = 0 ∧ pbs = [] ∧ r = r0) ∨ (0 < i ∧ (∃ t t', pbs = [.str w0 t, .str w1 t']) ∧ r = r2)) (hm : m = ffr FO Wd z.x body tb m')
    (hnx : nx = (f0, listOf u0.toArray n0) :: (f1, listOf u1.toArray n1) :: (FO, listOf #[.ref f0, .ref f1] 0) :: (Wd, oW) :: (Cn, oN) :: (z.led w us n ln tl pbs np ++ [(104, tabObj (lamTab z.cc))])) : LoopJ w z w0 w1 body tb f0 f1 FO Wd Cn oW r0 r2 i m nx
theorem found0 (a : List Nat) (x : Str) : foundAt a x 0 = [] := rfl
theorem rk_of {n i : Nat} {k : Int} (h : (rangeKs 0 n)[i]? = some k) : i < n ∧ k = (i : Int) := by
  obtain ⟨h1, h2⟩ := List.getElem?_eq_some_iff.mp h
  simp [rangeKs] at h1 h2
  exact ⟨h1, h2.symm⟩
theorem cs_cut {body : Str} {k : Int} (h0 : 0 ≤ k) (h1 : k ≤ body.length) : cs (nameS (Txt.slice body none (some k))) = nmAt body k.toNat := by
  unfold nameS nmAt
  rw [slice_to h0 h1]
  simp [cs]
theorem mem_7 {α : Type} {a b c d e f g q : α} {l o : List α} (h : q ∈ l ++ a :: b :: c :: d :: e :: f :: g :: o) : q ∈ a :: b :: c :: d :: e :: f :: g :: (l ++ o) := mem_sw (m := [a, b, c, d, e, f, g]) h
theorem mem_7' {α : Type} {a b c d e f g q : α} {l o : List α} (h : q ∈ a :: b :: c :: d :: e :: f :: g :: (l ++ o)) : q ∈ l ++ a :: b :: c :: d :: e :: f :: g :: o := mem_sw (l := [a, b, c, d, e, f, g]) h
theorem ok_2 {z : Lx} {own : CbLed} {i j : Addr × Obj} (h : z.Ok own) (hi : z.pb < i.1) (hj : z.pb < j.1) : z.Ok (i :: j :: own) := by
  obtain ⟨o0, o1, o2, o3, o4, o5, o6, o7, o8, o9, c1, c2⟩ := h
  have a1 : z.cl < z.pb := by omega
  have a2 : z.dx < z.pb := by omega
  refine ⟨fun p hp b hb => ?_, o1, o2, o3, o4, o5, o6, o7, o8, o9, c1, c2⟩
  have key : ∀ x : Nat, z.pb < x → ∀ b ∈ [z.cl, z.dx, z.pb], x ≠ b := by
    intro x hx b hb
    rcases List.mem_cons.mp hb with rfl | hb
    · exact Nat.ne_of_gt (Nat.lt_trans a1 hx)
    rcases List.mem_cons.mp hb with rfl | hb
    · exact Nat.ne_of_gt (Nat.lt_trans a2 hx)
    · rw [List.mem_singleton.mp hb]; exact Nat.ne_of_gt hx
  rcases List.mem_cons.mp hp with rfl | hp
  · exact key _ hi b hb
  rcases List.mem_cons.mp hp with rfl | hp
  · exact key _ hj b hb
  · exact o0 p hp b hb
theorem found_same (a b : List Nat) (x : Str) (i : Nat) (h : i ≤ x.length + 1) : (foundAt a x i).length = (foundAt b x i).length := by
  rw [(found_len a x i (by rw [cs_len]; exact h)).1, (found_len b x i (by rw [cs_len]; exact h)).1]
theorem found_up {a : List Nat} {body x : Str} {i : Nat} {k : Int} {u : List Value} {t : Tok} (hk : k = (i : Int)) (hx : cs x = nmAt body k.toNat) (hI : IntsAre u (foundAt a body i)) (hl : (x.length : Int) = ((foundAt a body i).length : Int)) : IntsAre (u ++ [.int (soughtI a (cs x)) t]) (foundAt a body (i + 1)) := by
  subst hk
  rw [Int.toNat_natCast] at hx
  rw [foundAt, if_pos (by rw [← hx, cs_len]; exact Int.ofNat.inj hl), ← hx]
  exact hI.append (.cons _ _ .nil)
theorem found_stay {a : List Nat} {body x : Str} {i : Nat} {k : Int} {u : List Value} (hk : k = (i : Int)) (hx : cs x = nmAt body k.toNat) (hI : IntsAre u (foundAt a body i)) (hl : (x.length : Int) ≠ ((foundAt a body i).length : Int)) : IntsAre u (foundAt a body (i + 1)) := by
  subst hk
  rw [Int.toNat_natCast] at hx
  rw [foundAt, if_neg (by rw [← hx, cs_len]; exact fun e => hl (by rw [e]))]
  exact hI
theorem mem_own {α : Type} {q a b c d e t : α} {l o : List α} (h : q ∈ o) : q ∈ a :: b :: c :: d :: e :: (l ++ (t :: o)) :=
  List.mem_append_right [a, b, c, d, e] (List.mem_append_right l (.tail _ h))
theorem mem_sub {α : Type} {q a b c d e t : α} {l o : List α} (h : q ∈ a :: b :: c :: d :: e :: (l ++ [t])) : q ∈ a :: b :: c :: d :: e :: (l ++ (t :: o)) := by
  have h1 := List.mem_append_left o h
  rwa [List.cons_append, List.cons_append, List.cons_append, List.cons_append, List.cons_append, List.append_assoc] at h1
theorem off_lt {I : Addr} {nw : CbLed} (h : AllLt I nw) : ∀ p ∈ nw, p.1 ≠ I := fun p hp => Nat.ne_of_lt (kst_ltOf h p hp)
theorem push7 (w : World) (news : CbLed) (loose : List Str) (mean : ExcName → Option Value) (mg mb : Str → Option Value) (p : Program) (z : Lx) (us : List Value) (nn : Nat) (ln : Int) (tl np : Nat) (y : Value) (pbs : List Value) (own : CbLed) (I1 I2 A1 A2 A3 A4 A5 : Nat) (e1 e2 q1 q2 q3 q4 q5 : Obj) (hz : ∀ a b c d e : Obj, z.Ok ((A1, a) :: (A2, b) :: (A3, c) :: (A4, d) :: (A5, e) :: own)) (hg1 : z.pb < I1) (hg2 : z.pb < I2) (hlen : pbs.length ≤ 900)
  (hN : news = (I1, e1) :: (I2, e2) :: (A1, q1) :: (A2, q2) :: (A3, q3) :: (A4, q4) :: (A5, q5) :: (z.led w us nn ln tl pbs np ++ own)) (kMark : KstMark)
  (dp un : Nat) (gd : Option (List Code)) (cn : Str) (sc : Scope) (a' : CbAddr) (ccd : CbVal) (cl : List (Str × CbAddr)) (outer : List Env) (A₀ : Around) (base h₀ : Heap) (L : CbAddr) (mm : Str → Option Value) (s : Shared)
  (Q E : Value → Shared → Prop)
  (B : Below A₀ base outer h₀) (F : Fr h₀ L s.heap mm) (X : (Mine.hd.heap_39 w.params).In h₀) (N : News h₀ L s.heap news) (T : Top p loose mean mg mb h₀) (hk : sc.kind = .function) (hdp : dp + 200 < recursionLimit) (hun : un + 1000 < cLine)
  (hret : ∀ h' tk', Fr h₀ L h' mm → News h₀ L h' ((I1, e1) :: (I2, e2) :: (A1, q1) :: (A2, q2) :: (A3, q3) :: (A4, q4) :: (A5, q5) :: (z.led w us nn ln tl (pbs ++ [y]) (np + 1) ++ own)) → Q .none { s with heap := h', toks := tk' }) (codeHd : CodeHd base 108 104) :
  wpAny (model PySem.Challenge.rw_rw0047_02.prog w) (ktrTop dp un gd cn sc L a' ccd cl outer) (call (.ref 95) [.ref z.x, y]) Q E s := by
  subst hN
  refine push_walk w (z.led w us nn ln tl pbs np ++ (I1, e1) :: (I2, e2) :: (A1, q1) :: (A2, q2) :: (A3, q3) :: (A4, q4) :: (A5, q5) :: own) loose mean mg mb p z us nn ln tl np y pbs _ (ok_2 (hz q1 q2 q3 q4 q5) hg1 hg2) hlen rfl kMark dp un gd cn sc a' ccd cl outer A₀ base h₀ L mm s Q E B F X (fun q hq => N q (mem_7 hq)) T hk hdp hun (fun h' tk' F' N' => ?_) codeHd
  exact hret h' tk' F' fun q hq => N' q (mem_7' hq)
/-- the lexer's state ahead of a turn's first reading: the first turn reads the text, a later one what was pushed back -/
noncomputable def TokA (w0 w1 : Str) (r0 r2 : List Nat) (i : Nat) (us : List Value) (ln : Int) (pbs : List Value) : Prop :=
  (∃ t0 t1, pbs = [.str w0 t0, .str w1 t1] ∧ SigAre us r2 ∧ ln + cnt r2 = 3) ∨ (i = 0 ∧ pbs = [] ∧ SigAre us r0 ∧ ln + cnt r0 = 3)
noncomputable def TokB (w1 : Str) (r1 r2 : List Nat) (us : List Value) (ln : Int) (pbs : List Value) : Prop :=
  (∃ t1, pbs = [.str w1 t1] ∧ SigAre us r2 ∧ ln + cnt r2 = 3) ∨ (pbs = [] ∧ SigAre us r1 ∧ ln + cnt r1 = 3)
theorem tokA (w : World) (news : CbLed) (loose : List Str) (mean : ExcName → Option Value) (mg mb : Str → Option Value) (p : Program) (z : Lx) (us : List Value) (r0 r1 r2 : List Nat) (w0 w1 : Str) (i nn : Nat) (ln : Int) (tl np : Nat) (pbs : List Value) (own : CbLed) (A1 A2 A3 A4 A5 : Nat) (q1 q2 q3 q4 q5 : Obj) (hT : TokA w0 w1 r0 r2 i us ln pbs) (hz : ∀ a b c d e : Obj, z.Ok ((A1, a) :: (A2, b) :: (A3, c) :: (A4, d) :: (A5, e) :: own)) (hlen : r0.length ≤ 900) (hw : gtT r0 = (cs w0, r1))
  (hN : news = (A1, q1) :: (A2, q2) :: (A3, q3) :: (A4, q4) :: (A5, q5) :: (z.led w us nn ln tl pbs np ++ own)) (kMark : KstMark)
  (dp un : Nat) (gd : Option (List Code)) (cn : Str) (sc : Scope) (a' : CbAddr) (ccd : CbVal) (cl : List (Str × CbAddr)) (outer : List Env) (A₀ : Around) (base h₀ : Heap) (L : CbAddr) (mm : Str → Option Value) (s : Shared)
  (Q E : Value → Shared → Prop)
  (B : Below A₀ base outer h₀) (F : Fr h₀ L s.heap mm) (X : (Mine.hd.heap_39 w.params).In h₀) (N : News h₀ L s.heap news) (T : Top p loose mean mg mb h₀) (hk : sc.kind = .function) (hdp : dp + 200 < recursionLimit) (hun : un + 1000 < cLine)
  (hret : ∀ t h' tk' us' n' ln' tl' pbs' np', TokB w1 r1 r2 us' ln' pbs' → Fr h₀ L h' mm → News h₀ L h' ((A1, q1) :: (A2, q2) :: (A3, q3) :: (A4, q4) :: (A5, q5) :: (z.led w us' n' ln' tl' pbs' np' ++ own)) → Q (.str w0 t) { s with heap := h', toks := tk' }) (codeHd : CodeHd base 108 104) :
  wpAny (model PySem.Challenge.rw_rw0047_02.prog w) (ktrTop dp un gd cn sc L a' ccd cl outer) (call (.ref 88) [.ref z.x]) Q E s := by
  rcases hT with ⟨t0, t1, rfl, hs, hln⟩ | ⟨_, rfl, hs, hln⟩
  · exact pop5 w news loose mean mg mb p z us nn ln tl np _ _ own A1 A2 A3 A4 A5 q1 q2 q3 q4 q5 hz (Nat.le_of_ble_eq_true rfl) hN kMark dp un gd cn sc a' ccd cl outer A₀ base h₀ L mm s Q E B F X N T hk hdp hun (fun h' tk' F' N' => hret _ h' tk' us nn ln tl _ _ (.inl ⟨_, rfl, hs, hln⟩) F' N') codeHd
  · exact gt5 w news loose mean mg mb p z us r0 r1 w0 nn ln tl np own A1 A2 A3 A4 A5 q1 q2 q3 q4 q5 hz hs hlen hw hN kMark dp un gd cn sc a' ccd cl outer A₀ base h₀ L mm s Q E B F X N T hk hdp hun (fun t h' tk' us' n' ln' tl' e1 e2 F' N' => hret t h' tk' us' n' ln' tl' _ _ (.inr ⟨rfl, e1, e2.trans hln⟩) F' N') codeHd
theorem tokB (w : World) (news : CbLed) (loose : List Str) (mean : ExcName → Option Value) (mg mb : Str → Option Value) (p : Program) (z : Lx) (us : List Value) (r1 r2 : List Nat) (w1 : Str) (nn : Nat) (ln : Int) (tl np : Nat) (pbs : List Value) (own : CbLed) (A1 A2 A3 A4 A5 : Nat) (q1 q2 q3 q4 q5 : Obj) (hT : TokB w1 r1 r2 us ln pbs) (hz : ∀ a b c d e : Obj, z.Ok ((A1, a) :: (A2, b) :: (A3, c) :: (A4, d) :: (A5, e) :: own)) (hlen : r1.length ≤ 900) (hw : gtT r1 = (cs w1, r2))
  (hN : news = (A1, q1) :: (A2, q2) :: (A3, q3) :: (A4, q4) :: (A5, q5) :: (z.led w us nn ln tl pbs np ++ own)) (kMark : KstMark)
  (dp un : Nat) (gd : Option (List Code)) (cn : Str) (sc : Scope) (a' : CbAddr) (ccd : CbVal) (cl : List (Str × CbAddr)) (outer : List Env) (A₀ : Around) (base h₀ : Heap) (L : CbAddr) (mm : Str → Option Value) (s : Shared)
  (Q E : Value → Shared → Prop)
  (B : Below A₀ base outer h₀) (F : Fr h₀ L s.heap mm) (X : (Mine.hd.heap_39 w.params).In h₀) (N : News h₀ L s.heap news) (T : Top p loose mean mg mb h₀) (hk : sc.kind = .function) (hdp : dp + 200 < recursionLimit) (hun : un + 1000 < cLine)
  (hret : ∀ t h' tk' us' n' ln' tl' np', SigAre us' r2 → ln' + cnt r2 = 3 → Fr h₀ L h' mm → News h₀ L h' ((A1, q1) :: (A2, q2) :: (A3, q3) :: (A4, q4) :: (A5, q5) :: (z.led w us' n' ln' tl' [] np' ++ own)) → Q (.str w1 t) { s with heap := h', toks := tk' }) (codeHd : CodeHd base 108 104) :
  wpAny (model PySem.Challenge.rw_rw0047_02.prog w) (ktrTop dp un gd cn sc L a' ccd cl outer) (call (.ref 88) [.ref z.x]) Q E s := by
  rcases hT with ⟨t1, rfl, hs, hln⟩ | ⟨rfl, hs, hln⟩
  · exact pop5 w news loose mean mg mb p z us nn ln tl np _ _ own A1 A2 A3 A4 A5 q1 q2 q3 q4 q5 hz (Nat.le_of_ble_eq_true rfl) hN kMark dp un gd cn sc a' ccd cl outer A₀ base h₀ L mm s Q E B F X N T hk hdp hun (fun h' tk' F' N' => hret _ h' tk' us nn ln tl _ hs hln F' N') codeHd
  · exact gt5 w news loose mean mg mb p z us r1 r2 w1 nn ln tl np own A1 A2 A3 A4 A5 q1 q2 q3 q4 q5 hz hs hlen hw hN kMark dp un gd cn sc a' ccd cl outer A₀ base h₀ L mm s Q E B F X N T hk hdp hun (fun t h' tk' us' n' ln' tl' e1 e2 F' N' => hret t h' tk' us' n' ln' tl' _ e1 (e2.trans hln) F' N') codeHd
theorem rows_L2turn2_16 : True := by
  k_with "binaryOp Add str str" => (k_here; (with_unfolding_all refine' SBL.add ?_ ?h2); (case h2 => (rw [sizeLine_eq, len_257]; omega)); intros)
  k_with "call ref" => (k_here; refine hold_of ?_)
  k_with "call ref" => ((with_reducible show wpAny _ _ (call (Value.ref 126) _) _ _ _); (k_here; (with_unfolding_all refine' name_walk _ _ _ _ _ _ _ _ _ ?p0 _ _ _ _ _ _ _ _ _ _ _ _ _ _ _ _ _ ?k1 ?k2 ?k3 ?k4 ?k5 ?k6 ?k7 ?k8 ?_); (case k2 => first | k_asm | with_unfolding_all assumption); (case k4 => first | k_asm | with_unfolding_all assumption); (case k1 => first | k_asm | with_unfolding_all assumption); (case k3 => k_asm); (case k5 => k_asm); (case k6 => with_unfolding_all rfl); (case k7 => ktr_room); (case k8 => ktr_units); (case p0 => omega); intros))
  k_with "call ref" => ((with_reducible show wpAny _ _ (call (Value.ref 60) _) _ _ _); (k_here; (with_unfolding_all refine' p257_n _ _ _ _ _ _ _ _ _ ?p0 _ _ _ _ _ _ _ _ _ _ _ _ _ _ _ _ _ ?k1 ?k2 ?k3 ?k4 ?k5 ?k6 ?k7 ?k8 ?_); (case k2 => first | k_asm | with_unfolding_all assumption); (case k4 => first | k_asm | with_unfolding_all assumption); (case k1 => first | k_asm | with_unfolding_all assumption); (case k3 => k_asm); (case k5 => k_asm); (case k6 => with_unfolding_all rfl); (case k7 => ktr_room); (case k8 => ktr_units); (case p0 => omega); intros))
  k_with "call ref" => ((with_reducible show wpAny _ _ (call (Value.ref 133) _) _ _ _); (k_here; (with_unfolding_all refine' sought_walk _ _ _ _ _ _ _ _ _ _ _ ?p0 ?p1 _ _ _ _ _ _ _ _ _ _ _ _ _ _ _ _ _ ?k1 ?k2 ?k3 ?k4 ?k5 ?k6 ?k7 ?k8 ?_); (case k2 => first | k_asm | with_unfolding_all assumption); (case k4 => first | k_asm | with_unfolding_all assumption); (case k1 => first | k_asm | with_unfolding_all assumption); (case k3 => k_asm); (case k5 => k_asm); (case k6 => with_unfolding_all rfl); (case k7 => ktr_room); (case k8 => ktr_units); (case p0 => omega); (case p1 => omega); intros))
  k_with "call ref" => ((with_reducible show wpAny _ _ (call (Value.ref 88) _) _ _ _); k_here; (with_unfolding_all refine' tokA _ _ _ _ _ _ _ _ _ _ _ _ _ _ _ _ _ _ _ _ _ _ _ _ _ _ _ _ _ _ _ ?p0 ?p1 ?p2 ?p4 ?p5 ?p6 _ _ _ _ _ _ _ _ _ _ _ _ _ _ _ _ _ ?k1 ?k2 ?k3 ?k4 ?k5 ?k6 ?k7 ?k8 ?_ ?k9); (case p0 => assumption); (case k2 => first | k_asm | with_unfolding_all assumption); (case k4 => first | k_asm | with_unfolding_all assumption); (case p5 => with_unfolding_all rfl); (case k1 => first | k_asm | with_unfolding_all assumption); (case k3 => k_asm); (case k5 => k_asm); (case k6 => with_unfolding_all rfl); (case k7 => ktr_room); (case k8 => ktr_units); (case p1 => assumption); (case p2 => assumption); (case p4 => assumption); (case p6 => assumption); (case k9 => assumption); intro tqRow hqRow tkqRow usqRow nqRow lnqRow tlqRow pbsqRow npqRow e2qRow FqRow NqRow)
  k_with "call ref" => ((with_reducible show wpAny _ _ (call (Value.ref 88) _) _ _ _); k_here; (with_unfolding_all refine' tokB _ _ _ _ _ _ _ _ _ _ _ _ _ _ _ _ _ _ _ _ _ _ _ _ _ _ _ _ ?p0 ?p1 ?p2 ?p4 ?p5 ?p6 _ _ _ _ _ _ _ _ _ _ _ _ _ _ _ _ _ ?k1 ?k2 ?k3 ?k4 ?k5 ?k6 ?k7 ?k8 ?_ ?k9); (case p0 => assumption); (case k2 => first | k_asm | with_unfolding_all assumption); (case k4 => first | k_asm | with_unfolding_all assumption); (case p5 => with_unfolding_all rfl); (case k1 => first | k_asm | with_unfolding_all assumption); (case k3 => k_asm); (case k5 => k_asm); (case k6 => with_unfolding_all rfl); (case k7 => ktr_room); (case k8 => ktr_units); (case p1 => assumption); (case p2 => assumption); (case p4 => assumption); (case p6 => assumption); (case k9 => assumption); intro tqRow hqRow tkqRow usqRow nqRow lnqRow tlqRow npqRow e2qRow e3qRow FqRow NqRow)
  k_with "call ref" => ((with_reducible show wpAny _ _ (call (Value.ref 95) _) _ _ _); k_here; (with_unfolding_all refine' push7 _ _ _ _ _ _ _ _ _ _ _ _ _ _ _ _ _ _ _ _ _ _ _ _ _ _ _ _ _ _ ?p1 ?g1 ?g2 ?p3 ?p5 ?p6 _ _ _ _ _ _ _ _ _ _ _ _ _ _ _ _ _ ?k1 ?k2 ?k3 ?k4 ?k5 ?k6 ?k7 ?k8 ?_ ?k9); (case k2 => first | k_asm | with_unfolding_all assumption); (case k4 => first | k_asm | with_unfolding_all assumption); (case p5 => with_unfolding_all rfl); (case k1 => first | k_asm | with_unfolding_all assumption); (case k3 => k_asm); (case k5 => k_asm); (case k6 => with_unfolding_all rfl); (case k7 => ktr_room); (case k8 => ktr_units); (case p1 => assumption); (case g1 => first | (exact Nat.lt_trans (by assumption) (And.left (by assumption))) | (exact Nat.lt_trans (by assumption) (And.left (And.right (by assumption)))) | omega); (case g2 => first | (exact Nat.lt_trans (by assumption) (And.left (by assumption))) | (exact Nat.lt_trans (by assumption) (And.left (And.right (by assumption)))) | omega); (case p3 => (simp only [List.length_append, List.length_cons, List.length_nil]; omega)); (case p6 => assumption); (case k9 => assumption); intro hqRow tkqRow FqRow NqRow)
  trivial
theorem found_le (a : List Nat) (x : Str) (i : Nat) (h : i ≤ x.length + 1) : (foundAt a x i).length ≤ i := by
  rw [(found_len a x i (by rw [cs_len]; exact h)).1]
  split
  · omega
  · have := nmAt_len x (i - 1); omega
section
variable {prog : Program} {w : World} {A : Around} {E : Value → Shared → Prop} {s : Shared} {h₀ : Heap} {L : Addr} {news : List (Addr × Obj)}
theorem len_led {us : List Value} {n : Nat} {D : Addr} {Q : Value → Shared → Prop} (N : News h₀ L s.heap news) (hm : (D, listOf us.toArray n) ∈ news) (hz : us.length ≤ 1000) (h : Q (.int us.length (s.toks + 1)) { s with toks := s.toks + 1 + 1 }) :
    wpAny (model prog w) A (call (.builtin "len") [.ref D]) Q E s := by
  have hl : s.heap.IsList D us.toArray := ⟨_, (N _ hm).1, rfl, n, rfl⟩
  refine Calls.call_len_list hl (by rw [List.size_toArray]; omega) ?_
  rw [List.size_toArray]; exact h
end
theorem tb_addr {own nx nx' : CbLed} (h : TbOff own nx) (e : nx.map (·.1) = nx'.map (·.1)) : TbOff own nx' := by
  intro p hp q hq
  have hm : q.1 ∈ nx.map (·.1) := by rw [e]; exact List.mem_map.mpr ⟨q, hq, rfl⟩
  obtain ⟨q', hq', e'⟩ := List.mem_map.mp hm
  rw [← e']; exact h p hp q' hq'
theorem ok_addr {z : Lx} {own own' : CbLed} (h : z.Ok own) (e : ∀ p ∈ own', (∃ q ∈ own, q.1 = p.1) ∨ (p.1 ≠ z.cl ∧ p.1 ≠ z.dx ∧ p.1 ≠ z.pb)) : z.Ok own' := by
  refine { h with o0 := fun p hp b hb => ?_ }
  rcases e p hp with ⟨q, hq, e'⟩ | ⟨h1, h2, h3⟩
  · rw [← e']; exact h.o0 q hq b hb
  · rcases List.mem_cons.mp hb with rfl | hb
    · exact h1
    rcases List.mem_cons.mp hb with rfl | hb
    · exact h2
    · rw [List.mem_singleton.mp hb]; exact h3
theorem mem_6 {α : Type} {a b c d e t q : α} {l o : List α} (h : q ∈ a :: b :: c :: d :: e :: (l ++ (t :: o))) : q ∈ (a :: b :: c :: d :: e :: (l ++ [t])) ++ o := by
  rwa [List.cons_append, List.cons_append, List.cons_append, List.cons_append, List.cons_append, List.append_assoc]
/-- a turn's end -/
theorem loop_end {w : World} {z : Lx} {w0 w1 body : Str} {tb : CbTok} {f0 f1 FO Wd Cn : Nat} {oW : Obj} {r0 r2 : List Nat} {i : Nat} {m : Str → Option Value} {nw nx nx' own : CbLed} {g h : Heap} {L : Nat} {s : Shared} {tk : Nat}
    (F : Fr g L h m) (N : News g L h nw) (hoff : TbOff own nx) (e : nx.map (·.1) = nx'.map (·.1)) (hs : ∀ q ∈ nx', q ∈ nw) (ho : ∀ q ∈ own, q ∈ nw) (hJ : LoopJ w z w0 w1 body tb f0 f1 FO Wd Cn oW r0 r2 (i + 1) m nx') :
    TbEnd g L (LoopJ w z w0 w1 body tb f0 f1 FO Wd Cn oW r0 r2 (i + 1)) own s { s with heap := h, toks := tk } :=
  ⟨h, tk, m, nw, nx', rfl, F, N, hs, ho, tb_addr hoff e, hJ⟩
theorem rows_L2turn2_17 : True := by
  k_with "compareOp NotEq ref ref" => (k_here; (with_unfolding_all refine' ne_txts ?h1 ?h2 ?h3 ?h4 ?h5 ?h6 ?h7 ?_); (case h1 => k_asm); (case h2 => with_unfolding_all k_mem); (case h3 => with_unfolding_all k_mem); (case h4 => with_unfolding_all exact .cons _ _ (.cons _ _ .nil)); (case h5 => with_unfolding_all exact .cons _ _ (.cons _ _ .nil)); (case h6 => (intro xRow hxRow; rcases List.mem_cons.mp hxRow with hxRow | hxRow; rw [hxRow]; assumption; rw [List.mem_singleton.mp hxRow]; assumption)); (case h7 => ke_room))
  k_with "UnrEnd" => ((rename Fr _ _ _ _ => lF9Row); (rename News _ _ _ _ => lN9Row); (with_unfolding_all refine' UnrEnd.intro lF9Row lN9Row _ (fun pRow hpRow => hpRow) ?off ?_); (case off => ((rename (_ < _ ∧ _) => l9Row); refine off_lt ?_; with_unfolding_all exact l9Row)))
  k_with "call builtin:len" => (k_here; (with_reducible show wpAny _ _ (call (Value.builtin "len") [Value.ref _]) _ _ _); (with_unfolding_all refine' len_led ?h1 ?h2 ?h3 ?_); (case h1 => k_asm); (case h2 => with_unfolding_all (first | exact .head _ | exact .tail _ (.head _))); (case h3 => omega))
  trivial
theorem law_turn (w : World) (news : CbLed) (loose : List Str) (mean : ExcName → Option Value) (mg mb : Str → Option Value) (p : Program) (z : Lx) (w0 w1 body : Str) (tb : CbTok) (f0 f1 FO Wd : Nat) (L : Nat) (tw0 tw1 nW : Nat) (r0 r1 r2 : List Nat)
  (hb : body.length ≤ 10) (hso0 : PyData.strOk w0 = true) (hso1 : PyData.strOk w1 = true) (hw0 : w0.length ≤ 3) (hw1 : w1.length ≤ 3) (hr0 : gtT r0 = (cs w0, r1)) (hr1 : gtT r1 = (cs w1, r2)) (hl0 : r0.length ≤ 900) (hl1 : r1.length ≤ 900)
  (hz : ∀ oN : Obj, z.Ok [(f0, oN), (f1, oN), (FO, oN), (Wd, oN), (L + 1 + 1 + 1, oN), (104, oN)]) (o1 : z.pb < f0) (o2 : f0 < f1) (o3 : f1 < FO) (o4 : Wd < f0) (o5 : L + 1 + 1 + 1 ≠ Wd) (o6 : 104 < z.ce) (o7 : L + 1 + 1 + 1 < z.ce) (o8 : Wd < z.ce) (o9 : z.pb2 < z.cc) (o10 : 104 < L + 1 + 1 + 1)
  (i : Nat) (k : Int) (t : CbTok) (h : Heap) (tk : Nat) (own : CbLed) (hi : i < body.length + 1) (hk : k = (i : Int)) (u0 u1 : List Value) (n0 n1 : Nat) (oN : Obj) (v : Option Value) (us : List Value) (n : Nat) (ln : Int) (tl np : Nat) (pbs : List Value) (m' : Str → Option Value)
  (hoff : TbOff own ((f0, listOf u0.toArray n0) :: (f1, listOf u1.toArray n1) :: (FO, listOf #[.ref f0, .ref f1] 0) :: (Wd, listOf #[Value.str w0 tw0, .str w1 tw1] nW) :: (L + 1 + 1 + 1, oN) :: (z.led w us n ln tl pbs np ++ [(104, tabObj (lamTab z.cc))])))
  (I0 : IntsAre u0 (foundAt (cs w0) body i)) (I1 : IntsAre u1 (foundAt (cs w1) body i)) (hoN : oN.data = .cell v) (hT : TokA w0 w1 r0 r2 i us ln pbs)
  (fa : Nat) (cd : Value) (g : Heap) (s : Shared) (Q : Flow → Shared → Prop) (E : Value → Shared → Prop) (kMark : KstMark)
  (B : Below callerA g [] g) (T : Top p loose mean mg mb g) (X : (Mine.hd.heap_39 w.params).In g) (codeHd : CodeHd g 108 104)
  (hE : PassesOwn (model PySem.Challenge.rw_rw0047_02.prog w) (callerA.deeper (envOfC (Str.ofString "law") lawS.1 L fa cd)) (envOfC (Str.ofString "law") lawS.1 L fa cd) E)
  (Fo : Fr g L h (fun y => if y = Str.ofString "cut" then some (.int k t) else ffr FO Wd z.x body tb m' y))
  (No : News g L h (((f0, listOf u0.toArray n0) :: (f1, listOf u1.toArray n1) :: (FO, listOf #[.ref f0, .ref f1] 0) :: (Wd, listOf #[Value.str w0 tw0, .str w1 tw1] nW) :: (L + 1 + 1 + 1, oN) :: (z.led w us n ln tl pbs np ++ [(104, tabObj (lamTab z.cc))])) ++ own)) :
  wpAny (model PySem.Challenge.rw_rw0047_02.prog w) (callerA.deeper (envOfC (Str.ofString "law") lawS.1 L fa cd))
    (execs lawFb.1 (envOfC (Str.ofString "law") lawS.1 L fa cd)) (TbPost g L (LoopJ w z w0 w1 body tb f0 f1 FO Wd (L + 1 + 1 + 1) (listOf #[Value.str w0 tw0, .str w1 tw1] nW) r0 r2 (i + 1)) own { s with heap := h, toks := tk } Q) E { s with heap := h, toks := tk } := by
  revert X; k_fill; intro X
  have F : Fr g L h (fun y => if y = Str.ofString "cut" then some (.int k t) else ffr FO Wd z.x body tb m' y) := Fo
  have N : News g L h ((f0, listOf u0.toArray n0) :: (f1, listOf u1.toArray n1) :: (FO, listOf #[.ref f0, .ref f1] 0) :: (Wd, listOf #[Value.str w0 tw0, .str w1 tw1] nW) :: (L + 1 + 1 + 1, oN) :: (z.led w us n ln tl pbs np ++ ((104, tabObj (lamTab z.cc)) :: own))) := fun q hq => No q (mem_6 hq)
  clear Fo No
  have hzk : ∀ a b c d e : Obj, z.Ok ((f0, a) :: (f1, b) :: (FO, c) :: (Wd, d) :: (L + 1 + 1 + 1, e) :: (104, tabObj (lamTab z.cc)) :: own) := by
    intro a b c d e
    refine ok_addr (hz oN) fun p hp => ?_
    simp only [List.mem_cons] at hp
    rcases hp with rfl | rfl | rfl | rfl | rfl | rfl | hp
    · exact .inl ⟨_, .head _, rfl⟩
    · exact .inl ⟨_, .tail _ (.head _), rfl⟩
    · exact .inl ⟨_, .tail _ (.tail _ (.head _)), rfl⟩
    · exact .inl ⟨_, .tail _ (.tail _ (.tail _ (.head _))), rfl⟩
    · exact .inl ⟨_, .tail _ (.tail _ (.tail _ (.tail _ (.head _)))), rfl⟩
    · exact .inl ⟨_, .tail _ (.tail _ (.tail _ (.tail _ (.tail _ (.head _))))), rfl⟩
    · exact .inr ⟨hoff p hp _ (by simp : (z.cl, listOf us.toArray n) ∈ _), hoff p hp (z.dx, _) (.tail _ (.tail _ (.tail _ (.tail _ (.tail _ (.tail _ (.tail _ (.head _)))))))), hoff p hp (z.pb, _) (.tail _ (.tail _ (.tail _ (.tail _ (.tail _ (.head _))))))⟩
  have hof : OwnOff own [f0, f1, L + 1 + 1 + 1] := by
    intro p hp b hb
    simp only [List.mem_cons, List.not_mem_nil, or_false] at hb
    rcases hb with rfl | rfl | rfl
    · exact hoff p hp (_, _) (.head _)
    · exact hoff p hp (_, _) (.tail _ (.head _))
    · exact hoff p hp (_, _) (.tail _ (.tail _ (.tail _ (.tail _ (.head _)))))
  have a1 := Nat.lt_trans o2 o3
  have a2 := Nat.lt_trans o7 (Nat.lt_trans (hz oN).ups.2.2.2.2.2.2.2.2 o1)
  have a3 := Nat.lt_trans a2 o2
  have a4 := Nat.lt_trans o4 o2
  have a5 := Nat.lt_trans o10 a2
  have b0 : Offs f0 (f1 :: FO :: Wd :: (L + 1 + 1 + 1) :: z.pb :: z.x :: z.dx :: z.fn :: z.cc :: z.pb2 :: z.f :: z.df :: z.cl :: z.ce :: 104 :: own.map Prod.fst) :=
    .cons (Nat.ne_of_gt o2) (.cons (Nat.ne_of_gt a1) (.cons (Nat.ne_of_lt o4) (.cons (Nat.ne_of_lt a2) ((hz oN).offU o1 (.cons (Nat.ne_of_lt a5) (offs_own (hof.ne (.head _))))))))
  have b1 : Offs f1 (f0 :: FO :: Wd :: (L + 1 + 1 + 1) :: z.pb :: z.x :: z.dx :: z.fn :: z.cc :: z.pb2 :: z.f :: z.df :: z.cl :: z.ce :: 104 :: own.map Prod.fst) :=
    .cons (Nat.ne_of_lt o2) (.cons (Nat.ne_of_gt o3) (.cons (Nat.ne_of_lt a4) (.cons (Nat.ne_of_lt a3) ((hz oN).offU (Nat.lt_trans o1 o2) (.cons (Nat.ne_of_lt (Nat.lt_trans a5 o2)) (offs_own (hof.ne (.tail _ (.head _)))))))))
  have b2 : Offs (L + 1 + 1 + 1) (f0 :: f1 :: FO :: Wd :: z.pb :: z.x :: z.dx :: z.fn :: z.cc :: z.pb2 :: z.f :: z.df :: z.cl :: z.ce :: 104 :: own.map Prod.fst) :=
    .cons (Nat.ne_of_gt a2) (.cons (Nat.ne_of_gt a3) (.cons (Nat.ne_of_gt (Nat.lt_trans a3 o3)) (.cons (Ne.symm o5) ((hz oN).offD o7 o9 (.cons (Nat.ne_of_lt o10) (offs_own (hof.ne (.tail _ (.tail _ (.head _))))))))))
  have hk0 : 0 ≤ k := by omega
  have hk1 : k ≤ body.length := by omega
  have hks : (Txt.slice body none (some k)).length ≤ 10 := by rw [← cs_len, slice_to hk0 hk1, List.length_take, cs_len]; omega
  have hkn := nameS_len (Txt.slice body none (some k))
  have hkc := cs_cut hk0 hk1
  have hzo := hz oN
  obtain ⟨z0, z1, z2, z3, z4, z5, z6, z7, z8, z9, zcell, zcode⟩ := hzo
  clear z0
  have lu0 := I0.length
  have lu1 := I1.length
  have lf0 := found_le (cs w0) body i (by omega)
  have lf1 := found_le (cs w1) body i (by omega)
  dsimp only [lawFb]
  have hsm := found_same (cs w0) (cs w1) body i (by omega)
  k_steps
  all_goals try exact absurd (by assumption) (show ¬ ((_ : Str) != _) = true by simp)
  · rename News _ _ _ _ => N4
    rename Fr _ _ _ _ => F4
    rename (_ = Data.cell (some (Value.str (nameS _) _))) => d9
    rename (((nameS _).length : Int) = _) => hq
    simp only [List.push_toArray] at N4
    with_unfolding_all refine' loop_end F4 N4 hoff ?he (fun q hq => .tail _ (mem_sub hq)) (fun q hq => .tail _ (mem_own hq)) ?hJ
    case he => rfl
    case hJ => exact ⟨_, _, _, _, _, _, _, r2, _, _, _, _, _, _, found_up hk hkc I0 (by rw [hq, lu0]), found_up hk hkc I1 (by rw [hq, lu0, hsm]), d9, fun _ => ⟨_, _, rfl, by rw [hkc, hk]; rfl⟩, by assumption, by assumption, .inr ⟨Nat.succ_pos _, ⟨_, _, rfl⟩, rfl⟩, ffr_eq (by with_unfolding_all rfl) (by with_unfolding_all rfl) (by with_unfolding_all rfl) (by with_unfolding_all rfl), rfl⟩
  · rename News _ _ _ _ => N4
    rename Fr _ _ _ _ => F4
    rename (_ = Data.cell (some (Value.str (nameS _) _))) => d9
    rename (((nameS _).length : Int) ≠ _) => hq
    rcases hT with ⟨t0, t1, rfl, hs, hln⟩ | ⟨rfl, _, _, _⟩
    · with_unfolding_all refine' loop_end F4 N4 hoff ?he (fun q hq => mem_sub hq) (fun q hq => mem_own hq) ?hJ
      case he => rfl
      case hJ => exact ⟨_, _, _, _, _, _, us, r2, n, ln, tl, _, _, _, found_stay hk hkc I0 (by rw [← lu0]; exact hq), found_stay hk hkc I1 (by rw [← hsm, ← lu0]; exact hq), d9, fun _ => ⟨_, _, rfl, by rw [hkc, hk]; rfl⟩, hs, hln, .inr ⟨Nat.succ_pos _, ⟨_, _, rfl⟩, rfl⟩, ffr_eq (by with_unfolding_all rfl) (by with_unfolding_all rfl) (by with_unfolding_all rfl) (by with_unfolding_all rfl), rfl⟩
    · exfalso
      have h1 : (Txt.slice body none (some k)).length = 0 := by rw [← cs_len, slice_to hk0 hk1, List.length_take, hk]; simp
      have h2 : (foundAt (cs w0) body 0).length = 0 := rfl
      rw [h2] at lu0
      rw [h1] at hkn
      rw [Nat.le_zero.mp hkn, lu0] at hq
      exact hq rfl
end
section
theorem calm_L2loopw2 : True ∧ True := by
  w_top off
  k_with_none
  first
    | (walk1; fail)
    | exact ⟨trivial, trivial⟩
theorem rows_L2loopw2_ne : True := by
  k_with "ne" => (refine neN ?_; (try dsimp only); first | (exact Nat.ne_of_gt (And.left (by assumption))) | (exact Nat.ne_of_gt (And.left (And.right (by assumption)))) | (exact Nat.ne_of_gt (And.right (by assumption))) | (exact Nat.ne_of_gt (And.left (And.right (And.right (by assumption))))) | (exact Nat.ne_of_gt (And.right (And.right (by assumption)))) | (exact Nat.ne_of_gt (And.left (And.right (And.right (And.right (by assumption)))))) | (exact Nat.ne_of_gt (And.right (And.right (And.right (by assumption))))) | (exact Nat.ne_of_gt (And.left (And.right (And.right (And.right (And.right (by assumption))))))) | (exact Nat.ne_of_gt (And.right (And.right (And.right (And.right (by assumption)))))) | (exact Nat.ne_of_gt (And.left (And.right (And.right (And.right (And.right (And.right (by assumption)))))))) | (exact Nat.ne_of_gt (And.right (And.right (And.right (And.right (And.right (by assumption))))))) | (exact Nat.ne_of_gt (And.left (And.right (And.right (And.right (And.right (And.right (And.right (by assumption))))))))) | (exact Nat.ne_of_gt (And.right (And.right (And.right (And.right (And.right (And.right (by assumption)))))))) | (exact Nat.ne_of_gt (And.left (And.right (And.right (And.right (And.right (And.right (And.right (And.right (by assumption)))))))))) | (exact Nat.ne_of_gt (And.right (And.right (And.right (And.right (And.right (And.right (And.right (by assumption))))))))) | (exact Nat.ne_of_gt (And.left (And.right (And.right (And.right (And.right (And.right (And.right (And.right (And.right (by assumption))))))))))) | (exact Nat.ne_of_gt (And.right (And.right (And.right (And.right (And.right (And.right (And.right (And.right (by assumption)))))))))) | (exact Nat.ne_of_gt (And.left (And.right (And.right (And.right (And.right (And.right (And.right (And.right (And.right (And.right (by assumption)))))))))))) | (exact Nat.ne_of_gt (And.right (And.right (And.right (And.right (And.right (And.right (And.right (And.right (And.right (by assumption))))))))))) | (exact Nat.ne_of_lt (And.left (by assumption))) | (exact Nat.ne_of_lt (And.left (And.right (by assumption)))) | (exact Nat.ne_of_lt (And.right (by assumption))) | (exact Nat.ne_of_lt (And.left (And.right (And.right (by assumption))))) | (exact Nat.ne_of_lt (And.right (And.right (by assumption)))) | (exact Nat.ne_of_lt (And.left (And.right (And.right (And.right (by assumption)))))) | (exact Nat.ne_of_lt (And.right (And.right (And.right (by assumption))))) | (exact Nat.ne_of_lt (And.left (And.right (And.right (And.right (And.right (by assumption))))))) | (exact Nat.ne_of_lt (And.right (And.right (And.right (And.right (by assumption)))))) | (exact Nat.ne_of_lt (And.left (And.right (And.right (And.right (And.right (And.right (by assumption)))))))) | (exact Nat.ne_of_lt (And.right (And.right (And.right (And.right (And.right (by assumption))))))) | (exact Nat.ne_of_lt (And.left (And.right (And.right (And.right (And.right (And.right (And.right (by assumption))))))))) | (exact Nat.ne_of_lt (And.right (And.right (And.right (And.right (And.right (And.right (by assumption)))))))) | (exact Nat.ne_of_lt (And.left (And.right (And.right (And.right (And.right (And.right (And.right (And.right (by assumption)))))))))) | (exact Nat.ne_of_lt (And.right (And.right (And.right (And.right (And.right (And.right (And.right (by assumption))))))))) | (exact Nat.ne_of_lt (And.left (And.right (And.right (And.right (And.right (And.right (And.right (And.right (And.right (by assumption))))))))))) | (exact Nat.ne_of_lt (And.right (And.right (And.right (And.right (And.right (And.right (And.right (And.right (by assumption)))))))))) | (exact Nat.ne_of_lt (And.left (And.right (And.right (And.right (And.right (And.right (And.right (And.right (And.right (And.right (by assumption)))))))))))) | (exact Nat.ne_of_lt (And.right (And.right (And.right (And.right (And.right (And.right (And.right (And.right (And.right (by assumption))))))))))))
  trivial
theorem rows_L2loopw2_18 : True := by
  k_with "pyIter ref" => (k_here; refine hold_of ?_)
  trivial
theorem law_loop (w : World) (news : CbLed) (loose : List Str) (mean : ExcName → Option Value) (mg mb : Str → Option Value) (p : Program) (z : Lx) (w0 w1 body : Str) (tb : CbTok) (f0 f1 FO Wd : Nat) (L : Nat) (tw0 tw1 nW : Nat) (oN : Obj) (v0 : Option Value) (hoN : oN.data = .cell v0) (r0 r1 r2 : List Nat)
  (hb : body.length ≤ 10) (hso0 : PyData.strOk w0 = true) (hso1 : PyData.strOk w1 = true) (hw0 : w0.length ≤ 3) (hw1 : w1.length ≤ 3) (hr0 : gtT r0 = (cs w0, r1)) (hr1 : gtT r1 = (cs w1, r2)) (hl0 : r0.length ≤ 900) (hl1 : r1.length ≤ 900)
  (hz : ∀ oN : Obj, z.Ok [(f0, oN), (f1, oN), (FO, oN), (Wd, oN), (L + 1 + 1 + 1, oN), (104, oN)]) (o1 : z.pb < f0) (o2 : f0 < f1) (o3 : f1 < FO) (o4 : Wd < f0) (o5 : L + 1 + 1 + 1 ≠ Wd) (o6 : 104 < z.ce) (o7 : L + 1 + 1 + 1 < z.ce) (o8 : Wd < z.ce) (o9 : z.pb2 < z.cc) (o10 : 104 < L + 1 + 1 + 1)
  (us : List Value) (n tl np : Nat) (ln : Int) (hs : SigAre us r0) (hln : ln + cnt r0 = 3) (n0 n1 : Nat)
  (fa : Nat) (cd : Value) (g h : Heap) (mm : Str → Option Value) (s : Shared) (tk0 : Nat) (Q : Flow → Shared → Prop) (E : Value → Shared → Prop) (kMark : KstMark)
  (B : Below callerA g [] g) (T : Top p loose mean mg mb g) (X : (Mine.hd.heap_39 w.params).In g) (codeHd : CodeHd g 108 104)
  (F : Fr g L h (ffr FO Wd z.x body tb mm))
  (N : News g L h ((f0, listOf #[] n0) :: (f1, listOf #[] n1) :: (FO, listOf #[.ref f0, .ref f1] 0) :: (Wd, listOf #[Value.str w0 tw0, .str w1 tw1] nW) :: (L + 1 + 1 + 1, oN) :: (z.led w us n ln tl [] np ++ [(104, tabObj (lamTab z.cc))])))
  (hE : PassesOwn (model PySem.Challenge.rw_rw0047_02.prog w) (callerA.deeper (envOfC (Str.ofString "law") lawS.1 L fa cd)) (envOfC (Str.ofString "law") lawS.1 L fa cd) E)
  (hend : ∀ m' h' tk' u0 u1 n0 n1 oN x t us n ln tl np t0 t1, IntsAre u0 (lineOf (cs w0) (cs (nameS body))) → IntsAre u1 (lineOf (cs w1) (cs (nameS body))) → oN.data = .cell (some (.str x t)) → x = nameS body → SigAre us r2 → ln + cnt r2 = 3 → Fr g L h' (ffr FO Wd z.x body tb m') →
    News g L h' ((f0, listOf u0.toArray n0) :: (f1, listOf u1.toArray n1) :: (FO, listOf #[.ref f0, .ref f1] 0) :: (Wd, listOf #[Value.str w0 tw0, .str w1 tw1] nW) :: (L + 1 + 1 + 1, oN) :: (z.led w us n ln tl [.str w0 t0, .str w1 t1] np ++ [(104, tabObj (lamTab z.cc))])) → Q .next { s with heap := h', toks := tk' }) :
  wpAny (model PySem.Challenge.rw_rw0047_02.prog w) (callerA.deeper (envOfC (Str.ofString "law") lawS.1 L fa cd))
    (exec lawF.1 (envOfC (Str.ofString "law") lawS.1 L fa cd)) Q E { s with heap := h, toks := tk0 } := by
  revert X; k_fill; intro X
  refine For_invV g (by rfl) (by rfl) ?_ (by intro _; rfl) hE
  k_steps
  rename IsRange _ _ _ _ _ _ _ _ => hR
  rename Fr _ _ _ _ => FF
  rename News _ _ _ _ => NN
  show wpAny _ _ _ _ _ _
  refine tbr_invG (LoopJ w z w0 w1 body tb f0 f1 FO Wd (L + 1 + 1 + 1) (listOf #[Value.str w0 tw0, .str w1 tw1] nW) r0 r2) (by with_unfolding_all rfl) hR (small_one (by omega) (by omega) (by omega) (by omega)) (n := body.length + 1) (by rw [rangeSize_nat]; omega) FF NN ?_ ?_ ?_
  · exact ⟨[], [], n0, n1, oN, v0, us, r0, n, ln, tl, np, [], mm, .nil, .nil, hoN, fun h => absurd h (Nat.lt_irrefl _), hs, hln, .inl ⟨rfl, rfl, rfl⟩, rfl, rfl⟩
  · clear FF NN hR hs hln hoN
    rintro i k t m₁ nx h tk own hk hoff ⟨u0, u1, n0, n1, oN, v, us, r, n, ln, tl, np, pbs, m', I0, I1, hoN, hv, hs, hln, hcase, rfl, rfl⟩ F N
    obtain ⟨hi, hk⟩ := rk_of hk
    have hT : TokA w0 w1 r0 r2 i us ln pbs := by
      rcases hcase with ⟨rfl, rfl, rfl⟩ | ⟨hi0, ⟨t0, t1, rfl⟩, rfl⟩
      · exact .inr ⟨rfl, rfl, hs, hln⟩
      · exact .inl ⟨_, _, rfl, hs, hln⟩
    exact law_turn w [] loose mean mg mb p z w0 w1 body tb f0 f1 FO Wd L tw0 tw1 nW r0 r1 r2 hb hso0 hso1 hw0 hw1 hr0 hr1 hl0 hl1 hz o1 o2 o3 o4 o5 o6 o7 o8 o9 o10 i k t h tk own hi hk u0 u1 n0 n1 oN v us n ln tl np pbs m' hoff I0 I1 hoN hT fa cd g s Q E kMark B T X codeHd hE F N
  · rintro m₁ nx h' tk ⟨u0, u1, n0, n1, oN, v, us, r, n, ln, tl, np, pbs, m', I0, I1, hoN, hv, hs, hln, hcase, rfl, rfl⟩ F N
    rcases hcase with ⟨h0, _, _⟩ | ⟨hi0, ⟨t0, t1, rfl⟩, rfl⟩
    · exact absurd h0 (Nat.succ_ne_zero _)
    · obtain ⟨x, t, rfl, hx⟩ := hv hi0
      have hle : body.length + 1 = (cs body).length + 1 := by rw [cs_len]
      rw [hle, found_end] at I0 I1
      refine hend m' h' tk u0 u1 n0 n1 oN x t us n ln tl np t0 t1 I0 I1 hoN (str_ext ?_) hs hln F N
      rw [hx]
      show nmGo ((cs body).take (body.length + 1 - 1)) 0 = _
      rw [Nat.add_sub_cancel, List.take_of_length_le (by rw [cs_len]; exact Nat.le_refl _)]
      simp [nameS, cs]
end
section
theorem calm_L2fin2 : True ∧ True := by
  w_top off
  k_with_none
  first
    | (walk1; fail)
    | exact ⟨trivial, trivial⟩
theorem rows_L2fin2_ne : True := by
  k_with "ne" => (refine neN ?_; (try dsimp only); first | (exact Nat.ne_of_gt (And.left (by assumption))) | (exact Nat.ne_of_gt (And.left (And.right (by assumption)))) | (exact Nat.ne_of_gt (And.right (by assumption))) | (exact Nat.ne_of_gt (And.left (And.right (And.right (by assumption))))) | (exact Nat.ne_of_gt (And.right (And.right (by assumption)))) | (exact Nat.ne_of_gt (And.left (And.right (And.right (And.right (by assumption)))))) | (exact Nat.ne_of_gt (And.right (And.right (And.right (by assumption))))) | (exact Nat.ne_of_gt (And.left (And.right (And.right (And.right (And.right (by assumption))))))) | (exact Nat.ne_of_gt (And.right (And.right (And.right (And.right (by assumption)))))) | (exact Nat.ne_of_gt (And.left (And.right (And.right (And.right (And.right (And.right (by assumption)))))))) | (exact Nat.ne_of_gt (And.right (And.right (And.right (And.right (And.right (by assumption))))))) | (exact Nat.ne_of_gt (And.left (And.right (And.right (And.right (And.right (And.right (And.right (by assumption))))))))) | (exact Nat.ne_of_gt (And.right (And.right (And.right (And.right (And.right (And.right (by assumption)))))))) | (exact Nat.ne_of_gt (And.left (And.right (And.right (And.right (And.right (And.right (And.right (And.right (by assumption)))))))))) | (exact Nat.ne_of_gt (And.right (And.right (And.right (And.right (And.right (And.right (And.right (by assumption))))))))) | (exact Nat.ne_of_gt (And.left (And.right (And.right (And.right (And.right (And.right (And.right (And.right (And.right (by assumption))))))))))) | (exact Nat.ne_of_gt (And.right (And.right (And.right (And.right (And.right (And.right (And.right (And.right (by assumption)))))))))) | (exact Nat.ne_of_gt (And.left (And.right (And.right (And.right (And.right (And.right (And.right (And.right (And.right (And.right (by assumption)))))))))))) | (exact Nat.ne_of_gt (And.right (And.right (And.right (And.right (And.right (And.right (And.right (And.right (And.right (by assumption))))))))))) | (exact Nat.ne_of_lt (And.left (by assumption))) | (exact Nat.ne_of_lt (And.left (And.right (by assumption)))) | (exact Nat.ne_of_lt (And.right (by assumption))) | (exact Nat.ne_of_lt (And.left (And.right (And.right (by assumption))))) | (exact Nat.ne_of_lt (And.right (And.right (by assumption)))) | (exact Nat.ne_of_lt (And.left (And.right (And.right (And.right (by assumption)))))) | (exact Nat.ne_of_lt (And.right (And.right (And.right (by assumption))))) | (exact Nat.ne_of_lt (And.left (And.right (And.right (And.right (And.right (by assumption))))))) | (exact Nat.ne_of_lt (And.right (And.right (And.right (And.right (by assumption)))))) | (exact Nat.ne_of_lt (And.left (And.right (And.right (And.right (And.right (And.right (by assumption)))))))) | (exact Nat.ne_of_lt (And.right (And.right (And.right (And.right (And.right (by assumption))))))) | (exact Nat.ne_of_lt (And.left (And.right (And.right (And.right (And.right (And.right (And.right (by assumption))))))))) | (exact Nat.ne_of_lt (And.right (And.right (And.right (And.right (And.right (And.right (by assumption)))))))) | (exact Nat.ne_of_lt (And.left (And.right (And.right (And.right (And.right (And.right (And.right (And.right (by assumption)))))))))) | (exact Nat.ne_of_lt (And.right (And.right (And.right (And.right (And.right (And.right (And.right (by assumption))))))))) | (exact Nat.ne_of_lt (And.left (And.right (And.right (And.right (And.right (And.right (And.right (And.right (And.right (by assumption))))))))))) | (exact Nat.ne_of_lt (And.right (And.right (And.right (And.right (And.right (And.right (And.right (And.right (by assumption)))))))))) | (exact Nat.ne_of_lt (And.left (And.right (And.right (And.right (And.right (And.right (And.right (And.right (And.right (And.right (by assumption)))))))))))) | (exact Nat.ne_of_lt (And.right (And.right (And.right (And.right (And.right (And.right (And.right (And.right (And.right (by assumption))))))))))))
  trivial
noncomputable def lawD : {l : List Stmt // lawB.1.drop 8 = l} := by
  apply Subtype.mk
  conv => lhs; whnf
theorem ok_3 {x y : Str} (hx : PyData.strOk x = true) (hy : PyData.strOk y = true) : ∀ z ∈ [x, y, Str.ofString ""], PyData.strOk z = true := by
  intro z hz
  simp only [List.mem_cons, List.not_mem_nil, or_false] at hz
  rcases hz with h | h | h
  · rw [h]; exact hx
  · rw [h]; exact hy
  · rw [h]; decide +kernel
theorem comp_row {h₀ h' : Heap} {L I C D R : Addr} {m : Str → Option Value} {s₁ : Shared} {oI oC oD oR : Obj} {S : List (Addr × Obj) → Prop} {rest : Value → List (Addr × Obj) → Prop} {y : Value} {tk : Nat} {news : List (Addr × Obj)}
    (F : Fr h₀ L h' m) (N : News h₀ L h' ((R, oR) :: (I, oI) :: (C, oC) :: (D, oD) :: news)) (off : LCg.Off3 I C D news) (hl : ∀ q ∈ (I, oI) :: (C, oC) :: (D, oD) :: news, @LT.lt Nat _ q.1 R) (hS : S ((R, oR) :: news)) (r : rest y ((R, oR) :: news)) :
    LCg.CompEnd h₀ L m s₁ I oI C oC D oD S rest y { s₁ with heap := h', toks := tk } := by
  refine LCg.CompEnd.intro F N ((R, oR) :: news) (fun q hq => ?_) ⟨⟨Nat.ne_of_gt (hl _ (.head _)), Nat.ne_of_gt (hl _ (.tail _ (.head _))), Nat.ne_of_gt (hl _ (.tail _ (.tail _ (.head _))))⟩, off⟩ hS r
  simp only [List.mem_cons] at hq ⊢
  rcases hq with h | h | h | h | h <;> simp [h]
theorem mem_re {α : Type} {a b c d e f q : α} {l : List α} (h : q ∈ a :: b :: c :: d :: e :: (l ++ [f])) : q ∈ c :: b :: a :: (l ++ [f, d, e]) := by
  have h : q ∈ [a, b, c] ++ ([d, e] ++ (l ++ [f])) := h
  show q ∈ [c, b, a] ++ (l ++ ([f] ++ [d, e]))
  rcases List.mem_append.mp h with h | h
  · exact List.mem_append_left _ (List.mem_reverse.mpr h)
  rcases List.mem_append.mp h with h | h
  · exact List.mem_append_right _ (List.mem_append_right _ (List.mem_append_right _ h))
  rcases List.mem_append.mp h with h | h
  · exact List.mem_append_right _ (List.mem_append_left _ h)
  · exact List.mem_append_right _ (List.mem_append_right _ (List.mem_append_left _ h))
theorem ffr_pack {g h : Heap} {L : Addr} {m : Str → Option Value} {FO Wd zx : Nat} {body : Str} {tb : CbTok} (F : Fr g L h m) (a : m (Str.ofString "found") = some (.ref FO)) (b : m (Str.ofString "words") = some (.ref Wd)) (c : m (Str.ofString "lexer") = some (.ref zx)) (d : m (Str.ofString "body") = some (.str body tb)) : Fr g L h (ffr FO Wd zx body tb m) :=
  (ffr_eq a b c d) ▸ F
theorem rows_L2fin2_19 : True := by
  k_with "call ref" => (k_here; refine hold_of ?_)
  k_with "call ref" => ((with_reducible show wpAny _ _ (call (Value.ref 88) _) _ _ _); k_here; (with_unfolding_all refine' gt5 _ _ _ _ _ _ _ _ _ _ _ _ _ _ _ _ _ _ _ _ _ _ _ _ _ _ _ ?p1 ?p2 ?p3 ?p4 ?p5 ?p6 _ _ _ _ _ _ _ _ _ _ _ _ _ _ _ _ _ ?k1 ?k2 ?k3 ?k4 ?k5 ?k6 ?k7 ?k8 ?_ ?k9); (case k2 => first | k_asm | with_unfolding_all assumption); (case k4 => first | k_asm | with_unfolding_all assumption); (case p5 => with_unfolding_all rfl); (case k1 => first | k_asm | with_unfolding_all assumption); (case k3 => k_asm); (case k5 => k_asm); (case k6 => with_unfolding_all rfl); (case k7 => ktr_room); (case k8 => ktr_units); (case p1 => assumption); (case p2 => assumption); (case p4 => assumption); (case p3 => omega); (case p6 => assumption); (case k9 => assumption); intro tqRow hqRow tkqRow usqRow nqRow lnqRow tlqRow e2qRow e3qRow FqRow NqRow; (try dsimp only [Lx.led, lamP, lamB, lamS] at NqRow); (try simp only [List.cons_append, List.nil_append] at NqRow))
  k_with "call ref" => ((with_reducible show wpAny _ _ (call (Value.ref 88) _) _ _ _); k_here; (with_unfolding_all refine' pop5 _ _ _ _ _ _ _ _ _ _ _ _ _ _ _ _ _ _ _ _ _ _ _ _ _ _ ?p1 ?p3 ?p5 ?p6 _ _ _ _ _ _ _ _ _ _ _ _ _ _ _ _ _ ?k1 ?k2 ?k3 ?k4 ?k5 ?k6 ?k7 ?k8 ?_ ?k9); (case k2 => first | k_asm | with_unfolding_all assumption); (case k4 => first | k_asm | with_unfolding_all assumption); (case p5 => with_unfolding_all rfl); (case k1 => first | k_asm | with_unfolding_all assumption); (case k3 => k_asm); (case k5 => k_asm); (case k6 => with_unfolding_all rfl); (case k7 => ktr_room); (case k8 => ktr_units); (case p1 => assumption); (case p3 => (simp only [List.length_cons, List.length_nil]; omega)); (case p6 => assumption); (case k9 => assumption); intro hqRow tkqRow FqRow NqRow; (try dsimp only [Lx.led, lamP, lamB, lamS] at NqRow); (try simp only [List.cons_append, List.nil_append] at NqRow))
  k_with "compareOp NotEq ref ref" => (k_here; (with_unfolding_all refine' ne_txts ?h1 ?h2 ?h3 ?h4 ?h5 ?h6 ?h7 ?_); (case h1 => k_asm); (case h2 => with_unfolding_all k_mem); (case h3 => with_unfolding_all k_mem); (case h4 => with_unfolding_all exact .cons _ _ (.cons _ _ (.cons _ _ .nil))); (case h5 => with_unfolding_all exact .cons _ _ (.cons _ _ (.cons _ _ .nil))); (case h6 => exact ok_3 (by assumption) (by assumption)); (case h7 => ke_room))
  k_with "eval ListComp" => (k_here; k_dflt (refine LCg.ListComp_U (F₀ := by k_asm) (by with_unfolding_all rfl) (by decide) (by rfl) (by decide) (by rfl) ?_); k_dflt lcg_toSrc)
  k_with "CompSrc" => (k_here; (k_dflt (refine LCg.CompSrc.ledger (by rfl) (by k_asm) (by k_asm) (by k_mem) (by first | size_fits | exact Nat.le_of_ble_eq_true rfl) ?_)); intro gqRow; lcg_lit)
  k_with "CompRest" => (with_unfolding_all first
    | (refine LCg.CompRest.succ ?_; intro vqRow IqRow oIqRow CqRow oCqRow DqRow mqRow hqRow tkqRow EqRow hvqRow hCqRow hxqRow FqRow NqRow offqRow neqRow; (first | lcg_open hvqRow | (obtain ⟨t9qRow, hv9qRow⟩ := hvqRow; subst hv9qRow)))
    | refine LCg.CompRest.zero ?_)
  k_with "CompEnd" => (with_unfolding_all refine' comp_row ?c1 ?c2 ?c3 ?c4 ?c5 ?_; (case c1 => assumption); (case c2 => assumption); (case c3 => assumption); (case c4 => assumption); (case c5 => lcg_src))
  k_with "call ref" => ((with_reducible show wpAny _ _ (call (Value.ref 140) _) _ _ _); k_here; (with_unfolding_all refine' row_walk _ _ _ _ _ _ _ _ _ _ _ ?p0 ?p1 ?p2 _ _ _ _ _ _ _ _ _ _ _ _ _ _ _ _ _ ?k1 ?k2 ?k3 ?k4 ?k5 ?k6 ?k7 ?k8 ?_); (case k2 => first | k_asm | with_unfolding_all assumption); (case k4 => first | k_asm | with_unfolding_all assumption); (case k1 => first | k_asm | with_unfolding_all assumption); (case k3 => k_asm); (case k5 => k_asm); (case k6 => with_unfolding_all rfl); (case k7 => ktr_room); (case k8 => ktr_units); (case p0 => omega); (case p1 => omega); (case p2 => exact kstMark); intro RqRow vsqRow cqRow hqRow tkqRow hIqRow l1qRow FqRow NqRow; (have l2qRow := l1qRow); (try k_lt l1qRow))
  k_with "compareOp Eq ref ref" => (k_here; (with_unfolding_all refine' eq_rows ?h1 ?h2 ?h3 ?h4 ?h5 ?h6 ?h7 ?i1 ?i2 ?i3 ?i4 ?h8 ?_); (case h1 => k_asm); (case h2 => with_unfolding_all k_mem); (case h3 => with_unfolding_all k_mem); (case h4 => with_unfolding_all k_mem); (case h5 => with_unfolding_all k_mem); (case h6 => with_unfolding_all k_mem); (case h7 => with_unfolding_all k_mem); (case i1 => assumption); (case i2 => assumption); (case i3 => assumption); (case i4 => assumption); (case h8 => ke_room))
  trivial
theorem law_fin (w : World) (news : CbLed) (loose : List Str) (mean : ExcName → Option Value) (mg mb : Str → Option Value) (p : Program) (z : Lx) (w0 w1 body : Str) (tb : CbTok) (f0 f1 FO Wd : Nat) (L : Nat) (tw0 tw1 nW : Nat) (r2 : List Nat) (hb : body.length ≤ 10) (hso0 : PyData.strOk w0 = true) (hso1 : PyData.strOk w1 = true) (hw0 : w0.length ≤ 3) (hw1 : w1.length ≤ 3)
  (hr2 : gtT r2 = (cs (Str.ofString ""), [])) (hl2 : r2.length ≤ 900)
  (hz : ∀ oN : Obj, z.Ok [(f0, oN), (f1, oN), (FO, oN), (Wd, oN), (L + 1 + 1 + 1, oN), (104, oN)]) (o1 : z.pb < f0) (o2 : f0 < f1) (o3 : f1 < FO) (o4 : Wd < f0) (o5 : L + 1 + 1 + 1 ≠ Wd) (o6 : 104 < z.ce) (o7 : L + 1 + 1 + 1 < z.ce) (o8 : Wd < z.ce) (o9 : z.pb2 < z.cc) (o10 : 104 < L + 1 + 1 + 1)
  (u0 u1 : List Value) (n0 n1 : Nat) (oN : Obj) (x : Str) (t : CbTok) (us : List Value) (n : Nat) (ln : Int) (tl np : Nat) (t0 t1 : CbTok) (I0 : IntsAre u0 (lineOf (cs w0) (cs (nameS body)))) (I1 : IntsAre u1 (lineOf (cs w1) (cs (nameS body)))) (hoN : oN.data = .cell (some (.str (nameS body) t))) (hs : SigAre us r2) (hln : ln + cnt r2 = 3)
  (fa : Nat) (cd : Value) (g h : Heap) (mm : Str → Option Value) (s : Shared) (tk0 : Nat) (Q : Flow → Shared → Prop) (E : Value → Shared → Prop) (kMark : KstMark)
  (B : Below callerA g [] g) (T : Top p loose mean mg mb g) (X : (Mine.hd.heap_39 w.params).In g) (codeHd : CodeHd g 108 104)
  (F : Fr g L h (ffr FO Wd z.x body tb mm))
  (No : News g L h ((f0, listOf u0.toArray n0) :: (f1, listOf u1.toArray n1) :: (FO, listOf #[.ref f0, .ref f1] 0) :: (Wd, listOf #[Value.str w0 tw0, .str w1 tw1] nW) :: (L + 1 + 1 + 1, oN) :: (z.led w us n ln tl [.str w0 t0, .str w1 t1] np ++ [(104, tabObj (lamTab z.cc))])))
  (hE : PassesOwn (model PySem.Challenge.rw_rw0047_02.prog w) (callerA.deeper (envOfC (Str.ofString "law") lawS.1 L fa cd)) (envOfC (Str.ofString "law") lawS.1 L fa cd) E)
  (hend : ∀ m' h' tk' ps, Fr g L h' m' → News g L h' [(104, tabObj ps)] → Q (.ret (.bool true)) { s with heap := h', toks := tk' }) :
  wpAny (model PySem.Challenge.rw_rw0047_02.prog w) (callerA.deeper (envOfC (Str.ofString "law") lawS.1 L fa cd))
    (execs lawD.1 (envOfC (Str.ofString "law") lawS.1 L fa cd)) Q E { s with heap := h, toks := tk0 } := by
  revert X; k_fill; intro X
  have N := No
  clear No
  have hzk : ∀ a b c d e : Obj, z.Ok ((f0, a) :: (f1, b) :: (FO, c) :: (Wd, d) :: (L + 1 + 1 + 1, e) :: [(104, tabObj (lamTab z.cc))]) := by
    intro a b c d e
    refine ok_addr (hz oN) fun p hp => ?_
    simp only [List.mem_cons, List.not_mem_nil, or_false] at hp
    rcases hp with rfl | rfl | rfl | rfl | rfl | rfl
    · exact .inl ⟨_, .head _, rfl⟩
    · exact .inl ⟨_, .tail _ (.head _), rfl⟩
    · exact .inl ⟨_, .tail _ (.tail _ (.head _)), rfl⟩
    · exact .inl ⟨_, .tail _ (.tail _ (.tail _ (.head _))), rfl⟩
    · exact .inl ⟨_, .tail _ (.tail _ (.tail _ (.tail _ (.head _)))), rfl⟩
    · exact .inl ⟨_, .tail _ (.tail _ (.tail _ (.tail _ (.tail _ (.head _))))), rfl⟩
  obtain ⟨z0, z1, z2, z3, z4, z5, z6, z7, z8, z9, zcell, zcode⟩ := hz oN
  clear z0
  have hnl := nameS_len body
  have hc0 : cnt ([] : List Nat) = 0 := rfl
  dsimp only [Lx.led, lamP, lamB, lamS] at N
  simp only [List.cons_append, List.nil_append] at N
  dsimp only [lawD]
  k_steps
  all_goals first
    | exact (0 : Nat)
    | (exfalso; have hl3 := ‹_ ≠ (3 : Int)›; omega)
    | (rename News _ _ _ _ => N9
       exact hend _ _ _ (lamTab z.cc) (by assumption) (fun p hp => by rw [List.mem_singleton.mp hp]; exact N9 _ (by with_unfolding_all k_mem)))
theorem law_loop2 (w : World) (news : CbLed) (loose : List Str) (mean : ExcName → Option Value) (mg mb : Str → Option Value) (p : Program) (z : Lx) (w0 w1 body : Str) (tb : CbTok) (f0 f1 FO Wd : Nat) (L : Nat) (tw0 tw1 nW : Nat) (oN : Obj) (v0 : Option Value) (hoN : oN.data = .cell v0) (r0 r1 r2 : List Nat)
  (hb : body.length ≤ 10) (hso0 : PyData.strOk w0 = true) (hso1 : PyData.strOk w1 = true) (hw0 : w0.length ≤ 3) (hw1 : w1.length ≤ 3) (hr0 : gtT r0 = (cs w0, r1)) (hr1 : gtT r1 = (cs w1, r2)) (hr2 : gtT r2 = (cs (Str.ofString ""), [])) (hl0 : r0.length ≤ 900) (hl1 : r1.length ≤ 900) (hl2 : r2.length ≤ 900)
  (oT oW oC : Obj) (hz : z.Ok [(104, oT), (Wd, oW), (L + 1 + 1 + 1, oC)]) (o1 : z.pb < f0) (o2 : f0 < f1) (o3 : f1 < FO) (o4 : Wd < f0) (o5 : L + 1 + 1 + 1 ≠ Wd) (o6 : 104 < z.ce) (o7 : L + 1 + 1 + 1 < z.ce) (o8 : Wd < z.ce) (o9 : z.pb2 < z.cc) (o10 : 104 < L + 1 + 1 + 1)
  (us : List Value) (n tl np : Nat) (ln : Int) (hs : SigAre us r0) (hln : ln + cnt r0 = 3) (n0 n1 : Nat)
  (fa : Nat) (cd : Value) (g h : Heap) (mm : Str → Option Value) (s : Shared) (tk0 : Nat) (Q : Flow → Shared → Prop) (E : Value → Shared → Prop) (kMark : KstMark)
  (B : Below callerA g [] g) (T : Top p loose mean mg mb g) (X : (Mine.hd.heap_39 w.params).In g) (codeHd : CodeHd g 108 104)
  (F : Fr g L h (ffr FO Wd z.x body tb mm))
  (N : News g L h ((FO, listOf #[.ref f0, .ref f1] 0) :: (f1, listOf #[] n1) :: (f0, listOf #[] n0) :: (z.led w us n ln tl [] np ++ [(104, tabObj (lamTab z.cc)), (Wd, listOf #[Value.str w0 tw0, .str w1 tw1] nW), (L + 1 + 1 + 1, oN)])))
  (hE : PassesOwn (model PySem.Challenge.rw_rw0047_02.prog w) (callerA.deeper (envOfC (Str.ofString "law") lawS.1 L fa cd)) (envOfC (Str.ofString "law") lawS.1 L fa cd) E)
  (hend : ∀ m' h' tk' ps, Fr g L h' m' → News g L h' [(104, tabObj ps)] → Q (.ret (.bool true)) { s with heap := h', toks := tk' }) :
  wpAny (model PySem.Challenge.rw_rw0047_02.prog w) (callerA.deeper (envOfC (Str.ofString "law") lawS.1 L fa cd))
    (exec lawF.1 (envOfC (Str.ofString "law") lawS.1 L fa cd)) (fun f s' => match f with
      | .next => wpAny (model PySem.Challenge.rw_rw0047_02.prog w) (callerA.deeper (envOfC (Str.ofString "law") lawS.1 L fa cd)) (execs lawD.1 (envOfC (Str.ofString "law") lawS.1 L fa cd)) Q E s'
      | f => Q f s') E { s with heap := h, toks := tk0 } := by
  have hz5 : ∀ oN : Obj, z.Ok [(f0, oN), (f1, oN), (FO, oN), (Wd, oN), (L + 1 + 1 + 1, oN), (104, oN)] := by
    intro o
    have hz' := hz
    obtain ⟨_, z1, z2, z3, z4, z5, z6, z7, z8, z9, _, _⟩ := hz'
    have key : ∀ x : Nat, z.pb < x → x ≠ z.cl ∧ x ≠ z.dx ∧ x ≠ z.pb := by
      intro x hx
      exact ⟨by omega, by omega, by omega⟩
    refine ok_addr hz fun p hp => ?_
    simp only [List.mem_cons, List.not_mem_nil, or_false] at hp
    rcases hp with rfl | rfl | rfl | rfl | rfl | rfl
    · exact .inr (key _ o1)
    · exact .inr (key _ (Nat.lt_trans o1 o2))
    · exact .inr (key _ (Nat.lt_trans (Nat.lt_trans o1 o2) o3))
    · exact .inl ⟨_, .tail _ (.head _), rfl⟩
    · exact .inl ⟨_, .tail _ (.tail _ (.head _)), rfl⟩
    · exact .inl ⟨_, .head _, rfl⟩
  refine law_loop w [] loose mean mg mb p z w0 w1 body tb f0 f1 FO Wd L tw0 tw1 nW oN v0 hoN r0 r1 r2 hb hso0 hso1 hw0 hw1 hr0 hr1 hl0 hl1 hz5 o1 o2 o3 o4 o5 o6 o7 o8 o9 o10 us n tl np ln hs hln n0 n1 fa cd g h mm s tk0 _ E kMark B T X codeHd F (fun q hq => N q (mem_re hq)) ?_ ?_
  · exact hE
  · intro m' h' tk' u0 u1 n0 n1 oN x t us n ln tl np t0 t1 I0 I1 hoN hx hs hln F N
    subst hx
    exact law_fin w [] loose mean mg mb p z w0 w1 body tb f0 f1 FO Wd L tw0 tw1 nW r2 hb hso0 hso1 hw0 hw1 hr2 hl2 hz5 o1 o2 o3 o4 o5 o6 o7 o8 o9 o10 u0 u1 n0 n1 oN (nameS body) t us n ln tl np t0 t1 I0 I1 hoN hs hln fa cd g h' m' s tk' Q E kMark B T X codeHd F N hE hend
end
section
theorem calm_L2rest2 : True ∧ True := by
  w_top off
  k_with_none
  first
    | (walk1; fail)
    | exact ⟨trivial, trivial⟩
theorem rows_L2rest2_ne : True := by
  k_with "ne" => (refine neN ?_; (try dsimp only); first | (exact Nat.ne_of_gt (And.left (by assumption))) | (exact Nat.ne_of_gt (And.left (And.right (by assumption)))) | (exact Nat.ne_of_gt (And.right (by assumption))) | (exact Nat.ne_of_gt (And.left (And.right (And.right (by assumption))))) | (exact Nat.ne_of_gt (And.right (And.right (by assumption)))) | (exact Nat.ne_of_gt (And.left (And.right (And.right (And.right (by assumption)))))) | (exact Nat.ne_of_gt (And.right (And.right (And.right (by assumption))))) | (exact Nat.ne_of_gt (And.left (And.right (And.right (And.right (And.right (by assumption))))))) | (exact Nat.ne_of_gt (And.right (And.right (And.right (And.right (by assumption)))))) | (exact Nat.ne_of_gt (And.left (And.right (And.right (And.right (And.right (And.right (by assumption)))))))) | (exact Nat.ne_of_gt (And.right (And.right (And.right (And.right (And.right (by assumption))))))) | (exact Nat.ne_of_gt (And.left (And.right (And.right (And.right (And.right (And.right (And.right (by assumption))))))))) | (exact Nat.ne_of_gt (And.right (And.right (And.right (And.right (And.right (And.right (by assumption)))))))) | (exact Nat.ne_of_gt (And.left (And.right (And.right (And.right (And.right (And.right (And.right (And.right (by assumption)))))))))) | (exact Nat.ne_of_gt (And.right (And.right (And.right (And.right (And.right (And.right (And.right (by assumption))))))))) | (exact Nat.ne_of_gt (And.left (And.right (And.right (And.right (And.right (And.right (And.right (And.right (And.right (by assumption))))))))))) | (exact Nat.ne_of_gt (And.right (And.right (And.right (And.right (And.right (And.right (And.right (And.right (by assumption)))))))))) | (exact Nat.ne_of_gt (And.left (And.right (And.right (And.right (And.right (And.right (And.right (And.right (And.right (And.right (by assumption)))))))))))) | (exact Nat.ne_of_gt (And.right (And.right (And.right (And.right (And.right (And.right (And.right (And.right (And.right (by assumption))))))))))) | (exact Nat.ne_of_lt (And.left (by assumption))) | (exact Nat.ne_of_lt (And.left (And.right (by assumption)))) | (exact Nat.ne_of_lt (And.right (by assumption))) | (exact Nat.ne_of_lt (And.left (And.right (And.right (by assumption))))) | (exact Nat.ne_of_lt (And.right (And.right (by assumption)))) | (exact Nat.ne_of_lt (And.left (And.right (And.right (And.right (by assumption)))))) | (exact Nat.ne_of_lt (And.right (And.right (And.right (by assumption))))) | (exact Nat.ne_of_lt (And.left (And.right (And.right (And.right (And.right (by assumption))))))) | (exact Nat.ne_of_lt (And.right (And.right (And.right (And.right (by assumption)))))) | (exact Nat.ne_of_lt (And.left (And.right (And.right (And.right (And.right (And.right (by assumption)))))))) | (exact Nat.ne_of_lt (And.right (And.right (And.right (And.right (And.right (by assumption))))))) | (exact Nat.ne_of_lt (And.left (And.right (And.right (And.right (And.right (And.right (And.right (by assumption))))))))) | (exact Nat.ne_of_lt (And.right (And.right (And.right (And.right (And.right (And.right (by assumption)))))))) | (exact Nat.ne_of_lt (And.left (And.right (And.right (And.right (And.right (And.right (And.right (And.right (by assumption)))))))))) | (exact Nat.ne_of_lt (And.right (And.right (And.right (And.right (And.right (And.right (And.right (by assumption))))))))) | (exact Nat.ne_of_lt (And.left (And.right (And.right (And.right (And.right (And.right (And.right (And.right (And.right (by assumption))))))))))) | (exact Nat.ne_of_lt (And.right (And.right (And.right (And.right (And.right (And.right (And.right (And.right (by assumption)))))))))) | (exact Nat.ne_of_lt (And.left (And.right (And.right (And.right (And.right (And.right (And.right (And.right (And.right (And.right (by assumption)))))))))))) | (exact Nat.ne_of_lt (And.right (And.right (And.right (And.right (And.right (And.right (And.right (And.right (And.right (by assumption))))))))))))
  trivial
theorem rows_L2rest2_upd : True := by
  k_with "upd" => first | (with_unfolding_all exact updAt0 (by assumption)) | (with_unfolding_all exact updAt1 (by assumption)) | (with_unfolding_all exact updAt2 (by assumption)) | (with_unfolding_all exact updAt3 (by assumption)) | (with_unfolding_all exact updAt4 (by assumption)) | (with_unfolding_all exact updAt5 (by assumption)) | (with_unfolding_all exact updAt6 (by assumption)) | (with_unfolding_all exact updAt7 (by assumption)) | (with_unfolding_all exact updAt8 (by assumption)) | (with_unfolding_all exact updAt9 (by assumption)) | (with_unfolding_all exact updAt10 (by assumption)) | (with_unfolding_all exact updAt11 (by assumption)) | (with_unfolding_all exact updAt12 (by assumption)) | (with_unfolding_all exact updAt13 (by assumption)) | (with_unfolding_all exact updAt14 (by assumption)) | (with_unfolding_all exact updAt15 (by assumption)) | (refine' Upd.tail ?ua1 ?ub1; (case ua1 => k_ne); (case ub1 => (first | (with_unfolding_all exact updAt0 (by assumption)) | (with_unfolding_all exact updAt1 (by assumption)) | (with_unfolding_all exact updAt2 (by assumption)) | (with_unfolding_all exact updAt3 (by assumption)) | (with_unfolding_all exact updAt4 (by assumption)) | (with_unfolding_all exact updAt5 (by assumption)) | (with_unfolding_all exact updAt6 (by assumption)) | (with_unfolding_all exact updAt7 (by assumption)) | (with_unfolding_all exact updAt8 (by assumption)) | (with_unfolding_all exact updAt9 (by assumption)) | (with_unfolding_all exact updAt10 (by assumption)) | (with_unfolding_all exact updAt11 (by assumption)) | (with_unfolding_all exact updAt12 (by assumption)) | (with_unfolding_all exact updAt13 (by assumption)) | (with_unfolding_all exact updAt14 (by assumption)) | (with_unfolding_all exact updAt15 (by assumption)) | (refine' Upd.tail ?ua2 ?ub2; (case ua2 => k_ne); (case ub2 => (first | (with_unfolding_all exact updAt0 (by assumption)) | (with_unfolding_all exact updAt1 (by assumption)) | (with_unfolding_all exact updAt2 (by assumption)) | (with_unfolding_all exact updAt3 (by assumption)) | (with_unfolding_all exact updAt4 (by assumption)) | (with_unfolding_all exact updAt5 (by assumption)) | (with_unfolding_all exact updAt6 (by assumption)) | (with_unfolding_all exact updAt7 (by assumption)) | (with_unfolding_all exact updAt8 (by assumption)) | (with_unfolding_all exact updAt9 (by assumption)) | (with_unfolding_all exact updAt10 (by assumption)) | (with_unfolding_all exact updAt11 (by assumption)) | (with_unfolding_all exact updAt12 (by assumption)) | (with_unfolding_all exact updAt13 (by assumption)) | (with_unfolding_all exact updAt14 (by assumption)) | (with_unfolding_all exact updAt15 (by assumption)) | (refine' Upd.tail ?ua3 ?ub3; (case ua3 => k_ne); (case ub3 => (first | (with_unfolding_all exact updAt0 (by assumption)) | (with_unfolding_all exact updAt1 (by assumption)) | (with_unfolding_all exact updAt2 (by assumption)) | (with_unfolding_all exact updAt3 (by assumption)) | (with_unfolding_all exact updAt4 (by assumption)) | (with_unfolding_all exact updAt5 (by assumption)) | (with_unfolding_all exact updAt6 (by assumption)) | (with_unfolding_all exact updAt7 (by assumption)) | (with_unfolding_all exact updAt8 (by assumption)) | (with_unfolding_all exact updAt9 (by assumption)) | (with_unfolding_all exact updAt10 (by assumption)) | (with_unfolding_all exact updAt11 (by assumption)) | (with_unfolding_all exact updAt12 (by assumption)) | (with_unfolding_all exact updAt13 (by assumption)) | (with_unfolding_all exact updAt14 (by assumption)) | (with_unfolding_all exact updAt15 (by assumption)))))))))))
  k_with "updF" => first | (with_unfolding_all exact updFAt0 (by assumption)) | (with_unfolding_all exact updFAt1 (by assumption)) | (with_unfolding_all exact updFAt2 (by assumption)) | (with_unfolding_all exact updFAt3 (by assumption)) | (with_unfolding_all exact updFAt4 (by assumption)) | (with_unfolding_all exact updFAt5 (by assumption)) | (with_unfolding_all exact updFAt6 (by assumption)) | (with_unfolding_all exact updFAt7 (by assumption)) | (with_unfolding_all exact updFAt8 (by assumption)) | (with_unfolding_all exact updFAt9 (by assumption)) | (with_unfolding_all exact updFAt10 (by assumption)) | (with_unfolding_all exact updFAt11 (by assumption)) | (with_unfolding_all exact updFAt12 (by assumption)) | (with_unfolding_all exact updFAt13 (by assumption)) | (with_unfolding_all exact updFAt14 (by assumption)) | (with_unfolding_all exact updFAt15 (by assumption)) | (refine' UpdF.tail ?uaF1 ?ubF1; (case uaF1 => k_ne); (case ubF1 => (first | (with_unfolding_all exact updFAt0 (by assumption)) | (with_unfolding_all exact updFAt1 (by assumption)) | (with_unfolding_all exact updFAt2 (by assumption)) | (with_unfolding_all exact updFAt3 (by assumption)) | (with_unfolding_all exact updFAt4 (by assumption)) | (with_unfolding_all exact updFAt5 (by assumption)) | (with_unfolding_all exact updFAt6 (by assumption)) | (with_unfolding_all exact updFAt7 (by assumption)) | (with_unfolding_all exact updFAt8 (by assumption)) | (with_unfolding_all exact updFAt9 (by assumption)) | (with_unfolding_all exact updFAt10 (by assumption)) | (with_unfolding_all exact updFAt11 (by assumption)) | (with_unfolding_all exact updFAt12 (by assumption)) | (with_unfolding_all exact updFAt13 (by assumption)) | (with_unfolding_all exact updFAt14 (by assumption)) | (with_unfolding_all exact updFAt15 (by assumption)) | (refine' UpdF.tail ?uaF2 ?ubF2; (case uaF2 => k_ne); (case ubF2 => (first | (with_unfolding_all exact updFAt0 (by assumption)) | (with_unfolding_all exact updFAt1 (by assumption)) | (with_unfolding_all exact updFAt2 (by assumption)) | (with_unfolding_all exact updFAt3 (by assumption)) | (with_unfolding_all exact updFAt4 (by assumption)) | (with_unfolding_all exact updFAt5 (by assumption)) | (with_unfolding_all exact updFAt6 (by assumption)) | (with_unfolding_all exact updFAt7 (by assumption)) | (with_unfolding_all exact updFAt8 (by assumption)) | (with_unfolding_all exact updFAt9 (by assumption)) | (with_unfolding_all exact updFAt10 (by assumption)) | (with_unfolding_all exact updFAt11 (by assumption)) | (with_unfolding_all exact updFAt12 (by assumption)) | (with_unfolding_all exact updFAt13 (by assumption)) | (with_unfolding_all exact updFAt14 (by assumption)) | (with_unfolding_all exact updFAt15 (by assumption)) | (refine' UpdF.tail ?uaF3 ?ubF3; (case uaF3 => k_ne); (case ubF3 => (first | (with_unfolding_all exact updFAt0 (by assumption)) | (with_unfolding_all exact updFAt1 (by assumption)) | (with_unfolding_all exact updFAt2 (by assumption)) | (with_unfolding_all exact updFAt3 (by assumption)) | (with_unfolding_all exact updFAt4 (by assumption)) | (with_unfolding_all exact updFAt5 (by assumption)) | (with_unfolding_all exact updFAt6 (by assumption)) | (with_unfolding_all exact updFAt7 (by assumption)) | (with_unfolding_all exact updFAt8 (by assumption)) | (with_unfolding_all exact updFAt9 (by assumption)) | (with_unfolding_all exact updFAt10 (by assumption)) | (with_unfolding_all exact updFAt11 (by assumption)) | (with_unfolding_all exact updFAt12 (by assumption)) | (with_unfolding_all exact updFAt13 (by assumption)) | (with_unfolding_all exact updFAt14 (by assumption)) | (with_unfolding_all exact updFAt15 (by assumption)))))))))))
  trivial
/-- the frame's names behind the reply's signs -/
noncomputable abbrev fbod (Dt : Nat) (body : Str) (tb : CbTok) (m : Str → Option Value) : Str → Option Value := fun z => if z = Str.ofString "body" then some (.str body tb) else if z = Str.ofString "totals" then some (.ref Dt) else m z
theorem fbod_pack {g h : Heap} {L : Addr} {m : Str → Option Value} {Dt : Nat} {body : Str} {tb : CbTok} (F : Fr g L h m) (a : m (Str.ofString "totals") = some (.ref Dt)) (b : m (Str.ofString "body") = some (.str body tb)) : Fr g L h (fbod Dt body tb m) := by
  have e : fbod Dt body tb m = m := by
    funext z
    unfold fbod
    split
    · next e => rw [e, b]
    · split
      · next e => rw [e, a]
      · rfl
  rw [e]; exact F
theorem strOk_word (n : Int) : PyData.strOk (wordT n) = true := by
  have ha := wordT_alph n
  unfold PyData.strOk
  rw [Array.all_eq_true_iff_forall_mem]
  intro c hc
  have hc : c ∈ cs (wordT n) := Array.mem_toList_iff.mpr hc
  have := ha c hc
  have h2 : c < 0x110000 := by omega
  simpa using h2
theorem wrS_len (m : Int) (x : Str) : (wrS m x).length ≤ 2 * x.length := by
  rw [← cs_len, ← cs_len, cs_wrS]
  generalize cs x = l
  induction l with
  | nil => simp
  | cons c l ih =>
    have := wrC_len m c
    rw [← cs_len] at this
    simp only [List.flatMap_cons, List.length_append, List.length_cons]
    omega
theorem writT_len {n : Int} (h : n < 1000000) : (writT n).length ≤ 8 := by
  have hw := wordT_len h
  have he := escS_len (wordT n)
  have hr := wrS_len ((n.fdiv 864).fmod 3) (wordT n)
  unfold writT
  split
  · rw [Str.length_append, Str.length_append, len_q]; omega
  · omega
theorem len_nl : (Str.ofString "\n").length = 1 := by decide +kernel
theorem cs_nl : cs (Str.ofString "\n") = [10] := by decide +kernel
section
variable {prog : Program} {w : World} {A : Around} {E : Value → Shared → Prop} {s : Shared}
theorem join_2 {D : Addr} {x y : Str} {t u v : Tok} {n : Nat} {h₀ : Heap} {L : Addr} {news : List (Addr × Obj)} {Q : Value → Shared → Prop} (N : News h₀ L s.heap news) (hm : (D, listOf (List.toArray [Value.str x u, Value.str y v]) n) ∈ news) (hx : x.length ≤ 100) (hy : y.length ≤ 100)
    (h : ∀ (z : Str) t' k, cs z = cs x ++ cs y → Q (.str z t') { s with toks := k }) : wpAny (model prog w) A (call (.builtin "str.join") [.str (Str.ofString "") t, .ref D]) Q E s := by
  have hl : s.heap.IsList D (List.toArray [Value.str x u, Value.str y v]) := ⟨_, (N _ hm).1, rfl, n, rfl⟩
  refine join_listW hl (.cons x u (.cons y v .nil)) (by decide) (by simp; omega) fun t' k => h _ t' k ?_
  rw [cs_joinE]; simp
end
section
theorem rows_L2rest2_20 : True := by
  k_with "eval ListComp" => (k_here; k_dflt (refine LCg.ListComp_U (F₀ := by k_asm) (by with_unfolding_all rfl) (by decide) (by rfl) (by decide) (by rfl) ?_); k_dflt lcg_toSrc)
  k_with "exec Assign cons ListComp" => (k_here; k_dflt (refine LCg.Assign_ListComp_U (F₀ := by k_asm) (by rfl) (by with_unfolding_all rfl) (by rfl) (by decide) (by rfl) (by decide) (by rfl) (by rfl) (by rfl) ?_); k_dflt lcg_toSrc)
  k_with "CompSrc" => (k_here; (k_dflt (refine LCg.CompSrc.ledger (by rfl) (by k_asm) (by k_asm) (by k_mem) (by first | size_fits | exact Nat.le_of_ble_eq_true rfl) ?_)); intro gqRow; lcg_lit)
  k_with "CompRest" => (with_unfolding_all first
    | (refine LCg.CompRest.succ ?_; intro vqRow IqRow oIqRow CqRow oCqRow DqRow mqRow hqRow tkqRow EqRow hvqRow hCqRow hxqRow FqRow NqRow offqRow neqRow; (first | lcg_open hvqRow | (obtain ⟨t9qRow, hv9qRow⟩ := hvqRow; subst hv9qRow)))
    | refine LCg.CompRest.zero ?_)
  k_with "CompEnd" => (refine LCg.CompEnd.intro (by assumption) (by assumption) _ (fun pRow hpRow => hpRow) (by assumption) (by lcg_src) ?_)
  k_with "call ref" => (k_here; (with_unfolding_all refine' word_walk _ _ _ _ _ _ _ _ _ ?p0 ?p1 _ _ _ _ _ _ _ _ _ _ _ _ _ _ _ _ _ ?k1 ?k2 ?k3 ?k4 ?k5 ?k6 ?k7 ?k8 ?_); (case k2 => first | k_asm | with_unfolding_all assumption); (case k4 => first | k_asm | with_unfolding_all assumption); (case k1 => first | k_asm | with_unfolding_all assumption); (case k3 => k_asm); (case k5 => k_asm); (case k6 => with_unfolding_all rfl); (case k7 => ktr_room); (case k8 => ktr_units); (case p0 => omega); (case p1 => omega); intros)
  k_with "call ref" => (k_here; (with_unfolding_all refine' writ_walk _ _ _ _ _ _ _ _ _ ?p0 ?p1 _ _ _ _ _ _ _ _ _ _ _ _ _ _ _ _ _ ?k1 ?k2 ?k3 ?k4 ?k5 ?k6 ?k7 ?k8 ?_); (case k2 => first | k_asm | with_unfolding_all assumption); (case k4 => first | k_asm | with_unfolding_all assumption); (case k1 => first | k_asm | with_unfolding_all assumption); (case k3 => k_asm); (case k5 => k_asm); (case k6 => with_unfolding_all rfl); (case k7 => ktr_room); (case k8 => ktr_units); (case p0 => omega); (case p1 => omega); intros)
  k_with "exec For Name Call cons nil" => (k_here; refine hold_of ?_)
  k_with "binaryOp Add str str" => (k_here; (with_unfolding_all refine' SBL.add ?_ ?h2); (case h2 => (rw [sizeLine_eq]; (show _ + 1 ≤ _); omega)); intros)
  k_with "call builtin:str.join" => (k_here; (with_unfolding_all refine' join_2 ?h1 ?h2 ?h3 ?h4 ?_); (case h1 => k_asm); (case h2 => with_unfolding_all (first | exact .head _ | exact .tail _ (.head _))); (case h3 => (rw [Str.length_append, len_nl]; omega)); (case h4 => (rw [Str.length_append, len_nl]; omega)); intro zqRow tqRow kqRow hzqRow)
  k_with "call ref" => (k_here; (with_reducible show wpAny _ _ (call (Value.ref 109) _) _ _ _); refine hold_of ?_)
  trivial
theorem offW {z : Lx} {own : CbLed} {a t W : Nat} (hz : z.Ok own) (e3 : a < z.ce) (e4 : z.pb2 < z.cc) (o0 : t < a) (e2 : W < z.ce) (h : a ≠ W) : Offs a (z.pb :: z.x :: z.dx :: z.fn :: z.cc :: z.pb2 :: z.f :: z.df :: z.cl :: z.ce :: t :: W :: []) :=
  hz.offD e3 e4 (.cons (Nat.ne_of_lt o0) (.cons (Ne.symm h) .nil))
theorem law_rest (w : World) (news : CbLed) (loose : List Str) (mean : ExcName → Option Value) (mg mb : Str → Option Value) (p : Program) (body : Str) (hb : body.length ≤ 10) (tb : CbTok) (a0 a1 a2 a3 a4 a5 a6 : Int) (t0 t1 t2 t3 t4 t5 t6 : CbTok) (b0 : 0 ≤ a0 ∧ a0 < 1000000) (b1 : 0 ≤ a1 ∧ a1 < 1000000) (Dt L : Nat) (oN : Obj) (v0 : Option Value) (hoN : oN.data = .cell v0)
  (o0 : 104 < L + 1 + 1 + 1) (o2 : L + 1 + 1 + 1 < Dt) (fa : Nat) (cd : Value) (g h : Heap) (mm : Str → Option Value) (s : Shared) (tk0 : Nat) (Q : Flow → Shared → Prop) (E : Value → Shared → Prop) (kMark : KstMark)
  (B : Below callerA g [] g) (T : Top p loose mean mg mb g) (X : (Mine.hd.heap_39 w.params).In g) (codeHd : CodeHd g 108 104)
  (F : Fr g L h (fbod Dt body tb mm))
  (N : News g L h [(Dt, listOf #[Value.int a0 t0, .int a1 t1, .int a2 t2, .int a3 t3, .int a4 t4, .int a5 t5, .int a6 t6] 7), (L + 1 + 1 + 1, oN), (104, tabObj #[])])
  (hE : PassesOwn (model PySem.Challenge.rw_rw0047_02.prog w) (callerA.deeper (envOfC (Str.ofString "law") lawS.1 L fa cd)) (envOfC (Str.ofString "law") lawS.1 L fa cd) E)
  (hend : ∀ m' h' tk' ps, Fr g L h' m' → News g L h' [(104, tabObj ps)] → Q (.ret (.bool true)) { s with heap := h', toks := tk' }) :
  wpAny (model PySem.Challenge.rw_rw0047_02.prog w) (callerA.deeper (envOfC (Str.ofString "law") lawS.1 L fa cd))
    (execs lawC.1 (envOfC (Str.ofString "law") lawS.1 L fa cd)) Q E { s with heap := h, toks := tk0 } := by
  revert X; k_fill; intro X
  dsimp only [lawC]
  obtain ⟨b00, b01⟩ := b0
  obtain ⟨b10, b11⟩ := b1
  have w0 := writT_len b01
  have w1 := writT_len b11
  k_steps
  rename News _ _ _ _ => N1
  rename Fr _ _ _ _ => F1
  rename (cs _ = cs (writT a0 ++ _) ++ _) => hx
  rw [cs_append, cs_append, cs_nl] at hx
  have hxl := congrArg List.length hx
  rw [cs_len] at hxl
  simp only [List.length_append, List.length_cons, List.length_nil, cs_len] at hxl
  obtain ⟨r1, r2, g1, g2, g3, g4, g5, g6⟩ := toks (n1 := a0) (n2 := a1) (x := cs _) (by rw [hx]; simp)
  rw [cs_len] at g5
  show wpAny _ _ _ _ _ _
  with_unfolding_all refine' lexer_law2 w _ loose mean mg mb p _ _ ?ha _ (L + 1 + 1 + 1) (listOf (List.toArray [Value.str (wordT a0) _, Value.str (wordT a1) _]) _) oN ?hW ?hC ?hn kstMark _ _ _ _ _ _ _ _ _ _ _ _ _ _ _ _ _ B F1 X ?k4 T ?k6 ?k7 ?k8 ?_ codeHd
  case hn => rfl
  case k4 =>
    refine fun p hp => N1 p ?_
    revert p
    with_unfolding_all lcg_sub
  case ha => omega
  case hW => omega
  case hC => omega
  case k6 => with_unfolding_all rfl
  case k7 => ktr_room
  case k8 => ktr_units
  clear F1 N1
  intro z us c tl h' tk' e1 e2 e3 e4 hz sg F2 N2
  obtain ⟨z0, z1, z2, z3, z4, z5, z6, z7, z8, z9, zcell, zcode⟩ := id hz
  clear z0
  have b3 := offW hz e3 e4 o0 e2 (by omega)
  dsimp only [Lx.led, lamP, lamB, lamS] at N2
  simp only [List.cons_append, List.nil_append] at N2
  k_steps
  rename News _ _ _ _ => N3
  rename Fr _ _ _ _ => F3
  rename (_ = Data.cell (some (Value.str (Str.ofString "") _))) => d9
  show wpAny _ _ _ _ _ _
  have F4 := ffr_pack F3 (by with_unfolding_all rfl) (by with_unfolding_all rfl) (by with_unfolding_all rfl) (by with_unfolding_all rfl)
  clear F3
  have gE : gtT r2 = (cs (Str.ofString ""), []) := by rw [g3]; exact congrArg (·, []) (by decide +kernel)
  have k0 := strOk_word a0
  have k1 := strOk_word a1
  have l0 := wordT_len b01
  have l1' := wordT_len b11
  have Z := fun o1 o2 o3 o4 o5 tk0 => law_loop2 w [] loose mean mg mb p z (wordT a0) (wordT a1) body tb _ _ _ _ L _ _ _ _ _ d9 _ r1 r2 hb k0 k1 l0 l1' g1 g2 gE (by rw [cs_len]; omega) (by omega) (by omega) _ _ _ hz o1 o2 o3 o4 o5 e1 e3 e2 e4 o0 us c tl 0 1 sg (by rw [g4]; rfl) _ _ fa cd g _ _ _ tk0 Q E kstMark B T X codeHd F4 N3 hE hend
  with_unfolding_all refine' Z ?o1 ?o2 ?o3 ?o4 ?o5 _
  case o1 => omega
  case o2 => omega
  case o3 => omega
  case o4 => omega
  case o5 => omega
end
end
section
theorem calm_L2law2 : True ∧ True := by
  w_top off
  k_with_none
  first
    | (walk1; fail)
    | exact ⟨trivial, trivial⟩
theorem rows_L2law2_ne : True := by
  k_with "ne" => (refine neN ?_; (try dsimp only); first | (exact Nat.ne_of_gt (And.left (by assumption))) | (exact Nat.ne_of_gt (And.left (And.right (by assumption)))) | (exact Nat.ne_of_gt (And.right (by assumption))) | (exact Nat.ne_of_gt (And.left (And.right (And.right (by assumption))))) | (exact Nat.ne_of_gt (And.right (And.right (by assumption)))) | (exact Nat.ne_of_gt (And.left (And.right (And.right (And.right (by assumption)))))) | (exact Nat.ne_of_gt (And.right (And.right (And.right (by assumption))))) | (exact Nat.ne_of_gt (And.left (And.right (And.right (And.right (And.right (by assumption))))))) | (exact Nat.ne_of_gt (And.right (And.right (And.right (And.right (by assumption)))))) | (exact Nat.ne_of_gt (And.left (And.right (And.right (And.right (And.right (And.right (by assumption)))))))) | (exact Nat.ne_of_gt (And.right (And.right (And.right (And.right (And.right (by assumption))))))) | (exact Nat.ne_of_gt (And.left (And.right (And.right (And.right (And.right (And.right (And.right (by assumption))))))))) | (exact Nat.ne_of_gt (And.right (And.right (And.right (And.right (And.right (And.right (by assumption)))))))) | (exact Nat.ne_of_gt (And.left (And.right (And.right (And.right (And.right (And.right (And.right (And.right (by assumption)))))))))) | (exact Nat.ne_of_gt (And.right (And.right (And.right (And.right (And.right (And.right (And.right (by assumption))))))))) | (exact Nat.ne_of_gt (And.left (And.right (And.right (And.right (And.right (And.right (And.right (And.right (And.right (by assumption))))))))))) | (exact Nat.ne_of_gt (And.right (And.right (And.right (And.right (And.right (And.right (And.right (And.right (by assumption)))))))))) | (exact Nat.ne_of_gt (And.left (And.right (And.right (And.right (And.right (And.right (And.right (And.right (And.right (And.right (by assumption)))))))))))) | (exact Nat.ne_of_gt (And.right (And.right (And.right (And.right (And.right (And.right (And.right (And.right (And.right (by assumption))))))))))) | (exact Nat.ne_of_lt (And.left (by assumption))) | (exact Nat.ne_of_lt (And.left (And.right (by assumption)))) | (exact Nat.ne_of_lt (And.right (by assumption))) | (exact Nat.ne_of_lt (And.left (And.right (And.right (by assumption))))) | (exact Nat.ne_of_lt (And.right (And.right (by assumption)))) | (exact Nat.ne_of_lt (And.left (And.right (And.right (And.right (by assumption)))))) | (exact Nat.ne_of_lt (And.right (And.right (And.right (by assumption))))) | (exact Nat.ne_of_lt (And.left (And.right (And.right (And.right (And.right (by assumption))))))) | (exact Nat.ne_of_lt (And.right (And.right (And.right (And.right (by assumption)))))) | (exact Nat.ne_of_lt (And.left (And.right (And.right (And.right (And.right (And.right (by assumption)))))))) | (exact Nat.ne_of_lt (And.right (And.right (And.right (And.right (And.right (by assumption))))))) | (exact Nat.ne_of_lt (And.left (And.right (And.right (And.right (And.right (And.right (And.right (by assumption))))))))) | (exact Nat.ne_of_lt (And.right (And.right (And.right (And.right (And.right (And.right (by assumption)))))))) | (exact Nat.ne_of_lt (And.left (And.right (And.right (And.right (And.right (And.right (And.right (And.right (by assumption)))))))))) | (exact Nat.ne_of_lt (And.right (And.right (And.right (And.right (And.right (And.right (And.right (by assumption))))))))) | (exact Nat.ne_of_lt (And.left (And.right (And.right (And.right (And.right (And.right (And.right (And.right (And.right (by assumption))))))))))) | (exact Nat.ne_of_lt (And.right (And.right (And.right (And.right (And.right (And.right (And.right (And.right (by assumption)))))))))) | (exact Nat.ne_of_lt (And.left (And.right (And.right (And.right (And.right (And.right (And.right (And.right (And.right (And.right (by assumption)))))))))))) | (exact Nat.ne_of_lt (And.right (And.right (And.right (And.right (And.right (And.right (And.right (And.right (And.right (by assumption))))))))))))
  trivial
section
variable {prog : Program} {w : World} {A : Around} {E : Value → Shared → Prop} {s : Shared} {h₀ : Heap} {L : Addr} {m : Str → Option Value} {news : List (Addr × Obj)}
/-- the sum of a part of a list of integers: some integer -/
theorem sum_picked {D : Addr} {vs : List Value} {ns : List Int} {lo hi st : Option Int} {n : Nat} {Q : Value → Shared → Prop} (hh : A.handled = none) (F : Fr h₀ L s.heap m) (N : News h₀ L s.heap news) (hi' : IntsAre vs ns)
    (hm : (D, { cls := .type "list", data := .seq (slicePick vs.toArray lo hi st) n }) ∈ news)
    (h : ∀ k h' tk t', Fr h₀ L h' m → News h₀ L h' news → Q (.int k t') { s with heap := h', toks := tk }) :
    wpAny (model prog w) A (call (.builtin "sum") [.ref D]) Q E s :=
  sumK (vs := (slicePick vs.toArray lo hi st).toList) hh F N ⟨_, (N _ hm).1, rfl, n, by simp⟩ (hi'.pick lo hi st) fun h' tk t' F' N' => h _ h' tk t' F' N'
end
theorem rows_L2law2_21 : True := by
  k_with "call builtin:sum" => (k_here; ((with_unfolding_all refine' sum_picked ?h0 ?h1 ?h2 ?h3 ?h4 ?_); (case h0 => with_unfolding_all rfl); (case h1 => k_asm); (case h2 => k_asm); (case h3 => assumption); (case h4 => with_unfolding_all (first | exact .head _ | exact .tail _ (.head _)))); intro kqRow hqRow tkqRow tqRow FqRow NqRow; (try simp only [List.cons_append, List.nil_append] at NqRow))
  trivial
section
variable {prog : Program} {w : World} {A : Around} {E : Value → Shared → Prop} {s : Shared} {h₀ : Heap} {L : Addr} {m : Str → Option Value} {news : List (Addr × Obj)} {value slice : PySem.Expr} {D : Addr} {Q : Value → Shared → Prop}
/-- one of the pieces -/
theorem item_piece {us : List Value} {n : Nat} {u : Tok} {k : Int} {ss : List Str} (N : News h₀ L s.heap news) (hm : (D, listOf us.toArray n) ∈ news) (hi : StrsAre us ss) (h0 : 0 ≤ k) (h1 : k < ss.length) (hz : ss.length ≤ 1000) (hB : ∀ x ∈ ss, x.length ≤ 2)
    (h : ∀ (x : Str) t, x.length ≤ 2 → Q (.str x t) s)
    (hs : subscripted slice false (.ref D) (.int k u) = operate [.ref D, .int k u] (getItem (.ref D) (.int k u)) := by with_unfolding_all rfl) :
    wpAny (model prog w) A (subscriptTail value slice (.ref D) (.int k u)) Q E s := by
  have hl : s.heap.IsList D us.toArray := ⟨_, (N _ hm).1, rfl, n, rfl⟩
  obtain ⟨x, t, e1, e2⟩ : ∃ x t, ss[k.toNat]? = some x ∧ us[k.toNat]? = some (.str x t) := by
    clear hl hm
    have hk : k.toNat < ss.length := by omega
    generalize k.toNat = j at hk
    clear h h0 h1 hz hs hB
    induction hi generalizing j with
    | nil => simp at hk
    | @cons x t us ss hi ih =>
      cases j with
      | zero => exact ⟨x, t, rfl, rfl⟩
      | succ j => simpa using ih j (by simpa using hk)
  exact tail_any hl.typeIs slot_list_getitem.lookup (wpAny_getItem_list hl h0 (by omega) (by rw [List.getElem?_toArray]; exact e2) (h x t (hB x (List.mem_of_getElem? e1)))) hs
end
theorem rows_L2law2_22 : True := by
  k_with "subscriptTail Name BinOp ref int" => (k_here; (with_unfolding_all refine' item_piece (ss := [Str.ofString "\"\"", Str.ofString "\"", Str.ofString "a", Str.ofString "A", Str.ofString "b", Str.ofString "B", Str.ofString "\\", Str.ofString " "]) ?h1 ?h2 ?h3 ?h4 ?h5 ?h6 ?h7 ?_); (case h1 => k_asm); (case h2 => k_mem); (case h3 => with_unfolding_all (repeat (first | exact StrsAre.nil | refine StrsAre.cons _ _ ?_))); (case h4 => exact Int.fmod_nonneg_of_pos _ (by decide)); (case h5 => exact Int.fmod_lt_of_pos _ (by decide)); (case h6 => decide); (case h7 => decide +kernel); intro xqRow tqRow hxqRow)
  trivial
section
variable {prog : Program} {w : World} {A : Around} {E : Value → Shared → Prop} {s : Shared} {h₀ : Heap} {L : Addr} {m : Str → Option Value} {env : Env} {elt : PySem.Expr} {x : Str} {scope : Scope} {cl : List (Str × Addr)} {S : List (Addr × Obj) → Prop} {Fin : List Value → List (Addr × Obj) → Prop} {news : List (Addr × Obj)}
noncomputable def PieceEl (news : List (Addr × Obj)) (v : Value) (news' : List (Addr × Obj)) : Prop := news' = news ∧ ∃ (x : Str) (t : Tok), v = .str x t ∧ x.length ≤ 2
/-- each int gives a short text: a list of short texts -/
theorem kcl_rest {vs : List Value} {ks : List Int} (hI : IntsAre vs ks)
    (turn : ∀ k t I oI C oC D m₂ ys h tk (E' : Value → Shared → Prop), LCg.NsObj oC m₂ → m₂ x = some (.int k t) → Fr h₀ L h m → News h₀ L h ((I, oI) :: (C, oC) :: (D, LCg.lst ys) :: news) → LCg.Off3 I C D news → ((@Ne Nat I C) ∧ (@Ne Nat I D) ∧ (@Ne Nat C D)) →
      wpAny (model prog w) A (eval elt (compEnvC scope cl C env)) (LCg.CompEnd h₀ L m { s with heap := h, toks := tk } I oI C oC D (LCg.lst ys) S (fun v news' => PieceEl news v news')) E' { s with heap := h, toks := tk })
    (fin : ∀ ys xs, StrsAre ys xs → xs.length = ks.length → (∀ x ∈ xs, x.length ≤ 2) → Fin ys news) : LCg.CompRest prog w A h₀ L m env elt x scope cl s S (fun i v => vs.toArray[i]? = some v) Fin vs.toArray.size 0 [] news := by
  have hn : ks.length = vs.toArray.size := by rw [← hI.length, List.size_toArray]
  have key : ∀ (j i : Nat) (ys : List Value) (xs : List Str), i + j = vs.toArray.size → StrsAre ys xs → xs.length = i → (∀ x ∈ xs, x.length ≤ 2) → LCg.CompRest prog w A h₀ L m env elt x scope cl s S (fun i v => vs.toArray[i]? = some v) Fin j i ys news := by
    intro j
    induction j with
    | zero =>
      intro i ys xs hi hy hl hx
      exact LCg.CompRest.zero (fin ys xs hy (by omega) hx)
    | succ j ih =>
      intro i ys xs hi hy hl hx
      refine LCg.CompRest.succ ?_
      intro v I oI C oC D m₂ h tk E' hv hC hxv F N off ne
      obtain ⟨k, t, rfl, _⟩ := hI.at i v (by rw [← List.getElem?_toArray]; exact hv)
      refine wpAny_mono (turn k t I oI C oC D m₂ ys h tk E' hC hxv F N off ne) (fun v s₂ hq => ?_) fun _ _ e => e
      obtain ⟨h', tk', nw, e, F', N', off', hS, hn, x', t', hy', hx'⟩ := hq
      subst hn
      refine ⟨h', tk', nw, e, F', N', off', hS, ?_⟩
      subst hy'
      refine ih (i + 1) _ (xs ++ [x']) (by omega) (KStt.strs_snoc hy) (by rw [List.length_append, hl]; rfl) (fun z hz => ?_)
      rcases List.mem_append.mp hz with hz | hz
      · exact hx z hz
      · rw [List.mem_singleton.mp hz]; exact hx'
  exact key _ 0 [] [] (by omega) .nil rfl (fun x hx => nomatch hx)
theorem join_P {D : Addr} {items : Array Value} {xs : List Str} {t : Tok} {Q : Value → Shared → Prop} (hl : s.heap.IsList D items) (hi : StrsAre items.toList xs) (hz : xs.length ≤ 5) (hx : ∀ x ∈ xs, x.length ≤ 2)
    (h : ∀ (x : Str) t' k, x.length ≤ 10 → Q (.str x t') { s with toks := k }) : wpAny (model prog w) A (call (.builtin "str.join") [.str (Str.ofString "") t, .ref D]) Q E s := by
  have hs : ∀ l : List Str, (∀ x ∈ l, x.length ≤ 2) → (l.map (·.length)).sum ≤ 2 * l.length := by
    intro l
    induction l with
    | nil => intro _; simp
    | cons c l ih =>
      intro hc
      have h1 := ih fun x hx => hc x (.tail _ hx)
      have h2 := hc c (.head _)
      simp only [List.map_cons, List.sum_cons, List.length_cons]; omega
  have h1 := hs xs hx
  refine join_listW hl hi (by decide) (by omega) fun t' k => h _ t' k ?_
  rw [← cs_len, cs_joinE]
  have h3 : ∀ l : List Str, (l.flatMap cs).length = (l.map (·.length)).sum := by
    intro l
    induction l with
    | nil => rfl
    | cons c l ih => rw [List.flatMap_cons, List.length_append, ih, List.map_cons, List.sum_cons, cs_len]
  rw [h3]; omega
end
theorem rows_L2law2_23 : True := by
  k_with "eval ListComp" => (k_here; k_dflt (refine LCg.ListComp_U (F₀ := by k_asm) (by with_unfolding_all rfl) (by decide) (by rfl) (by decide) (by rfl) ?_); k_dflt lcg_toSrc)
  k_with "CompSrc" => (k_here; (k_dflt (refine LCg.CompSrc.ledger (by rfl) (by k_asm) (by k_asm) (by k_mem) (by first | size_fits | exact Nat.le_of_ble_eq_true rfl) ?_)); intro gqRow; (with_unfolding_all refine' kcl_rest ?hI (fun kqRow tqRow IqRow oIqRow CqRow oCqRow DqRow mqRow ysqRow hqRow tkqRow EqRow hCqRow hxqRow FqRow NqRow offqRow neqRow => ?_) ?_); (case hI => with_unfolding_all (first | exact .cons _ _ (.cons _ _ (.cons _ _ (.cons _ _ (.cons _ _ .nil)))) | exact .cons _ _ (.cons _ _ (.cons _ _ (.cons _ _ .nil))))))
  k_with "CompEnd" => (refine LCg.CompEnd.intro (by assumption) (by assumption) _ (fun pRow hpRow => hpRow) (by assumption) (by lcg_src) ⟨rfl, _, _, rfl, by assumption⟩)
  k_with "call builtin:str.join" => (k_here; (with_unfolding_all refine' join_P ?h1 ?h2 ?h3 ?h4 ?_); (case h2 => assumption); (case h1 => first | assumption | exact News.isList (by k_asm) (by k_mem)); (case h3 => first | omega | (simp at *; omega)); (case h4 => assumption); intro xqRow tqRow kqRow hxqRow)
  k_with "exec Assign cons ListComp" => (k_here; (with_reducible show wpAny _ _ (exec (Stmt.Assign _ (PySem.Expr.ListComp _ [⟨PySem.Expr.Tuple _ _ _, _, _, _⟩] _ _) _) _) _ _ _); (rename Fr _ _ _ _ => lF9Row); (k_dflt (refine assign_enum (fun kRow => 0 ≤ kRow ∧ kRow < 1000000) lF9Row (by rfl) (by rfl) (by with_unfolding_all rfl) (by with_unfolding_all rfl) (by decide) (by rfl) (by decide) (by rfl) (by rfl) (by decide) (by rfl) (by rfl) ?_)))
  k_with "call type:enumerate" => (k_here; (rename Fr _ _ _ _ => lF9Row); (rename News _ _ _ _ => lN9Row); (with_unfolding_all refine' enum_src (cs' := [75, 970, 4, 2, 0, 3, 4]) ?h0 ?h1 ?h2 ?h3 ?h4 (fun iqRow cqRow tqRow uqRow IqRow oIqRow TqRow oTqRow CqRow oCqRow DqRow mqRow ysqRow hqRow tkqRow EqRow hiqRow hc0qRow hc1qRow hCqRow haqRow hbqRow FqRow NqRow offqRow neqRow => ?_) ?h5 ?_); (case h0 => exact lF9Row); (case h1 => exact lN9Row); (case h2 => with_unfolding_all (first | exact .head _ | exact .tail _ (.head _))); (case h3 => with_unfolding_all (repeat (first | exact IntsAre.nil | refine IntsAre.cons _ _ ?_))); (case h4 => decide); (case h5 => rfl); (all_goals (try (intro a0qRow a1qRow a2qRow a3qRow a4qRow a5qRow a6qRow t0qRow t1qRow t2qRow t3qRow t4qRow t5qRow t6qRow g0qRow g1qRow g2qRow g3qRow g4qRow g5qRow g6qRow DqRow hqRow tkqRow FqRow NqRow l1qRow; k_lt l1qRow))))
  k_with "EnumEnd" => (k_here; (rename Fr _ _ _ _ => lF9Row); (rename News _ _ _ _ => lN9Row); (with_unfolding_all refine EnumEnd.intro lF9Row lN9Row (fun qRow hqRow => .tail _ hqRow) ⟨Int.fmod_nonneg_of_pos _ (by decide), Int.fmod_lt_of_pos _ (by decide)⟩))
  k_with "execs cons" => (k_here; (with_reducible show wpAny _ _ (execs (Stmt.Assign [PySem.Expr.Name (Str.ofString "words") _] _ _ :: _) _) _ _ _); refine hold_of ?_)
  k_with "execs cons Assign cons" => (k_here; (with_reducible show wpAny _ _ (execs (Stmt.Assign [PySem.Expr.Name (Str.ofString "words") _] _ _ :: _) _) _ _ _); refine hold_of ?_)
  trivial
theorem news_pick9 {g h : Heap} {L : Addr} {a b c d e f x y t : Addr × Obj} (N : News g L h [a, b, c, d, e, f, x, y, t]) : News g L h [d, f, t] := by
  intro q hq
  refine N q ?_
  simp only [List.mem_cons, List.not_mem_nil, or_false] at hq ⊢
  rcases hq with h | h | h <;> simp [h]
theorem law2_holds : PySem.Challenge.rw_rw0047_02.Holds := hd (by
  k_go0
  k_steps
  all_goals (
    rename News _ _ _ _ => N1
    rename Fr _ _ _ _ => F1
    rename Frag.In _ _ => X1
    rename Top _ _ _ _ _ _ => T1
    rename Below _ _ _ _ => B1
    rename CodeHd _ _ _ => C1
    rename (Str.length _ ≤ 10) => b1
    rename (Obj.data _ = Data.cell (bindC _ _ _ (Str.ofString "name"))) => d1
    show wpAny _ _ _ _ _ _
    have F2 := fbod_pack F1 (by with_unfolding_all rfl) (by with_unfolding_all rfl)
    have N2 := news_pick9 N1
    clear F1 N1
    have Z := fun b0 b1' o0 o2 fa cd s tk0 Q E => law_rest _ [] _ _ _ _ _ _ b1 _ _ _ _ _ _ _ _ _ _ _ _ _ _ _ b0 b1' _ _ _ _ d1 o0 o2 fa cd _ _ _ s tk0 Q E kstMark B1 T1 X1 C1 F2 N2
    with_unfolding_all refine' Z ?b0 ?b1 ?o0 ?o2 _ _ _ _ _ _ ?hE ?hend
    clear Z
    case b0 => assumption
    case b1 => assumption
    case o0 => omega
    case o2 => omega
    case hE => passes_own
    case hend =>
      intro m' h' tk' ps F N
      clear F2 N2
      k_steps))
end
end Mine
theorem PySem.Challenge.cw_rw0047_02_holds : PySem.Challenge.rw_rw0047_02.Holds :=
  Mine.law2_holds
