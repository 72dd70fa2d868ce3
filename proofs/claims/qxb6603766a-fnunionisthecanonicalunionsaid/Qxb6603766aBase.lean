/- Words that the walks share. Nothing of the program. -/
import Derived.WalkKit
import Derived.WalkSpells
import Derived.Deep.Draws
namespace Go.Proofs.Qxb6603766a
open Go.RowKit
set_option linter.unusedVariables false

theorem hide {p : Prop} (h : p) : Hid p := h
theorem unhide {p : Prop} (h : Hid p) : p := h

/-- Cells at 'ao' show the values F 0 .. F (n-1). -/
def VRow (w : World) (ao : Option Addr) (n : Nat) (F : Nat → Value) : Prop :=
  n = 0 ∨ ∃ b o, ao = some ⟨b, o, none⟩ ∧ ∀ j, j < n → w.cell? ⟨b, o + j, none⟩ = some (F j)

theorem VRow.below {w w' : World} {ao : Option Addr} {n : Nat} {F : Nat → Value} (h : VRow w ao n F) (hb : Below w.heap.size w w') : VRow w' ao n F := by
  rcases h with h | ⟨b, o, h, hc⟩
  · exact .inl h
  · refine .inr ⟨b, o, h, fun j hj => ?_⟩
    rw [hb.cell (World.block_lt_of_cell? w _ (hc j hj))]
    exact hc j hj

theorem VRow.drewN {w : World} {ao : Option Addr} {n : Nat} {F : Nat → Value} (h : VRow w ao n F) (m : Nat) : VRow (w.drewN m) ao n F := h

/-- A slice's header. -/
structure Hd where
  a : Option Addr
  n : Nat
  c : Nat

def Hd.val (h : Hd) : Value := .slice h.a h.n h.c
def Hd.nil : Hd := ⟨none, 0, 0⟩

/-- Block B is a row of n cells, the first k of which are F 0 .. -/
def Filled (wr : World) (B : Nat) (E : TypeId) (n k : Nat) (F : Nat → Value) : Prop := ∃ cur : Array Value, wr.heap[B]? = some (.cells cur E (0, 0)) ∧ cur.size = n ∧ ∀ j, j < k → cur[j]? = some (F j)

theorem Filled.start (w : World) (E : TypeId) (n : Nat) (cur : Array Value) (F : Nat → Value) (h : cur.size = n) : Filled (w.alloc (.cells cur E)) w.heap.size E n 0 F :=
  ⟨cur, heap_alloc_new w _, h, fun j hj => absurd hj (Nat.not_lt_zero _)⟩

theorem Filled.cell {wr : World} {B E n k : Nat} {F : Nat → Value} (h : Filled wr B E n k F) {j : Nat} (hj : j < n) : ∃ v, wr.cell? ⟨B, j, none⟩ = some v := by
  obtain ⟨cur, h1, h2, _⟩ := h
  refine ⟨cur[j], ?_⟩
  rw [cell_of_row wr B j cur E (0, 0) h1]
  simp [h2, hj]

theorem Filled.free {wr : World} {B E n k : Nat} {F : Nat → Value} (h : Filled wr B E n k F) (j : Nat) : wr.frozen? ⟨B, j, none⟩ = false := by
  obtain ⟨cur, h1, _, _⟩ := h
  exact frozen_of_row wr B j cur E h1

theorem Filled.step {wr : World} {B E n k : Nat} {F : Nat → Value} (h : Filled wr B E n k F) (hk : k < n) : Filled (wr.setCell ⟨B, k, none⟩ (F k)) B E n (k + 1) F := by
  obtain ⟨cur, h1, h2, h3⟩ := h
  refine ⟨cur.setIfInBounds k (F k), heap_setCell_same wr B k cur E _ h1, by simpa using h2, fun j hj => ?_⟩
  rw [Array.getElem?_setIfInBounds]
  by_cases e : k = j
  · subst e
    simp [h2, hk]
  · simp [e, h3 j (by omega)]

theorem Filled.row {wr : World} {B E n k : Nat} {F : Nat → Value} (h : Filled wr B E n k F) : VRow wr (some ⟨B, 0, none⟩) k F := by
  obtain ⟨cur, h1, h2, h3⟩ := h
  refine .inr ⟨B, 0, rfl, fun j hj => ?_⟩
  rw [Nat.zero_add, cell_of_row wr B j cur E (0, 0) h1, h3 j hj]

end Go.Proofs.Qxb6603766a
