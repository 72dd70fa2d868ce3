/- FnApplyWritesSpec: words that the walks share. Nothing of the program. -/
import Derived.WalkKit
import Derived.WalkSpells
import Derived.Deep.Draws
namespace Go.Proofs.Qxb6603717a.Aw
open Go.RowKit
set_option linter.unusedVariables false

theorem hide {p : Prop} (h : p) : Hid p := h
theorem unhide {p : Prop} (h : Hid p) : p := h

/-- Cells at 'ao' show the values F 0 .. F (n-1). -/
def VRow (w : World) (ao : Option Addr) (n : Nat) (F : Nat → Value) : Prop :=
  n = 0 ∨ ∃ b o, ao = some ⟨b, o, none⟩ ∧ ∀ j, j < n → w.cell? ⟨b, o + j, none⟩ = some (F j)

theorem VRow.below {w w' : World} {ao : Option Addr} {n : Nat} {F : Nat → Value} (h : VRow w ao n F) (hb : Below w.heap.size w w') : VRow w' ao n F := by
  rcases h with h | ⟨b, o, h, hc⟩
  · exact .inl h
  · refine .inr ⟨b, o, h, fun j hj => ?_⟩
    rw [hb.cell (World.block_lt_of_cell? w _ (hc j hj))]
    exact hc j hj

theorem VRow.drewN {w : World} {ao : Option Addr} {n : Nat} {F : Nat → Value} (h : VRow w ao n F) (m : Nat) : VRow (w.drewN m) ao n F := h

/-- A slice's header. -/
structure Hd where
  a : Option Addr
  n : Nat
  c : Nat

def Hd.val (h : Hd) : Value := .slice h.a h.n h.c
def Hd.nil : Hd := ⟨none, 0, 0⟩

/-- The header shows bytes, in blocks from lo on. -/
def Good (lo : Nat) (w : World) (h : Hd) : Prop :=
  h.n ≤ 1048576 ∧ (h.a = none → h.n = 0) ∧ ∃ Z : Nat → Int, h.n = 0 ∨ ∃ b o, lo ≤ b ∧ h.a = some ⟨b, o, none⟩ ∧ ∀ j, j < h.n → w.cell? ⟨b, o + j, none⟩ = some (.int .u8 (Z j))

theorem Good.below {lo : Nat} {w w' : World} {h : Hd} (g : Good lo w h) (hb : Below w.heap.size w w') : Good lo w' h := by
  obtain ⟨h1, h2, Z, h3⟩ := g
  refine ⟨h1, h2, Z, ?_⟩
  rcases h3 with h3 | ⟨b, o, hl, h3, hc⟩
  · exact .inl h3
  · refine .inr ⟨b, o, hl, h3, fun j hj => ?_⟩
    rw [hb.cell (World.block_lt_of_cell? w _ (hc j hj))]
    exact hc j hj

theorem Good.setCell {lo : Nat} {w : World} {h : Hd} (g : Good lo w h) {a : Addr} (ha : a.block < lo) (v : Value) : Good lo (w.setCell a v) h := by
  obtain ⟨h1, h2, Z, h3⟩ := g
  refine ⟨h1, h2, Z, ?_⟩
  rcases h3 with h3 | ⟨b, o, hl, h3, hc⟩
  · exact .inl h3
  · refine .inr ⟨b, o, hl, h3, fun j hj => ?_⟩
    rw [World.cell?_of_block (w := w)]
    · exact hc j hj
    · exact Below.heap_setCell _ _ _ _ (by show b ≠ a.block; omega)

theorem Good.mono {lo lo' : Nat} {w : World} {h : Hd} (g : Good lo w h) (hl : lo' ≤ lo) : Good lo' w h := by
  obtain ⟨h1, h2, Z, h3⟩ := g
  refine ⟨h1, h2, Z, ?_⟩
  rcases h3 with h3 | ⟨b, o, hl', h3, hc⟩
  · exact .inl h3
  · exact .inr ⟨b, o, by omega, h3, hc⟩

theorem Good.nil (lo : Nat) (w : World) : Good lo w Hd.nil := ⟨by simp [Hd.nil], fun _ => rfl, fun _ => 0, .inl rfl⟩

/-- 'valAt', 'boolAt', plainly. -/
def valOf (V : Nat → Hd) (n i : Nat) : Hd := if i < n then V i else Hd.nil
def boolOf (D : Nat → Bool) (n i : Nat) : Bool := if i < n then D i else false
/-- 'keyAt', plainly. -/
def keyOf2 (K1 : Nat → ByteArray) (n1 : Nat) (K2 : Nat → ByteArray) (i : Nat) : ByteArray := if i < n1 then K1 i else K2 (i - n1)
/-- 'seenBefore', plainly: one of the first i keys is k. -/
def seenB (K : Nat → ByteArray) : Nat → ByteArray → Bool
  | 0, _ => false
  | i + 1, k => seenB K i k || (K i).toList == k.toList
/-- 'lastIndex', plainly. -/
def lastI (K : Nat → ByteArray) : Nat → ByteArray → Option Nat
  | 0, _ => none
  | n + 1, k => if (K n).toList == k.toList then some n else lastI K n k
def idx : Option Nat → Int
  | none => -1
  | some j => j

end Go.Proofs.Qxb6603717a.Aw
