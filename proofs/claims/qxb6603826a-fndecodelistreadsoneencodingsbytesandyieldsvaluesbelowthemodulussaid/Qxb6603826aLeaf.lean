/- decodeList: the bytes that are read; the last value. -/
import Derived.Test.Qxb6603826aEncInv
import Derived.BigQuiet
import Derived.Laws.BitsAllLaws
namespace Go.Proofs.Qxb6603826a
open Go.RowKit
set_option linter.unusedVariables false

/-- A slice that reads the bytes B. -/
def BS (w : World) (v : Value) (B : List Nat) : Prop :=
  (∀ x, x ∈ B → x < 256) ∧ ((v = .slice none 0 0 ∧ B = []) ∨ ∃ g o c, v = .slice (some ⟨g, o, none⟩) B.length c ∧ B.length ≤ c ∧ ∀ j, j < B.length → w.cell? ⟨g, o + j, none⟩ = some (.int .u8 (B.getD j 0 : Nat)))

theorem BS.below {w w' : World} {v : Value} {B : List Nat} (h : BS w v B) {n : Nat} (hn : w.heap.size ≤ n) (hb : Below n w w') : BS w' v B := by
  obtain ⟨h0, h | ⟨g, o, c, h1, h2, h3⟩⟩ := h
  · exact ⟨h0, .inl h⟩
  · refine ⟨h0, .inr ⟨g, o, c, h1, h2, fun j hj => ?_⟩⟩
    rw [hb.cell (Nat.lt_of_lt_of_le (World.block_lt_of_cell? w _ (h3 j hj)) hn)]
    exact h3 j hj

theorem BS.uncons {w : World} {v : Value} {b : Nat} {B : List Nat} (h : BS w v (b :: B)) :
    b < 256 ∧ ∃ g o v', (∀ w' : World, (Instr.indexAt 22 v (.int .i64 0)).run Try.prog w' = .ok (.pointer (some ⟨g, o, none⟩)) w') ∧ w.cell? ⟨g, o, none⟩ = some (.int .u8 (b : Nat)) ∧
      (∀ w' : World, (Instr.slice 22 v (some (.int .i64 1)) none none).run Try.prog w' = .ok v' w') ∧ BS w v' B := by
  obtain ⟨h0, ⟨_, h⟩ | ⟨g, o, c, rfl, h2, h3⟩⟩ := h
  · cases h
  · simp only [List.length_cons] at h2 h3
    refine ⟨h0 b (by simp), g, o, .slice (if c = 1 then some ⟨g, o, none⟩ else some ⟨g, o + 1, none⟩) B.length (c - 1), fun w' => ?_, by simpa using h3 0 (by omega), fun w' => ?_, fun x hx => h0 x (by simp [hx]), .inr ?_⟩
    · go_simp
    · go_simp
      intro h9
      omega
    · by_cases hc : c = 1
      · refine ⟨g, o, c - 1, by simp [hc], by omega, fun j hj => by omega⟩
      · refine ⟨g, o + 1, c - 1, by simp [hc], by omega, fun j hj => ?_⟩
        have h9 := h3 (j + 1) (by omega)
        rw [show o + 1 + j = o + (j + 1) by omega, h9]
        simp [List.getD]

/-- What decodeList leaves: the values R in a row of their own; the bytes that follow. -/
def DPost (w0 w : World) (R B : List Nat) (e : Ending) (w' : World) : Prop :=
  ∃ v vb, e = .returned (.tuple #[v, vb]) ∧ w'.ownsRow w.heap.size 24 1 v R.length (c32 R) ∧ BS w0 vb B ∧ Below w.heap.size w w'

theorem or_zero (b : Nat) (hb : b < 256) : bits .or .u32 (0 : Int) (b : Int) = (b : Int) := by
  have h := u32_or_nat 0 b (by omega) (by omega)
  simpa using h
theorem or_high (a b : Nat) (ha : a < 256) (hb : b < 256) : bits .or .u32 (a : Int) ((b : Int) * 256) = ((a + 256 * b : Nat) : Int) := by
  have h := u32_or_nat a (b * 256) (by omega) (by omega)
  have e : a ||| b * 256 = a + 256 * b := by
    have h9 := Nat.shiftLeft_add_eq_or_of_lt (i := 8) (b := a) ha b
    rw [Nat.shiftLeft_eq] at h9
    rw [Nat.or_comm, ← h9]
    omega
  rw [e] at h
  rw [← h]
  simp

theorem own_one (w : World) (x : Value) : (w.alloc (.cells #[x] 24)).ownsRow w.heap.size 24 1 (.slice (some ⟨w.heap.size, 0, none⟩) 1 1) 1 [x] :=
  ⟨by simp, .inr ⟨w.heap.size, 1, #[x], rfl, Nat.le_refl _, heap_alloc_new w _, Nat.le_refl _, by simp [maxLen], by simp, by simp⟩⟩

set_option maxRecDepth 100000 in
set_option maxHeartbeats 1000000 in
theorem leaf0 (vb : Value) (gm om cm : Nat) (w : World) (hm : w.cell? ⟨gm, om, none⟩ = some (.int .u32 (1 : Nat))) (B : List Nat) (w0 : World) (hw0 : Below w0.heap.size w0 w) (hB : BS w0 vb B) :
    Calls Try.prog 21 #[vb, .slice (some ⟨gm, om, none⟩) 1 cm] w (DPost w0 w [0] B) := by
  have HB := hide hB
  clear hB hw0
  go_enter Try.func21, Try.ntmps21
  go_wp2
  refine wp_loop_rounds 1 ?_
  rw [rounds_succ]
  go_wp2
  go_ret2
  exact ⟨_, _, rfl, own_one w _, unhide HB, (Below.refl _ _).alloc (Nat.le_refl _) _⟩

set_option maxRecDepth 100000 in
set_option maxHeartbeats 1000000 in
theorem leaf1 (vb : Value) (gm om cm m : Nat) (w : World) (h1 : 2 ≤ m) (h2 : m ≤ 256) (hm : w.cell? ⟨gm, om, none⟩ = some (.int .u32 m)) (b : Nat) (B : List Nat) (w0 : World) (hw0 : Below w0.heap.size w0 w) (hB : BS w0 vb (b :: B)) :
    Calls Try.prog 21 #[vb, .slice (some ⟨gm, om, none⟩) 1 cm] w (DPost w0 w [b % m] B) := by
  obtain ⟨hb, g, o, vb1, hix, hc, hsl, hB1⟩ := hB.uncons
  rw [← hw0.cell (World.block_lt_of_cell? w0 _ hc)] at hc
  have hor := or_zero b hb
  have HB := hide hB1
  clear hB hB1 hw0
  go_enter Try.func21, Try.ntmps21
  go_wp2
  refine wp_loop_rounds 2 ?_
  rw [rounds_succ]
  go_wp2
  rw [rounds_succ]
  go_wp2
  go_ret2
  exact ⟨_, _, rfl, own_one w _, unhide HB, (Below.refl _ _).alloc (Nat.le_refl _) _⟩

set_option maxRecDepth 100000 in
set_option maxHeartbeats 1000000 in
theorem leaf2 (vb : Value) (gm om cm m : Nat) (w : World) (h1 : 257 ≤ m) (h2 : m ≤ 16384) (hm : w.cell? ⟨gm, om, none⟩ = some (.int .u32 m)) (b b' : Nat) (B : List Nat) (w0 : World) (hw0 : Below w0.heap.size w0 w) (hB : BS w0 vb (b :: b' :: B)) :
    Calls Try.prog 21 #[vb, .slice (some ⟨gm, om, none⟩) 1 cm] w (DPost w0 w [(b + 256 * b') % m] B) := by
  obtain ⟨hb, g, o, vb1, hix, hc, hsl, hB1⟩ := hB.uncons
  rw [← hw0.cell (World.block_lt_of_cell? w0 _ hc)] at hc
  obtain ⟨hb', g', o', vb2, hix', hc', hsl', hB2⟩ := hB1.uncons
  rw [← hw0.cell (World.block_lt_of_cell? w0 _ hc')] at hc'
  have hor := or_zero b hb
  have hor' := or_high b b' hb hb'
  have HB := hide hB2
  clear hB hB1 hB2 hw0
  go_enter Try.func21, Try.ntmps21
  go_wp2
  refine wp_loop_rounds 3 ?_
  rw [rounds_succ]
  go_wp2
  rw [rounds_succ]
  go_wp2
  rw [rounds_succ]
  go_wp2
  go_ret2
  exact ⟨_, _, rfl, own_one w _, unhide HB, (Below.refl _ _).alloc (Nat.le_refl _) _⟩

end Go.Proofs.Qxb6603826a
