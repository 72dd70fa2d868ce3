/- zzSet, zzSpans. -/
import Derived.Test.Qxb6603766aClone
import Derived.RegionTactic
namespace Go.Proofs.Qxb6603766a
open Go.RowKit
set_option linter.unusedVariables false

theorem info56 : (Try.prog.info? 56).map (fun i => (i.zero, i.size, i.bytes)) = some (some (.agg #[.int .i32 0, .int .i32 0]), 2, 8) := by kernel_rfl

/-- Block B is a row of n spans, the first k of which are X 0 .. -/
def FillP (wr : World) (B n k : Nat) (X : Nat → Int × Int) : Prop := ∃ cur : Array Value, wr.heap[B]? = some (.cells cur 56 (0, 0)) ∧ cur.size = n * 2 ∧ ∀ j, j < k → cur[j * 2]? = some (.int .i32 (X j).1) ∧ cur[j * 2 + 1]? = some (.int .i32 (X j).2)

theorem FillP.start (w : World) (n : Nat) (cur : Array Value) (X : Nat → Int × Int) (h : cur.size = n * 2) : FillP (w.alloc (.cells cur 56)) w.heap.size n 0 X :=
  ⟨cur, heap_alloc_new w _, h, fun j hj => absurd hj (Nat.not_lt_zero _)⟩

theorem FillP.cell {wr : World} {B n k : Nat} {X : Nat → Int × Int} (h : FillP wr B n k X) {j : Nat} (hj : j < n) : (∃ v, wr.cell? ⟨B, j * 2, none⟩ = some v) ∧ ∃ v, wr.cell? ⟨B, j * 2 + 1, none⟩ = some v := by
  obtain ⟨cur, h1, h2, _⟩ := h
  refine ⟨⟨cur[j * 2]'(by omega), ?_⟩, ⟨cur[j * 2 + 1]'(by omega), ?_⟩⟩
  · rw [cell_of_row wr B _ cur 56 (0, 0) h1]
    simp [show j * 2 < cur.size by omega]
  · rw [cell_of_row wr B _ cur 56 (0, 0) h1]
    simp [show j * 2 + 1 < cur.size by omega]

theorem FillP.free {wr : World} {B n k : Nat} {X : Nat → Int × Int} (h : FillP wr B n k X) (j : Nat) : wr.frozen? ⟨B, j, none⟩ = false := by
  obtain ⟨cur, h1, _, _⟩ := h
  exact frozen_of_row wr B j cur 56 h1

theorem FillP.step {wr : World} {B n k : Nat} {X : Nat → Int × Int} (h : FillP wr B n k X) (hk : k < n) : FillP (((wr.setCell ⟨B, k * 2, none⟩ (.int .i32 (X k).1)).setCell ⟨B, k * 2 + 1, none⟩ (.int .i32 (X k).2))).drew B n (k + 1) X := by
  obtain ⟨cur, h1, h2, h3⟩ := h
  have e1 := heap_setCell_same wr B (k * 2) cur 56 (.int .i32 (X k).1) h1
  have e2 := heap_setCell_same _ B (k * 2 + 1) _ 56 (.int .i32 (X k).2) e1
  refine ⟨_, e2, by simpa using h2, fun j hj => ?_⟩
  rw [Array.getElem?_setIfInBounds, Array.getElem?_setIfInBounds, Array.getElem?_setIfInBounds, Array.getElem?_setIfInBounds]
  by_cases e : j = k
  · subst e
    simp [h2]
    omega
  · obtain ⟨h4, h5⟩ := h3 j (by omega)
    simp [show ¬ k * 2 + 1 = j * 2 by omega, show ¬ k * 2 = j * 2 by omega, show ¬ k * 2 = j * 2 + 1 by omega, h4, h5]

/-- Spans at g, from the head of the block. -/
def SRow (w : World) (g n : Nat) (X : Nat → Int × Int) : Prop := ∀ j, j < n → w.cell? ⟨g, j * 2, none⟩ = some (.int .i32 (X j).1) ∧ w.cell? ⟨g, j * 2 + 1, none⟩ = some (.int .i32 (X j).2)

theorem FillP.row {wr : World} {B n k : Nat} {X : Nat → Int × Int} (h : FillP wr B n k X) : SRow wr B k X := by
  obtain ⟨cur, h1, h2, h3⟩ := h
  intro j hj
  rw [cell_of_row wr B _ cur 56 (0, 0) h1, cell_of_row wr B _ cur 56 (0, 0) h1]
  exact h3 j hj

theorem SRow.below {w w' : World} {g n : Nat} {X : Nat → Int × Int} (h : SRow w g n X) (hb : Below w.heap.size w w') : SRow w' g n X := by
  intro j hj
  rw [hb.cell (World.block_lt_of_cell? w _ (h j hj).1), hb.cell (World.block_lt_of_cell? w _ (h j hj).2)]
  exact h j hj

theorem makeSet (n : Nat) (hn : n ≤ 2097152) (w : World) : (Instr.makeSlice 37 (.int .i64 n) (.int .i64 n)).run Try.prog w = .ok (.slice (some ⟨w.heap.size, 0, none⟩) n n) (w.alloc (.cells (madeCells #[.int .i32 0, .int .i32 0] (n * 2)) 56)) := by
  obtain ⟨i0, hi, hz0, hz1, hz2⟩ := info_parts info56
  have hr := run_make (P := Try.prog) w 37 56 i0 (.agg #[.int .i32 0, .int .i32 0]) Try.underlying37 hi hz0 .i64 .i64 n n (by omega) (by omega) (by rw [hz2]; omega) (by omega)
  simpa [hz1, Value.cells] using hr

set_option maxHeartbeats 400000 in
theorem zzSet_pos (b o b' o' n c c' : Nat) (L H : Nat → Int) (w : World) (hn : n ≤ 1048576) (h : ∀ j, j < n → w.cell? ⟨b, o + j, none⟩ = some (.int .i32 (L j))) (h' : ∀ j, j < n → w.cell? ⟨b', o' + j, none⟩ = some (.int .i32 (H j))) :
    Calls Try.prog 20 #[.slice (some ⟨b, o, none⟩) n c, .slice (some ⟨b', o', none⟩) n c'] w fun e w' => e = .returned (.slice (some ⟨w.heap.size, 0, none⟩) n n) ∧ FillP w' w.heap.size n n (fun j => (L j, H j)) ∧ Below w.heap.size w w' := by
  have hmk := makeSet n (by omega)
  have H1 := hide h
  have H2 := hide h'
  clear h h'
  go_enter Try.func20, Try.ntmps20
  go_wp2
  go_loopw [6] (fun i wr => ∃ k : Nat, k ≤ n ∧ i = .int .i64 k ∧ Hid (FillP wr w.heap.size n k (fun j => (L j, H j))) ∧ Below w.heap.size w wr) (fun i _ => n - (intOf i).toNat)
  case atStart => exact ⟨0, Nat.zero_le _, rfl, FillP.start w n _ _ (size_madeCells _ _), (Below.refl _ _).alloc (Nat.le_refl _) _⟩
  case round =>
    obtain ⟨k, hk, rfl, HF, hb⟩ := hrel
    by_cases hlt : k < n
    · have hc0 := unhide H1 k hlt
      have hc0' := unhide H2 k hlt
      have hc1 : wr.cell? ⟨b, o + k, none⟩ = some (.int .i32 (L k)) := by rw [hb.cell (World.block_lt_of_cell? w _ hc0)]; exact hc0
      have hc2 : wr.cell? ⟨b', o' + k, none⟩ = some (.int .i32 (H k)) := by rw [hb.cell (World.block_lt_of_cell? w _ hc0')]; exact hc0'
      clear hc0 hc0' hmk
      have hlt' : (k : Int) < (n : Int) := by omega
      obtain ⟨⟨v1, hv1⟩, v2, hv2⟩ := (unhide HF).cell hlt
      have hf1 := (unhide HF).free (k * 2)
      have hf2 := (unhide HF).free (k * 2 + 1)
      have hst := (unhide HF).step hlt
      simp only at hst
      generalize L k = x at hc1 hst
      generalize H k = y at hc2 hst
      have HST := hide hst
      clear hst
      go_wp2
      go_region
      all_goals
        go_wp2
        go_roundw
        case rel => exact ⟨k + 1, by omega, by go_num, HST, ((hb.setCell (Nat.le_refl _) _).setCell (Nat.le_refl _) _).drew⟩
        case measure => simp [intOf]; omega
    · have hk' : k = n := by omega
      subst hk'
      clear hmk
      go_wp2
      go_ret
      exact ⟨rfl, unhide HF, hb⟩

set_option maxHeartbeats 400000 in
theorem zzSet_zero (a a' : Option Addr) (c c' n' : Nat) (w : World) : Calls Try.prog 20 #[.slice a 0 c, .slice a' n' c'] w fun e w' => e = .returned (.slice (some ⟨w.heap.size, 0, none⟩) 0 0) ∧ Below w.heap.size w w' := by
  have hmk : ∀ w : World, (Instr.makeSlice 37 (.int .i64 0) (.int .i64 0)).run Try.prog w = .ok (.slice (some ⟨w.heap.size, 0, none⟩) 0 0) (w.alloc (.cells (madeCells #[.int .i32 0, .int .i32 0] (0 * 2)) 56)) := makeSet 0 (by omega)
  go_enter Try.func20, Try.ntmps20
  go_wp2
  refine wp_loop_rounds 1 ?_
  rw [rounds_succ]
  go_wp2
  go_ret
  exact ⟨rfl, (Below.refl _ _).alloc (Nat.le_refl _) _⟩

/-- 'zzSet', whatever two rows of one length. -/
theorem zzSet_any (a a' : Option Addr) (n c c' : Nat) (L H : Nat → Int) (w : World) (hn : n ≤ 1048576) (h : VRow w a n (fun j => .int .i32 (L j))) (h' : VRow w a' n (fun j => .int .i32 (H j))) :
    Calls Try.prog 20 #[.slice a n c, .slice a' n c'] w fun e w' => ∃ g, e = .returned (.slice (some ⟨g, 0, none⟩) n n) ∧ SRow w' g n (fun j => (L j, H j)) ∧ Below w.heap.size w w' := by
  rcases h with rfl | ⟨b, o, rfl, hc⟩
  · exact (zzSet_zero a a' c c' 0 w).mono fun e w' ⟨h1, h2⟩ => ⟨_, h1, fun j hj => absurd hj (Nat.not_lt_zero _), h2⟩
  · rcases h' with rfl | ⟨b', o', rfl, hc'⟩
    · exact (zzSet_zero _ a' c c' 0 w).mono fun e w' ⟨h1, h2⟩ => ⟨_, h1, fun j hj => absurd hj (Nat.not_lt_zero _), h2⟩
    · exact (zzSet_pos b o b' o' n c c' L H w hn hc hc').mono fun e w' ⟨h1, h2, h3⟩ => ⟨_, h1, h2.row, h3⟩

theorem Filled.setOther {wr : World} {B E n k : Nat} {F : Nat → Value} (h : Filled wr B E n k F) {a : Addr} (ha : B ≠ a.block) (v : Value) : Filled (wr.setCell a v) B E n k F := by
  obtain ⟨cur, h1, h2, h3⟩ := h
  exact ⟨cur, (Below.heap_setCell wr a v B ha).trans h1, h2, h3⟩

set_option maxHeartbeats 400000 in
theorem zzSpans_any (g n c : Nat) (X : Nat → Int × Int) (w : World) (hn : n ≤ 1048576) (hg : g < w.heap.size) (h : SRow w g n X) :
    Calls Try.prog 18 #[.slice (some ⟨g, 0, none⟩) n c] w fun e w' => e = .returned (.tuple #[.slice (some ⟨w.heap.size, 0, none⟩) n n, .slice (some ⟨w.heap.size + 1, 0, none⟩) n n]) ∧
      VRow w' (some ⟨w.heap.size, 0, none⟩) n (fun j => .int .i32 (X j).1) ∧ VRow w' (some ⟨w.heap.size + 1, 0, none⟩) n (fun j => .int .i32 (X j).2) ∧ Below w.heap.size w w' := by
  have hmk := make22 n (by omega)
  have H1 := hide h
  clear h
  go_enter Try.func18, Try.ntmps18
  go_wp2
  go_loopw [6] (fun i wr => ∃ k : Nat, k ≤ n ∧ i = .int .i64 k ∧ Hid (Filled wr w.heap.size 21 n k (fun j => .int .i32 (X j).1)) ∧ Hid (Filled wr (w.heap.size + 1) 21 n k (fun j => .int .i32 (X j).2)) ∧ Below w.heap.size w wr) (fun i _ => n - (intOf i).toNat)
  case atStart =>
    refine ⟨0, Nat.zero_le _, rfl, ?_, ?_, ((Below.refl _ _).alloc (Nat.le_refl _) _).alloc (by simp) _⟩
    · obtain ⟨cur, h1, h2, h3⟩ := Filled.start w 21 n (madeCells #[.int .i32 0] n) (fun j => .int .i32 (X j).1) (size_madeCells _ _)
      exact ⟨cur, (Below.heap_alloc _ _ _ (by simp)).trans h1, h2, h3⟩
    · have := Filled.start (w.alloc (.cells (madeCells #[.int .i32 0] n) 21)) 21 n (madeCells #[.int .i32 0] n) (fun j => .int .i32 (X j).2) (size_madeCells _ _)
      rw [World.size_alloc] at this
      exact this
  case round =>
    obtain ⟨k, hk, rfl, HF, HG, hb⟩ := hrel
    clear hmk
    by_cases hlt : k < n
    · obtain ⟨d1, d2⟩ := unhide H1 k hlt
      have hc1 : wr.cell? ⟨g, k * 2, none⟩ = some (.int .i32 (X k).1) := by rw [hb.cell hg]; exact d1
      have hc2 : ∀ v, (wr.setCell ⟨w.heap.size, k, none⟩ v).cell? ⟨g, k * 2 + 1, none⟩ = some (.int .i32 (X k).2) := fun v => by
        rw [World.cell?_of_block (w := wr)]
        · rw [hb.cell hg]; exact d2
        · exact Below.heap_setCell _ _ _ _ (by show g ≠ w.heap.size; omega)
      obtain ⟨v1, hv1⟩ := (unhide HF).cell hlt
      have hf1 := (unhide HF).free k
      have hs1 := (unhide HF).step hlt
      have hg1 := (unhide HG).setOther (a := ⟨w.heap.size, k, none⟩) (by show w.heap.size + 1 ≠ w.heap.size; omega) (.int .i32 (X k).1)
      obtain ⟨v2, hv2⟩ := hg1.cell hlt
      have hf2 := hg1.free k
      have hs2 := hg1.step hlt
      have hs1' := hs1.setOther (a := ⟨w.heap.size + 1, k, none⟩) (by show w.heap.size ≠ w.heap.size + 1; omega) (.int .i32 (X k).2)
      clear d1 d2 hs1 hg1
      generalize hX : X k = x at hc1 hc2 hs1' hs2 hv2 hf2
      clear hX
      obtain ⟨x, y⟩ := x
      simp only at hc1 hc2 hs1' hs2 hv2 hf2
      have S1 := hide hs1'
      have S2 := hide hs2
      clear hs1' hs2
      go_wp2
      go_roundw
      case rel => exact ⟨k + 1, by omega, by go_num, S1, S2, (hb.setCell (Nat.le_refl _) _).setCell (Nat.le_succ _) _⟩
      case measure => simp [intOf]; omega
    · have hk' : k = n := by omega
      subst hk'
      go_wp2
      go_ret2
      exact ⟨rfl, (unhide HF).row, (unhide HG).row, hb⟩

end Go.Proofs.Qxb6603766a
