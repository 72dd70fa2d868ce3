/- FnApplyWritesSpec: the clones. -/
import Derived.Test.Qxb6603717aProg
import Derived.Test.Qxb6603717aAwBase
namespace Go.Proofs.Qxb6603717a.Aw
open Go.RowKit
set_option linter.unusedVariables false

/-- Block B is a row of n cells, the first k of which are F 0 .. -/
def Filled (wr : World) (B : Nat) (E : TypeId) (n k : Nat) (F : Nat → Value) : Prop := ∃ cur : Array Value, wr.heap[B]? = some (.cells cur E (0, 0)) ∧ cur.size = n ∧ ∀ j, j < k → cur[j]? = some (F j)

theorem Filled.start (w : World) (E : TypeId) (n : Nat) (cur : Array Value) (F : Nat → Value) (h : cur.size = n) : Filled (w.alloc (.cells cur E)) w.heap.size E n 0 F :=
  ⟨cur, heap_alloc_new w _, h, fun j hj => absurd hj (Nat.not_lt_zero _)⟩

theorem Filled.cell {wr : World} {B E n k : Nat} {F : Nat → Value} (h : Filled wr B E n k F) {j : Nat} (hj : j < n) : ∃ v, wr.cell? ⟨B, j, none⟩ = some v := by
  obtain ⟨cur, h1, h2, _⟩ := h
  refine ⟨cur[j], ?_⟩
  rw [cell_of_row wr B j cur E (0, 0) h1]
  simp [h2, hj]

theorem Filled.free {wr : World} {B E n k : Nat} {F : Nat → Value} (h : Filled wr B E n k F) (j : Nat) : wr.frozen? ⟨B, j, none⟩ = false := by
  obtain ⟨cur, h1, _, _⟩ := h
  exact frozen_of_row wr B j cur E h1

theorem Filled.step {wr : World} {B E n k : Nat} {F : Nat → Value} (h : Filled wr B E n k F) (hk : k < n) : Filled (wr.setCell ⟨B, k, none⟩ (F k)) B E n (k + 1) F := by
  obtain ⟨cur, h1, h2, h3⟩ := h
  refine ⟨cur.setIfInBounds k (F k), heap_setCell_same wr B k cur E _ h1, by simpa using h2, fun j hj => ?_⟩
  rw [Array.getElem?_setIfInBounds]
  by_cases e : k = j
  · subst e
    simp [h2, hk]
  · simp [e, h3 j (by omega)]

theorem Filled.row {wr : World} {B E n k : Nat} {F : Nat → Value} (h : Filled wr B E n k F) : VRow wr (some ⟨B, 0, none⟩) k F := by
  obtain ⟨cur, h1, h2, h3⟩ := h
  refine .inr ⟨B, 0, rfl, fun j hj => ?_⟩
  rw [Nat.zero_add, cell_of_row wr B j cur E (0, 0) h1, h3 j hj]


theorem info9' : (Try.prog.info? 9).map (fun i => (i.zero, i.size, i.bytes)) = some (some (.string ⟨#[]⟩), 1, 16) := by kernel_rfl

theorem make27 (n : Nat) (hn : n ≤ 2097152) (w : World) : (Instr.makeSlice 27 (.int .i64 n) (.int .i64 n)).run Try.prog w = .ok (.slice (some ⟨w.heap.size, 0, none⟩) n n) (w.alloc (.cells (madeCells #[.string ⟨#[]⟩] n) 9)) := by
  obtain ⟨i0, hi, hz0, hz1, hz2⟩ := info_parts info9'
  have hr := run_make (P := Try.prog) w 27 9 i0 (.string ⟨#[]⟩) Try.underlying27 hi hz0 .i64 .i64 n n (by omega) (by omega) (by rw [hz2]; omega) (by omega)
  simpa [hz1, Value.cells] using hr

set_option maxHeartbeats 400000 in
theorem cloneStrings_pos (b o n c : Nat) (K : Nat → ByteArray) (w : World) (hn : n ≤ 2097152) (h : ∀ j, j < n → w.cell? ⟨b, o + j, none⟩ = some (Value.string (K j))) :
    Calls Try.prog 12 #[.slice (some ⟨b, o, none⟩) n c] w fun e w' => e = .returned (.slice (some ⟨w.heap.size, 0, none⟩) n n) ∧ VRow w' (some ⟨w.heap.size, 0, none⟩) n (fun j => Value.string (K j)) ∧ Below w.heap.size w w' := by
  have hmk := make27 n hn
  have hnil := fun (a : Option Addr) (n c : Nat) (w : World) => Lib.run_eql_slice_nil (P := Try.prog) w 27 9 a n c 0 0 Try.underlying27
  have H := hide h
  clear h
  go_enter Try.func12, Try.ntmps12
  go_wp2
  go_loopw [4] (fun i wr => ∃ k : Nat, k ≤ n ∧ i = .int .i64 k ∧ Hid (Filled wr w.heap.size 9 n k (fun j => Value.string (K j))) ∧ Below w.heap.size w wr) (fun i _ => n - (intOf i).toNat)
  case atStart => exact ⟨0, Nat.zero_le _, rfl, Filled.start w 9 n _ _ (size_madeCells _ _), (Below.refl _ _).alloc (Nat.le_refl _) _⟩
  case round =>
    obtain ⟨k, hk, rfl, HF, hb⟩ := hrel
    by_cases hlt : k < n
    · have hc0 := unhide H k hlt
      have hc1 : wr.cell? ⟨b, o + k, none⟩ = some (Value.string (K k)) := by rw [hb.cell (World.block_lt_of_cell? w _ hc0)]; exact hc0
      clear hc0
      obtain ⟨v, hv⟩ := (unhide HF).cell hlt
      have hfr := (unhide HF).free k
      have hst := (unhide HF).step hlt
      generalize K k = x at hc1 hst
      have HST := hide hst
      clear hst hmk hnil
      go_wp2
      go_roundw
      case rel => exact ⟨k + 1, by omega, by go_num, unhide HST, hb.setCell (Nat.le_refl _) _⟩
      case measure => simp [intOf]; omega
    · have hk' : k = n := by omega
      subst hk'
      clear hmk hnil
      go_wp2
      go_ret
      exact ⟨rfl, (unhide HF).row, hb⟩

set_option maxHeartbeats 400000 in
theorem cloneStrings_nil (c : Nat) (w : World) : Calls Try.prog 12 #[.slice none 0 c] w fun e w' => e = .returned (.slice none 0 0) ∧ w = w' := by
  have hnil := fun (a : Option Addr) (n c : Nat) (w : World) => Lib.run_eql_slice_nil (P := Try.prog) w 27 9 a n c 0 0 Try.underlying27
  go_enter Try.func12, Try.ntmps12
  go_wp2
  go_ret
  exact ⟨rfl, rfl⟩

set_option maxHeartbeats 400000 in
theorem cloneStrings_zero (x : Addr) (c : Nat) (w : World) : Calls Try.prog 12 #[.slice (some x) 0 c] w fun e w' => e = .returned (.slice (some ⟨w.heap.size, 0, none⟩) 0 0) ∧ Below w.heap.size w w' := by
  have hmk : ∀ w : World, (Instr.makeSlice 27 (.int .i64 0) (.int .i64 0)).run Try.prog w = .ok (.slice (some ⟨w.heap.size, 0, none⟩) 0 0) (w.alloc (.cells (madeCells #[.string ⟨#[]⟩] 0) 9)) := make27 0 (by omega)
  have hnil := fun (a : Option Addr) (n c : Nat) (w : World) => Lib.run_eql_slice_nil (P := Try.prog) w 27 9 a n c 0 0 Try.underlying27
  go_enter Try.func12, Try.ntmps12
  go_wp2
  refine wp_loop_rounds 1 ?_
  rw [rounds_succ]
  go_wp2
  go_ret
  exact ⟨rfl, (Below.refl _ _).alloc (Nat.le_refl _) _⟩

theorem cloneStrings_any (a : Option Addr) (n c : Nat) (K : Nat → ByteArray) (w : World) (hn : n ≤ 2097152) (ha : a = none → n = 0) (h : VRow w a n (fun j => Value.string (K j))) :
    Calls Try.prog 12 #[.slice a n c] w fun e w' => ∃ hd : Hd, e = .returned hd.val ∧ hd.n = n ∧ (hd.a = none → hd.n = 0) ∧ (∀ b o, hd.a = some ⟨b, o, none⟩ → w.heap.size ≤ b) ∧ VRow w' hd.a n (fun j => Value.string (K j)) ∧ Below w.heap.size w w' := by
  cases a with
  | none =>
    obtain rfl := ha rfl
    exact (cloneStrings_nil c w).mono fun e w' ⟨h1, h2⟩ => ⟨Hd.nil, h1, rfl, fun _ => rfl, (fun b o h => by cases h), .inl rfl, h2 ▸ Below.refl _ _⟩
  | some x =>
    rcases h with rfl | ⟨b, o, hx, hc⟩
    · exact (cloneStrings_zero x c w).mono fun e w' ⟨h1, h2⟩ => ⟨⟨some ⟨w.heap.size, 0, none⟩, 0, 0⟩, h1, rfl, fun _ => rfl, (fun b o h => by cases h; exact Nat.le_refl _), .inl rfl, h2⟩
    · obtain rfl := Option.some.inj hx
      exact (cloneStrings_pos b o n c K w hn hc).mono fun e w' ⟨h1, h2, h3⟩ => ⟨⟨some ⟨w.heap.size, 0, none⟩, n, n⟩, h1, rfl, (fun h => by cases h), (fun b o h => by cases h; exact Nat.le_refl _), h2, h3⟩

theorem info4' : (Try.prog.info? 4).map (fun i => (i.zero, i.size, i.bytes)) = some (some (.bool false), 1, 1) := by kernel_rfl

theorem make29 (n : Nat) (hn : n ≤ 2097152) (w : World) : (Instr.makeSlice 29 (.int .i64 n) (.int .i64 n)).run Try.prog w = .ok (.slice (some ⟨w.heap.size, 0, none⟩) n n) (w.alloc (.cells (madeCells #[.bool false] n) 4)) := by
  obtain ⟨i0, hi, hz0, hz1, hz2⟩ := info_parts info4'
  have hr := run_make (P := Try.prog) w 29 4 i0 (.bool false) Try.underlying29 hi hz0 .i64 .i64 n n (by omega) (by omega) (by rw [hz2]; omega) (by omega)
  simpa [hz1, Value.cells] using hr

set_option maxHeartbeats 400000 in
theorem cloneBools_pos (b o n c : Nat) (K : Nat → Bool) (w : World) (hn : n ≤ 2097152) (h : ∀ j, j < n → w.cell? ⟨b, o + j, none⟩ = some (Value.bool (K j))) :
    Calls Try.prog 14 #[.slice (some ⟨b, o, none⟩) n c] w fun e w' => e = .returned (.slice (some ⟨w.heap.size, 0, none⟩) n n) ∧ VRow w' (some ⟨w.heap.size, 0, none⟩) n (fun j => Value.bool (K j)) ∧ Below w.heap.size w w' := by
  have hmk := make29 n hn
  have hnil := fun (a : Option Addr) (n c : Nat) (w : World) => Lib.run_eql_slice_nil (P := Try.prog) w 29 4 a n c 0 0 Try.underlying29
  have H := hide h
  clear h
  go_enter Try.func14, Try.ntmps14
  go_wp2
  go_loopw [4] (fun i wr => ∃ k : Nat, k ≤ n ∧ i = .int .i64 k ∧ Hid (Filled wr w.heap.size 4 n k (fun j => Value.bool (K j))) ∧ Below w.heap.size w wr) (fun i _ => n - (intOf i).toNat)
  case atStart => exact ⟨0, Nat.zero_le _, rfl, Filled.start w 4 n _ _ (size_madeCells _ _), (Below.refl _ _).alloc (Nat.le_refl _) _⟩
  case round =>
    obtain ⟨k, hk, rfl, HF, hb⟩ := hrel
    by_cases hlt : k < n
    · have hc0 := unhide H k hlt
      have hc1 : wr.cell? ⟨b, o + k, none⟩ = some (Value.bool (K k)) := by rw [hb.cell (World.block_lt_of_cell? w _ hc0)]; exact hc0
      clear hc0
      obtain ⟨v, hv⟩ := (unhide HF).cell hlt
      have hfr := (unhide HF).free k
      have hst := (unhide HF).step hlt
      generalize K k = x at hc1 hst
      have HST := hide hst
      clear hst hmk hnil
      go_wp2
      go_roundw
      case rel => exact ⟨k + 1, by omega, by go_num, unhide HST, hb.setCell (Nat.le_refl _) _⟩
      case measure => simp [intOf]; omega
    · have hk' : k = n := by omega
      subst hk'
      clear hmk hnil
      go_wp2
      go_ret
      exact ⟨rfl, (unhide HF).row, hb⟩

set_option maxHeartbeats 400000 in
theorem cloneBools_nil (c : Nat) (w : World) : Calls Try.prog 14 #[.slice none 0 c] w fun e w' => e = .returned (.slice none 0 0) ∧ w = w' := by
  have hnil := fun (a : Option Addr) (n c : Nat) (w : World) => Lib.run_eql_slice_nil (P := Try.prog) w 29 4 a n c 0 0 Try.underlying29
  go_enter Try.func14, Try.ntmps14
  go_wp2
  go_ret
  exact ⟨rfl, rfl⟩

set_option maxHeartbeats 400000 in
theorem cloneBools_zero (x : Addr) (c : Nat) (w : World) : Calls Try.prog 14 #[.slice (some x) 0 c] w fun e w' => e = .returned (.slice (some ⟨w.heap.size, 0, none⟩) 0 0) ∧ Below w.heap.size w w' := by
  have hmk : ∀ w : World, (Instr.makeSlice 29 (.int .i64 0) (.int .i64 0)).run Try.prog w = .ok (.slice (some ⟨w.heap.size, 0, none⟩) 0 0) (w.alloc (.cells (madeCells #[.bool false] 0) 4)) := make29 0 (by omega)
  have hnil := fun (a : Option Addr) (n c : Nat) (w : World) => Lib.run_eql_slice_nil (P := Try.prog) w 29 4 a n c 0 0 Try.underlying29
  go_enter Try.func14, Try.ntmps14
  go_wp2
  refine wp_loop_rounds 1 ?_
  rw [rounds_succ]
  go_wp2
  go_ret
  exact ⟨rfl, (Below.refl _ _).alloc (Nat.le_refl _) _⟩

theorem cloneBools_any (a : Option Addr) (n c : Nat) (K : Nat → Bool) (w : World) (hn : n ≤ 2097152) (ha : a = none → n = 0) (h : VRow w a n (fun j => Value.bool (K j))) :
    Calls Try.prog 14 #[.slice a n c] w fun e w' => ∃ hd : Hd, e = .returned hd.val ∧ hd.n = n ∧ (hd.a = none → hd.n = 0) ∧ (∀ b o, hd.a = some ⟨b, o, none⟩ → w.heap.size ≤ b) ∧ VRow w' hd.a n (fun j => Value.bool (K j)) ∧ Below w.heap.size w w' := by
  cases a with
  | none =>
    obtain rfl := ha rfl
    exact (cloneBools_nil c w).mono fun e w' ⟨h1, h2⟩ => ⟨Hd.nil, h1, rfl, fun _ => rfl, (fun b o h => by cases h), .inl rfl, h2 ▸ Below.refl _ _⟩
  | some x =>
    rcases h with rfl | ⟨b, o, hx, hc⟩
    · exact (cloneBools_zero x c w).mono fun e w' ⟨h1, h2⟩ => ⟨⟨some ⟨w.heap.size, 0, none⟩, 0, 0⟩, h1, rfl, fun _ => rfl, (fun b o h => by cases h; exact Nat.le_refl _), .inl rfl, h2⟩
    · obtain rfl := Option.some.inj hx
      exact (cloneBools_pos b o n c K w hn hc).mono fun e w' ⟨h1, h2, h3⟩ => ⟨⟨some ⟨w.heap.size, 0, none⟩, n, n⟩, h1, rfl, (fun h => by cases h), (fun b o h => by cases h; exact Nat.le_refl _), h2, h3⟩

theorem info5' : (Try.prog.info? 5).map (fun i => (i.zero, i.size, i.bytes)) = some (some (.int .u8 0), 1, 1) := by kernel_rfl

theorem make23 (n : Nat) (hn : n ≤ 2097152) (w : World) : (Instr.makeSlice 23 (.int .i64 n) (.int .i64 n)).run Try.prog w = .ok (.slice (some ⟨w.heap.size, 0, none⟩) n n) (w.alloc (.cells (madeCells #[.int .u8 0] n) 5)) := by
  obtain ⟨i0, hi, hz0, hz1, hz2⟩ := info_parts info5'
  have hr := run_make (P := Try.prog) w 23 5 i0 (.int .u8 0) Try.underlying23 hi hz0 .i64 .i64 n n (by omega) (by omega) (by rw [hz2]; omega) (by omega)
  simpa [hz1, Value.cells] using hr

set_option maxHeartbeats 400000 in
theorem cloneBytes_pos (b o n c : Nat) (K : Nat → Int) (w : World) (hn : n ≤ 2097152) (h : ∀ j, j < n → w.cell? ⟨b, o + j, none⟩ = some (Value.int .u8 (K j))) :
    Calls Try.prog 25 #[.slice (some ⟨b, o, none⟩) n c] w fun e w' => e = .returned (.slice (some ⟨w.heap.size, 0, none⟩) n n) ∧ VRow w' (some ⟨w.heap.size, 0, none⟩) n (fun j => Value.int .u8 (K j)) ∧ Below w.heap.size w w' := by
  have hmk := make23 n hn
  have hnil := fun (a : Option Addr) (n c : Nat) (w : World) => Lib.run_eql_slice_nil (P := Try.prog) w 23 5 a n c 0 0 Try.underlying23
  have H := hide h
  clear h
  go_enter Try.func25, Try.ntmps25
  go_wp2
  go_loopw [4] (fun i wr => ∃ k : Nat, k ≤ n ∧ i = .int .i64 k ∧ Hid (Filled wr w.heap.size 5 n k (fun j => Value.int .u8 (K j))) ∧ Below w.heap.size w wr) (fun i _ => n - (intOf i).toNat)
  case atStart => exact ⟨0, Nat.zero_le _, rfl, Filled.start w 5 n _ _ (size_madeCells _ _), (Below.refl _ _).alloc (Nat.le_refl _) _⟩
  case round =>
    obtain ⟨k, hk, rfl, HF, hb⟩ := hrel
    by_cases hlt : k < n
    · have hc0 := unhide H k hlt
      have hc1 : wr.cell? ⟨b, o + k, none⟩ = some (Value.int .u8 (K k)) := by rw [hb.cell (World.block_lt_of_cell? w _ hc0)]; exact hc0
      clear hc0
      obtain ⟨v, hv⟩ := (unhide HF).cell hlt
      have hfr := (unhide HF).free k
      have hst := (unhide HF).step hlt
      generalize K k = x at hc1 hst
      have HST := hide hst
      clear hst hmk hnil
      go_wp2
      go_roundw
      case rel => exact ⟨k + 1, by omega, by go_num, unhide HST, hb.setCell (Nat.le_refl _) _⟩
      case measure => simp [intOf]; omega
    · have hk' : k = n := by omega
      subst hk'
      clear hmk hnil
      go_wp2
      go_ret
      exact ⟨rfl, (unhide HF).row, hb⟩

set_option maxHeartbeats 400000 in
theorem cloneBytes_nil (c : Nat) (w : World) : Calls Try.prog 25 #[.slice none 0 c] w fun e w' => e = .returned (.slice none 0 0) ∧ w = w' := by
  have hnil := fun (a : Option Addr) (n c : Nat) (w : World) => Lib.run_eql_slice_nil (P := Try.prog) w 23 5 a n c 0 0 Try.underlying23
  go_enter Try.func25, Try.ntmps25
  go_wp2
  go_ret
  exact ⟨rfl, rfl⟩

set_option maxHeartbeats 400000 in
theorem cloneBytes_zero (x : Addr) (c : Nat) (w : World) : Calls Try.prog 25 #[.slice (some x) 0 c] w fun e w' => e = .returned (.slice (some ⟨w.heap.size, 0, none⟩) 0 0) ∧ Below w.heap.size w w' := by
  have hmk : ∀ w : World, (Instr.makeSlice 23 (.int .i64 0) (.int .i64 0)).run Try.prog w = .ok (.slice (some ⟨w.heap.size, 0, none⟩) 0 0) (w.alloc (.cells (madeCells #[.int .u8 0] 0) 5)) := make23 0 (by omega)
  have hnil := fun (a : Option Addr) (n c : Nat) (w : World) => Lib.run_eql_slice_nil (P := Try.prog) w 23 5 a n c 0 0 Try.underlying23
  go_enter Try.func25, Try.ntmps25
  go_wp2
  refine wp_loop_rounds 1 ?_
  rw [rounds_succ]
  go_wp2
  go_ret
  exact ⟨rfl, (Below.refl _ _).alloc (Nat.le_refl _) _⟩

theorem cloneBytes_any (a : Option Addr) (n c : Nat) (K : Nat → Int) (w : World) (hn : n ≤ 2097152) (ha : a = none → n = 0) (h : VRow w a n (fun j => Value.int .u8 (K j))) :
    Calls Try.prog 25 #[.slice a n c] w fun e w' => ∃ hd : Hd, e = .returned hd.val ∧ hd.n = n ∧ (hd.a = none → hd.n = 0) ∧ (∀ b o, hd.a = some ⟨b, o, none⟩ → w.heap.size ≤ b) ∧ VRow w' hd.a n (fun j => Value.int .u8 (K j)) ∧ Below w.heap.size w w' := by
  cases a with
  | none =>
    obtain rfl := ha rfl
    exact (cloneBytes_nil c w).mono fun e w' ⟨h1, h2⟩ => ⟨Hd.nil, h1, rfl, fun _ => rfl, (fun b o h => by cases h), .inl rfl, h2 ▸ Below.refl _ _⟩
  | some x =>
    rcases h with rfl | ⟨b, o, hx, hc⟩
    · exact (cloneBytes_zero x c w).mono fun e w' ⟨h1, h2⟩ => ⟨⟨some ⟨w.heap.size, 0, none⟩, 0, 0⟩, h1, rfl, fun _ => rfl, (fun b o h => by cases h; exact Nat.le_refl _), .inl rfl, h2⟩
    · obtain rfl := Option.some.inj hx
      exact (cloneBytes_pos b o n c K w hn hc).mono fun e w' ⟨h1, h2, h3⟩ => ⟨⟨some ⟨w.heap.size, 0, none⟩, n, n⟩, h1, rfl, (fun h => by cases h), (fun b o h => by cases h; exact Nat.le_refl _), h2, h3⟩

end Go.Proofs.Qxb6603717a.Aw
