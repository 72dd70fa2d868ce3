/- b1CloneBytes, b1CloneWords. -/
import Derived.Test.Qxb6603826aProg
import Derived.Test.Qxb6603826aBase
namespace Go.Proofs.Qxb6603826a
open Go.RowKit
set_option linter.unusedVariables false

theorem Filled.owned {wr : World} {B E n : Nat} {F : Nat → Value} (h : Filled wr B E n n F) (hn : n ≤ maxLen) : wr.ownsRow 0 E 1 (.slice (some ⟨B, 0, none⟩) n n) n ((List.range n).map F) := by
  obtain ⟨cur, h1, h2, h3⟩ := h
  refine ⟨by simp, .inr ⟨B, n, cur, rfl, Nat.zero_le _, h1, Nat.le_refl _, hn, by omega, ?_⟩⟩
  apply List.ext_getElem?
  intro j
  by_cases hj : j < n
  · have h4 := h3 j hj
    simp [hj, ← h4]
  · simp [hj]
    omega

theorem info5' : (Try.prog.info? 5).map (fun i => (i.zero, i.size, i.bytes)) = some (some (.int .u8 0), 1, 1) := by kernel_rfl

theorem make22 (n : Nat) (hn : n ≤ 2097152) (w : World) : (Instr.makeSlice 22 (.int .i64 n) (.int .i64 n)).run Try.prog w = .ok (.slice (some ⟨w.heap.size, 0, none⟩) n n) (w.alloc (.cells (madeCells #[.int .u8 0] n) 5)) := by
  obtain ⟨i0, hi, hz0, hz1, hz2⟩ := info_parts info5'
  have hr := run_make (P := Try.prog) w 22 5 i0 (.int .u8 0) Try.underlying22 hi hz0 .i64 .i64 n n (by omega) (by omega) (by rw [hz2]; omega) (by omega)
  simpa [hz1, Value.cells] using hr

set_option maxHeartbeats 400000 in
theorem cloneBytes_pos (b o n c : Nat) (K : Nat → Nat) (w : World) (hn : n ≤ 2097152) (h : ∀ j, j < n → w.cell? ⟨b, o + j, none⟩ = some ((fun x : Nat => Value.int .u8 (x : Int)) (K j))) :
    Calls Try.prog 9 #[.slice (some ⟨b, o, none⟩) n c] w fun e w' => e = .returned (.slice (some ⟨w.heap.size, 0, none⟩) n n) ∧ w'.ownsRow 0 5 1 (.slice (some ⟨w.heap.size, 0, none⟩) n n) n ((List.range n).map (fun j => (fun x : Nat => Value.int .u8 (x : Int)) (K j))) ∧ Below w.heap.size w w' := by
  have hmk := make22 n hn
  have hnil := fun (a : Option Addr) (n c : Nat) (w : World) => Lib.run_eql_slice_nil (P := Try.prog) w 22 5 a n c 0 0 Try.underlying22
  have H := hide h
  clear h
  go_enter Try.func9, Try.ntmps9
  go_wp2
  go_loopw [4] (fun i wr => ∃ k : Nat, k ≤ n ∧ i = .int .i64 k ∧ Hid (Filled wr w.heap.size 5 n k (fun j => (fun x : Nat => Value.int .u8 (x : Int)) (K j))) ∧ Below w.heap.size w wr) (fun i _ => n - (intOf i).toNat)
  case atStart => exact ⟨0, Nat.zero_le _, rfl, Filled.start w 5 n _ _ (size_madeCells _ _), (Below.refl _ _).alloc (Nat.le_refl _) _⟩
  case round =>
    obtain ⟨k, hk, rfl, HF, hb⟩ := hrel
    by_cases hlt : k < n
    · have hc0 := unhide H k hlt
      have hc1 : wr.cell? ⟨b, o + k, none⟩ = some ((fun x : Nat => Value.int .u8 (x : Int)) (K k)) := by rw [hb.cell (World.block_lt_of_cell? w _ hc0)]; exact hc0
      clear hc0
      obtain ⟨v, hv⟩ := (unhide HF).cell hlt
      have hfr := (unhide HF).free k
      have hst := (unhide HF).step hlt
      generalize K k = x at hc1 hst
      have HST := hide hst
      clear hst hmk hnil
      go_wp2
      go_roundw
      case rel => exact ⟨k + 1, by omega, by go_num, unhide HST, hb.setCell (Nat.le_refl _) _⟩
      case measure => simp [intOf]; omega
    · have hk' : k = n := by omega
      subst hk'
      clear hmk hnil
      go_wp2
      go_ret
      exact ⟨rfl, (unhide HF).owned (by simp [maxLen]; omega), hb⟩

set_option maxHeartbeats 400000 in
theorem cloneBytes_nil (c : Nat) (w : World) : Calls Try.prog 9 #[.slice none 0 c] w fun e w' => e = .returned (.slice none 0 0) ∧ w = w' := by
  have hnil := fun (a : Option Addr) (n c : Nat) (w : World) => Lib.run_eql_slice_nil (P := Try.prog) w 22 5 a n c 0 0 Try.underlying22
  go_enter Try.func9, Try.ntmps9
  go_wp2
  go_ret
  exact ⟨rfl, rfl⟩

set_option maxHeartbeats 400000 in
theorem cloneBytes_zero (x : Addr) (c : Nat) (w : World) : Calls Try.prog 9 #[.slice (some x) 0 c] w fun e w' => e = .returned (.slice (some ⟨w.heap.size, 0, none⟩) 0 0) ∧ w'.ownsRow 0 5 1 (.slice (some ⟨w.heap.size, 0, none⟩) 0 0) 0 [] ∧ Below w.heap.size w w' := by
  have hmk : ∀ w : World, (Instr.makeSlice 22 (.int .i64 0) (.int .i64 0)).run Try.prog w = .ok (.slice (some ⟨w.heap.size, 0, none⟩) 0 0) (w.alloc (.cells (madeCells #[.int .u8 0] 0) 5)) := make22 0 (by omega)
  have hnil := fun (a : Option Addr) (n c : Nat) (w : World) => Lib.run_eql_slice_nil (P := Try.prog) w 22 5 a n c 0 0 Try.underlying22
  go_enter Try.func9, Try.ntmps9
  go_wp2
  refine wp_loop_rounds 1 ?_
  rw [rounds_succ]
  go_wp2
  go_ret
  exact ⟨rfl, World.ownsRow_made w _ 0 (Nat.zero_le _) (Nat.zero_le _) (by simp [size_madeCells]), (Below.refl _ _).alloc (Nat.le_refl _) _⟩

theorem cloneBytes_any (a : Option Addr) (n c : Nat) (K : Nat → Nat) (w : World) (hn : n ≤ 2097152) (ha : a = none → n = 0) (h : VRow w a n (fun j => (fun x : Nat => Value.int .u8 (x : Int)) (K j))) :
    Calls Try.prog 9 #[.slice a n c] w fun e w' => ∃ hd : Hd, e = .returned hd.val ∧ hd.n = n ∧ w'.ownsRow 0 5 1 hd.val n ((List.range n).map (fun j => (fun x : Nat => Value.int .u8 (x : Int)) (K j))) ∧ (∀ j, hd.val.ownBlock = some j → w.heap.size ≤ j) ∧ Below w.heap.size w w' := by
  cases a with
  | none =>
    obtain rfl := ha rfl
    exact (cloneBytes_nil c w).mono fun e w' ⟨h1, h2⟩ => ⟨Hd.nil, h1, rfl, World.ownsRow_nil _ _ _ _, (fun j hj => by simp [Hd.val, Hd.nil, Value.ownBlock] at hj), h2 ▸ Below.refl _ _⟩
  | some x =>
    rcases h with rfl | ⟨b, o, hx, hc⟩
    · exact (cloneBytes_zero x c w).mono fun e w' ⟨h1, h2, h3⟩ => ⟨⟨some ⟨w.heap.size, 0, none⟩, 0, 0⟩, h1, rfl, h2, (fun j hj => by simp [Hd.val, Value.ownBlock] at hj; omega), h3⟩
    · obtain rfl := Option.some.inj hx
      exact (cloneBytes_pos b o n c K w hn hc).mono fun e w' ⟨h1, h2, h3⟩ => ⟨⟨some ⟨w.heap.size, 0, none⟩, n, n⟩, h1, rfl, h2, (fun j hj => by simp [Hd.val, Value.ownBlock] at hj; omega), h3⟩

theorem info24' : (Try.prog.info? 24).map (fun i => (i.zero, i.size, i.bytes)) = some (some (.int .u32 0), 1, 4) := by kernel_rfl

theorem make23 (n : Nat) (hn : n ≤ 2097152) (w : World) : (Instr.makeSlice 23 (.int .i64 n) (.int .i64 n)).run Try.prog w = .ok (.slice (some ⟨w.heap.size, 0, none⟩) n n) (w.alloc (.cells (madeCells #[.int .u32 0] n) 24)) := by
  obtain ⟨i0, hi, hz0, hz1, hz2⟩ := info_parts info24'
  have hr := run_make (P := Try.prog) w 23 24 i0 (.int .u32 0) Try.underlying23 hi hz0 .i64 .i64 n n (by omega) (by omega) (by rw [hz2]; omega) (by omega)
  simpa [hz1, Value.cells] using hr

set_option maxHeartbeats 400000 in
theorem cloneWords_pos (b o n c : Nat) (K : Nat → Nat) (w : World) (hn : n ≤ 2097152) (h : ∀ j, j < n → w.cell? ⟨b, o + j, none⟩ = some ((fun x : Nat => Value.int .u32 (x : Int)) (K j))) :
    Calls Try.prog 10 #[.slice (some ⟨b, o, none⟩) n c] w fun e w' => e = .returned (.slice (some ⟨w.heap.size, 0, none⟩) n n) ∧ w'.ownsRow 0 24 1 (.slice (some ⟨w.heap.size, 0, none⟩) n n) n ((List.range n).map (fun j => (fun x : Nat => Value.int .u32 (x : Int)) (K j))) ∧ Below w.heap.size w w' := by
  have hmk := make23 n hn
  have hnil := fun (a : Option Addr) (n c : Nat) (w : World) => Lib.run_eql_slice_nil (P := Try.prog) w 23 24 a n c 0 0 Try.underlying23
  have H := hide h
  clear h
  go_enter Try.func10, Try.ntmps10
  go_wp2
  go_loopw [4] (fun i wr => ∃ k : Nat, k ≤ n ∧ i = .int .i64 k ∧ Hid (Filled wr w.heap.size 24 n k (fun j => (fun x : Nat => Value.int .u32 (x : Int)) (K j))) ∧ Below w.heap.size w wr) (fun i _ => n - (intOf i).toNat)
  case atStart => exact ⟨0, Nat.zero_le _, rfl, Filled.start w 24 n _ _ (size_madeCells _ _), (Below.refl _ _).alloc (Nat.le_refl _) _⟩
  case round =>
    obtain ⟨k, hk, rfl, HF, hb⟩ := hrel
    by_cases hlt : k < n
    · have hc0 := unhide H k hlt
      have hc1 : wr.cell? ⟨b, o + k, none⟩ = some ((fun x : Nat => Value.int .u32 (x : Int)) (K k)) := by rw [hb.cell (World.block_lt_of_cell? w _ hc0)]; exact hc0
      clear hc0
      obtain ⟨v, hv⟩ := (unhide HF).cell hlt
      have hfr := (unhide HF).free k
      have hst := (unhide HF).step hlt
      generalize K k = x at hc1 hst
      have HST := hide hst
      clear hst hmk hnil
      go_wp2
      go_roundw
      case rel => exact ⟨k + 1, by omega, by go_num, unhide HST, hb.setCell (Nat.le_refl _) _⟩
      case measure => simp [intOf]; omega
    · have hk' : k = n := by omega
      subst hk'
      clear hmk hnil
      go_wp2
      go_ret
      exact ⟨rfl, (unhide HF).owned (by simp [maxLen]; omega), hb⟩

set_option maxHeartbeats 400000 in
theorem cloneWords_nil (c : Nat) (w : World) : Calls Try.prog 10 #[.slice none 0 c] w fun e w' => e = .returned (.slice none 0 0) ∧ w = w' := by
  have hnil := fun (a : Option Addr) (n c : Nat) (w : World) => Lib.run_eql_slice_nil (P := Try.prog) w 23 24 a n c 0 0 Try.underlying23
  go_enter Try.func10, Try.ntmps10
  go_wp2
  go_ret
  exact ⟨rfl, rfl⟩

set_option maxHeartbeats 400000 in
theorem cloneWords_zero (x : Addr) (c : Nat) (w : World) : Calls Try.prog 10 #[.slice (some x) 0 c] w fun e w' => e = .returned (.slice (some ⟨w.heap.size, 0, none⟩) 0 0) ∧ w'.ownsRow 0 24 1 (.slice (some ⟨w.heap.size, 0, none⟩) 0 0) 0 [] ∧ Below w.heap.size w w' := by
  have hmk : ∀ w : World, (Instr.makeSlice 23 (.int .i64 0) (.int .i64 0)).run Try.prog w = .ok (.slice (some ⟨w.heap.size, 0, none⟩) 0 0) (w.alloc (.cells (madeCells #[.int .u32 0] 0) 24)) := make23 0 (by omega)
  have hnil := fun (a : Option Addr) (n c : Nat) (w : World) => Lib.run_eql_slice_nil (P := Try.prog) w 23 24 a n c 0 0 Try.underlying23
  go_enter Try.func10, Try.ntmps10
  go_wp2
  refine wp_loop_rounds 1 ?_
  rw [rounds_succ]
  go_wp2
  go_ret
  exact ⟨rfl, World.ownsRow_made w _ 0 (Nat.zero_le _) (Nat.zero_le _) (by simp [size_madeCells]), (Below.refl _ _).alloc (Nat.le_refl _) _⟩

theorem cloneWords_any (a : Option Addr) (n c : Nat) (K : Nat → Nat) (w : World) (hn : n ≤ 2097152) (ha : a = none → n = 0) (h : VRow w a n (fun j => (fun x : Nat => Value.int .u32 (x : Int)) (K j))) :
    Calls Try.prog 10 #[.slice a n c] w fun e w' => ∃ hd : Hd, e = .returned hd.val ∧ hd.n = n ∧ w'.ownsRow 0 24 1 hd.val n ((List.range n).map (fun j => (fun x : Nat => Value.int .u32 (x : Int)) (K j))) ∧ (∀ j, hd.val.ownBlock = some j → w.heap.size ≤ j) ∧ Below w.heap.size w w' := by
  cases a with
  | none =>
    obtain rfl := ha rfl
    exact (cloneWords_nil c w).mono fun e w' ⟨h1, h2⟩ => ⟨Hd.nil, h1, rfl, World.ownsRow_nil _ _ _ _, (fun j hj => by simp [Hd.val, Hd.nil, Value.ownBlock] at hj), h2 ▸ Below.refl _ _⟩
  | some x =>
    rcases h with rfl | ⟨b, o, hx, hc⟩
    · exact (cloneWords_zero x c w).mono fun e w' ⟨h1, h2, h3⟩ => ⟨⟨some ⟨w.heap.size, 0, none⟩, 0, 0⟩, h1, rfl, h2, (fun j hj => by simp [Hd.val, Value.ownBlock] at hj; omega), h3⟩
    · obtain rfl := Option.some.inj hx
      exact (cloneWords_pos b o n c K w hn hc).mono fun e w' ⟨h1, h2, h3⟩ => ⟨⟨some ⟨w.heap.size, 0, none⟩, n, n⟩, h1, rfl, h2, (fun j hj => by simp [Hd.val, Value.ownBlock] at hj; omega), h3⟩

end Go.Proofs.Qxb6603826a
