/- patB1CloneRunes. -/
import Derived.Test.Qxb6603766aProg
import Derived.Test.Qxb6603766aBase
namespace Go.Proofs.Qxb6603766a
open Go.RowKit
set_option linter.unusedVariables false

theorem info21' : (Try.prog.info? 21).map (fun i => (i.zero, i.size, i.bytes)) = some (some (.int .i32 0), 1, 4) := by kernel_rfl

theorem make22 (n : Nat) (hn : n ≤ 2097152) (w : World) : (Instr.makeSlice 22 (.int .i64 n) (.int .i64 n)).run Try.prog w = .ok (.slice (some ⟨w.heap.size, 0, none⟩) n n) (w.alloc (.cells (madeCells #[.int .i32 0] n) 21)) := by
  obtain ⟨i0, hi, hz0, hz1, hz2⟩ := info_parts info21'
  have hr := run_make (P := Try.prog) w 22 21 i0 (.int .i32 0) Try.underlying22 hi hz0 .i64 .i64 n n (by omega) (by omega) (by rw [hz2]; omega) (by omega)
  simpa [hz1, Value.cells] using hr

set_option maxHeartbeats 400000 in
theorem cloneRunes_pos (b o n c : Nat) (K : Nat → Int) (w : World) (hn : n ≤ 2097152) (h : ∀ j, j < n → w.cell? ⟨b, o + j, none⟩ = some (Value.int .i32 (K j))) :
    Calls Try.prog 9 #[.slice (some ⟨b, o, none⟩) n c] w fun e w' => e = .returned (.slice (some ⟨w.heap.size, 0, none⟩) n n) ∧ VRow w' (some ⟨w.heap.size, 0, none⟩) n (fun j => Value.int .i32 (K j)) ∧ Below w.heap.size w w' := by
  have hmk := make22 n hn
  have hnil := fun (a : Option Addr) (n c : Nat) (w : World) => Lib.run_eql_slice_nil (P := Try.prog) w 22 21 a n c 0 0 Try.underlying22
  have H := hide h
  clear h
  go_enter Try.func9, Try.ntmps9
  go_wp2
  go_loopw [4] (fun i wr => ∃ k : Nat, k ≤ n ∧ i = .int .i64 k ∧ Hid (Filled wr w.heap.size 21 n k (fun j => Value.int .i32 (K j))) ∧ Below w.heap.size w wr) (fun i _ => n - (intOf i).toNat)
  case atStart => exact ⟨0, Nat.zero_le _, rfl, Filled.start w 21 n _ _ (size_madeCells _ _), (Below.refl _ _).alloc (Nat.le_refl _) _⟩
  case round =>
    obtain ⟨k, hk, rfl, HF, hb⟩ := hrel
    by_cases hlt : k < n
    · have hc0 := unhide H k hlt
      have hc1 : wr.cell? ⟨b, o + k, none⟩ = some (Value.int .i32 (K k)) := by rw [hb.cell (World.block_lt_of_cell? w _ hc0)]; exact hc0
      clear hc0
      obtain ⟨v, hv⟩ := (unhide HF).cell hlt
      have hfr := (unhide HF).free k
      have hst := (unhide HF).step hlt
      generalize K k = x at hc1 hst
      have HST := hide hst
      clear hst hmk hnil
      go_wp2
      go_roundw
      case rel => exact ⟨k + 1, by omega, by go_num, unhide HST, hb.setCell (Nat.le_refl _) _⟩
      case measure => simp [intOf]; omega
    · have hk' : k = n := by omega
      subst hk'
      clear hmk hnil
      go_wp2
      go_ret
      exact ⟨rfl, (unhide HF).row, hb⟩

set_option maxHeartbeats 400000 in
theorem cloneRunes_nil (c : Nat) (w : World) : Calls Try.prog 9 #[.slice none 0 c] w fun e w' => e = .returned (.slice none 0 0) ∧ w = w' := by
  have hnil := fun (a : Option Addr) (n c : Nat) (w : World) => Lib.run_eql_slice_nil (P := Try.prog) w 22 21 a n c 0 0 Try.underlying22
  go_enter Try.func9, Try.ntmps9
  go_wp2
  go_ret
  exact ⟨rfl, rfl⟩

set_option maxHeartbeats 400000 in
theorem cloneRunes_zero (x : Addr) (c : Nat) (w : World) : Calls Try.prog 9 #[.slice (some x) 0 c] w fun e w' => e = .returned (.slice (some ⟨w.heap.size, 0, none⟩) 0 0) ∧ Below w.heap.size w w' := by
  have hmk : ∀ w : World, (Instr.makeSlice 22 (.int .i64 0) (.int .i64 0)).run Try.prog w = .ok (.slice (some ⟨w.heap.size, 0, none⟩) 0 0) (w.alloc (.cells (madeCells #[.int .i32 0] 0) 21)) := make22 0 (by omega)
  have hnil := fun (a : Option Addr) (n c : Nat) (w : World) => Lib.run_eql_slice_nil (P := Try.prog) w 22 21 a n c 0 0 Try.underlying22
  go_enter Try.func9, Try.ntmps9
  go_wp2
  refine wp_loop_rounds 1 ?_
  rw [rounds_succ]
  go_wp2
  go_ret
  exact ⟨rfl, (Below.refl _ _).alloc (Nat.le_refl _) _⟩

theorem cloneRunes_any (a : Option Addr) (n c : Nat) (K : Nat → Int) (w : World) (hn : n ≤ 2097152) (ha : a = none → n = 0) (h : VRow w a n (fun j => Value.int .i32 (K j))) :
    Calls Try.prog 9 #[.slice a n c] w fun e w' => ∃ hd : Hd, e = .returned hd.val ∧ hd.n = n ∧ (hd.a = none → hd.n = 0) ∧ (∀ b o, hd.a = some ⟨b, o, none⟩ → w.heap.size ≤ b) ∧ VRow w' hd.a n (fun j => Value.int .i32 (K j)) ∧ Below w.heap.size w w' := by
  cases a with
  | none =>
    obtain rfl := ha rfl
    exact (cloneRunes_nil c w).mono fun e w' ⟨h1, h2⟩ => ⟨Hd.nil, h1, rfl, fun _ => rfl, (fun b o h => by cases h), .inl rfl, h2 ▸ Below.refl _ _⟩
  | some x =>
    rcases h with rfl | ⟨b, o, hx, hc⟩
    · exact (cloneRunes_zero x c w).mono fun e w' ⟨h1, h2⟩ => ⟨⟨some ⟨w.heap.size, 0, none⟩, 0, 0⟩, h1, rfl, fun _ => rfl, (fun b o h => by cases h; exact Nat.le_refl _), .inl rfl, h2⟩
    · obtain rfl := Option.some.inj hx
      exact (cloneRunes_pos b o n c K w hn hc).mono fun e w' ⟨h1, h2, h3⟩ => ⟨⟨some ⟨w.heap.size, 0, none⟩, n, n⟩, h1, rfl, (fun h => by cases h), (fun b o h => by cases h; exact Nat.le_refl _), h2, h3⟩

end Go.Proofs.Qxb6603766a
