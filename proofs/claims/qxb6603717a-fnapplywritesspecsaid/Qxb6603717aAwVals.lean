/- FnApplyWritesSpec: cloneVals. -/
import Derived.Test.Qxb6603717aAwClone
namespace Go.Proofs.Qxb6603717a.Aw
open Go.RowKit
set_option linter.unusedVariables false

theorem Filled.below {wr w1 : World} {B E n k lo : Nat} {F : Nat → Value} (h : Filled wr B E n k F) (hB : B < lo) (hb : Below lo wr w1) : Filled w1 B E n k F := by
  obtain ⟨cur, h1, h2, h3⟩ := h
  exact ⟨cur, (hb.block B hB).trans h1, h2, h3⟩

theorem Filled.congr {wr : World} {B E n k : Nat} {F G : Nat → Value} (h : Filled wr B E n k F) (e : ∀ j, j < k → F j = G j) : Filled wr B E n k G := by
  obtain ⟨cur, h1, h2, h3⟩ := h
  exact ⟨cur, h1, h2, fun j hj => by rw [h3 j hj, e j hj]⟩

theorem Good.of {lo : Nat} {w : World} {hd : Hd} {Z : Nat → Int} (h1 : hd.n ≤ 1048576) (h2 : hd.a = none → hd.n = 0) (h3 : ∀ b o, hd.a = some ⟨b, o, none⟩ → lo ≤ b) (h4 : VRow w hd.a hd.n (fun j => .int .u8 (Z j))) : Good lo w hd := by
  refine ⟨h1, h2, Z, ?_⟩
  rcases h4 with h | ⟨b, o, h, hc⟩
  · exact .inl h
  · exact .inr ⟨b, o, h3 b o h, h, hc⟩

/-- What has been cloned so far. -/
def Cloned (w wr : World) (n k : Nat) : Prop :=
  ∃ F : Nat → Hd, Filled wr w.heap.size 23 n k (fun j => (F j).val) ∧ (∀ j, j < k → Good (w.heap.size + 1) wr (F j)) ∧ Below w.heap.size w wr ∧ w.heap.size < wr.heap.size

theorem Cloned.step {w wr w1 : World} {n k : Nat} {hd : Hd} (h : Cloned w wr n k) (hk : k < n) (hb : Below wr.heap.size wr w1) (g : Good wr.heap.size w1 hd) : Cloned w (w1.setCell ⟨w.heap.size, k, none⟩ hd.val) n (k + 1) := by
  obtain ⟨F, h1, h2, h3, h4⟩ := h
  have hsz : (w1.setCell ⟨w.heap.size, k, none⟩ hd.val).heap.size = w1.heap.size := by simp [World.setCell]
  refine ⟨fun j => if j = k then hd else F j, ?_, fun j hj => ?_, (h3.trans (hb.mono (by omega))).setCell (Nat.le_refl _) _, by rw [hsz]; have := hb.size; omega⟩
  · have f1 := ((h1.below h4 hb).congr (G := fun j => ((fun j => if j = k then hd else F j) j).val) (fun j hj => by simp [show ¬ j = k by omega])).step hk
    simpa using f1
  · by_cases e : j = k
    · subst e
      simp only [if_true]
      have g' : Good (w.heap.size + 1) w1 hd := g.mono (by omega)
      exact g'.setCell (Nat.lt_succ_self _) _
    · simp only [if_neg e]
      exact ((h2 j (by omega)).below hb).setCell (Nat.lt_succ_self _) _

theorem Cloned.cell {w wr w1 : World} {n k : Nat} (h : Cloned w wr n k) (hk : k < n) (hb : Below wr.heap.size wr w1) : (∃ v, w1.cell? ⟨w.heap.size, k, none⟩ = some v) ∧ w1.frozen? ⟨w.heap.size, k, none⟩ = false := by
  obtain ⟨F, h1, h2, h3, h4⟩ := h
  exact ⟨(h1.below h4 hb).cell hk, (h1.below h4 hb).free k⟩

set_option maxHeartbeats 400000 in
theorem cloneVals_pos (b o n c : Nat) (V : Nat → Hd) (Z : Nat → Nat → Int) (w : World) (hn : n ≤ 2097152) (h : ∀ j, j < n → w.cell? ⟨b, o + j, none⟩ = some (V j).val)
    (hV : ∀ j, j < n → (V j).n ≤ 1048576 ∧ ((V j).a = none → (V j).n = 0) ∧ VRow w (V j).a (V j).n (fun i => .int .u8 (Z j i))) :
    Calls Try.prog 13 #[.slice (some ⟨b, o, none⟩) n c] w fun e w' => e = .returned (.slice (some ⟨w.heap.size, 0, none⟩) n n) ∧ Cloned w w' n n := by
  obtain ⟨hmk⟩ : Nonempty (∀ w : World, (Instr.makeSlice 28 (.int .i64 n) (.int .i64 n)).run Try.prog w = .ok (.slice (some ⟨w.heap.size, 0, none⟩) n n) (w.alloc (.cells (madeCells #[.slice none 0 0] n) 23))) := by
    refine ⟨fun w => ?_⟩
    have hinfo : (Try.prog.info? 23).map (fun i => (i.zero, i.size, i.bytes)) = some (some (.slice none 0 0), 1, 24) := by kernel_rfl
    obtain ⟨i0, hi, hz0, hz1, hz2⟩ := info_parts hinfo
    have hr := run_make (P := Try.prog) w 28 23 i0 (.slice none 0 0) Try.underlying28 hi hz0 .i64 .i64 n n (by omega) (by omega) (by rw [hz2]; omega) (by omega)
    simpa [hz1, Value.cells] using hr
  have hnil := fun (a : Option Addr) (n c : Nat) (w : World) => Lib.run_eql_slice_nil (P := Try.prog) w 28 23 a n c 0 0 Try.underlying28
  have H := hide h
  have HV := hide hV
  clear h hV
  go_enter Try.func13, Try.ntmps13
  go_wp2
  go_loopw [4] (fun i wr => ∃ k : Nat, k ≤ n ∧ i = .int .i64 k ∧ Hid (Cloned w wr n k)) (fun i _ => n - (intOf i).toNat)
  case atStart => exact ⟨0, Nat.zero_le _, rfl, fun _ => Hd.nil, Filled.start w 23 n _ _ (size_madeCells _ _), (fun j hj => absurd hj (Nat.not_lt_zero _)), (Below.refl _ _).alloc (Nat.le_refl _) _, by simp⟩
  case round =>
    obtain ⟨k, hk, rfl, HF⟩ := hrel
    by_cases hlt : k < n
    · have hc0 := unhide H k hlt
      have hb : Below w.heap.size w wr := by obtain ⟨F, _, _, h3, _⟩ := unhide HF; exact h3
      have hv0 := unhide HV k hlt
      have hrow : VRow wr (V k).a (V k).n (fun i => .int .u8 (Z k i)) := hv0.2.2.below hb
      have hc1 : wr.cell? ⟨b, o + k, none⟩ = some (V k).val := by rw [hb.cell (World.block_lt_of_cell? w _ hc0)]; exact hc0
      have H2 := hide hv0
      have HR := hide hrow
      clear hc0 hv0 hrow
      generalize V k = x at hc1 H2 HR
      obtain ⟨xa, xn, xc⟩ := x
      simp only [Hd.val] at hc1
      clear hmk hnil
      go_wp2_with fail
      refine (cloneBytes_any xa xn xc (Z k) wr (by have h9 : xn ≤ 1048576 := (unhide H2).1; omega) (unhide H2).2.1 (unhide HR)).mono ?_
      rintro e w1 ⟨hd, rfl, e1, e2, e3, e4, hb1⟩
      have hg : Good wr.heap.size w1 hd := Good.of (by rw [e1]; exact (unhide H2).1) e2 e3 (by rw [e1]; exact e4)
      have hst := (unhide HF).step hlt hb1 hg
      obtain ⟨⟨v, hv⟩, hfr⟩ := (unhide HF).cell hlt hb1
      have HST := hide hst
      clear hst hg e1 e2 e3 e4 hb1 hc1
      obtain ⟨da, dn, dc⟩ := hd
      simp only [Hd.val] at HST ⊢
      go_wp2
      go_roundw
      case rel => exact ⟨k + 1, by omega, by go_num, HST⟩
      case measure => simp [intOf]; omega
    · have hk' : k = n := by omega
      subst hk'
      clear hmk hnil
      go_wp2
      go_ret
      exact ⟨rfl, unhide HF⟩

set_option maxHeartbeats 400000 in
theorem cloneVals_nil (c : Nat) (w : World) : Calls Try.prog 13 #[.slice none 0 c] w fun e w' => e = .returned (.slice none 0 0) ∧ w = w' := by
  have hnil := fun (a : Option Addr) (n c : Nat) (w : World) => Lib.run_eql_slice_nil (P := Try.prog) w 28 23 a n c 0 0 Try.underlying28
  go_enter Try.func13, Try.ntmps13
  go_wp2
  go_ret
  exact ⟨rfl, rfl⟩

set_option maxHeartbeats 400000 in
theorem cloneVals_zero (x : Addr) (c : Nat) (w : World) : Calls Try.prog 13 #[.slice (some x) 0 c] w fun e w' => e = .returned (.slice (some ⟨w.heap.size, 0, none⟩) 0 0) ∧ Below w.heap.size w w' := by
  obtain ⟨hmk⟩ : Nonempty (∀ w : World, (Instr.makeSlice 28 (.int .i64 0) (.int .i64 0)).run Try.prog w = .ok (.slice (some ⟨w.heap.size, 0, none⟩) 0 0) (w.alloc (.cells (madeCells #[.slice none 0 0] 0) 23))) := by
    refine ⟨fun w => ?_⟩
    have hinfo : (Try.prog.info? 23).map (fun i => (i.zero, i.size, i.bytes)) = some (some (.slice none 0 0), 1, 24) := by kernel_rfl
    obtain ⟨i0, hi, hz0, hz1, hz2⟩ := info_parts hinfo
    have hr := run_make (P := Try.prog) w 28 23 i0 (.slice none 0 0) Try.underlying28 hi hz0 .i64 .i64 0 0 (by omega) (by omega) (by rw [hz2]; omega) (by omega)
    simpa [hz1, Value.cells] using hr
  have hnil := fun (a : Option Addr) (n c : Nat) (w : World) => Lib.run_eql_slice_nil (P := Try.prog) w 28 23 a n c 0 0 Try.underlying28
  go_enter Try.func13, Try.ntmps13
  go_wp2
  refine wp_loop_rounds 1 ?_
  rw [rounds_succ]
  go_wp2
  go_ret
  exact ⟨rfl, (Below.refl _ _).alloc (Nat.le_refl _) _⟩

theorem cloneVals_any (a : Option Addr) (n c : Nat) (V : Nat → Hd) (Z : Nat → Nat → Int) (w : World) (hn : n ≤ 2097152) (ha : a = none → n = 0) (h : VRow w a n (fun j => (V j).val))
    (hV : ∀ j, j < n → (V j).n ≤ 1048576 ∧ ((V j).a = none → (V j).n = 0) ∧ VRow w (V j).a (V j).n (fun i => .int .u8 (Z j i))) :
    Calls Try.prog 13 #[.slice a n c] w fun e w' => ∃ (hd : Hd) (F : Nat → Hd), e = .returned hd.val ∧ hd.n = n ∧ VRow w' hd.a n (fun j => (F j).val) ∧ (∀ j, j < n → Good w.heap.size w' (F j)) ∧ Below w.heap.size w w' := by
  cases a with
  | none =>
    obtain rfl := ha rfl
    exact (cloneVals_nil c w).mono fun e w' ⟨h1, h2⟩ => ⟨Hd.nil, fun _ => Hd.nil, h1, rfl, .inl rfl, (fun j hj => absurd hj (Nat.not_lt_zero _)), h2 ▸ Below.refl _ _⟩
  | some x =>
    rcases h with rfl | ⟨b, o, hx, hc⟩
    · exact (cloneVals_zero x c w).mono fun e w' ⟨h1, h2⟩ => ⟨⟨some ⟨w.heap.size, 0, none⟩, 0, 0⟩, fun _ => Hd.nil, h1, rfl, .inl rfl, (fun j hj => absurd hj (Nat.not_lt_zero _)), h2⟩
    · obtain rfl := Option.some.inj hx
      exact (cloneVals_pos b o n c V Z w hn hc hV).mono fun e w' ⟨h1, F, h2, h3, h4, _⟩ => ⟨⟨some ⟨w.heap.size, 0, none⟩, n, n⟩, F, h1, rfl, h2.row, (fun j hj => (h3 j hj).mono (Nat.le_succ _)), h4⟩

end Go.Proofs.Qxb6603717a.Aw
