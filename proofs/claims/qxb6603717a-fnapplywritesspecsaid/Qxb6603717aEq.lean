/- equalBytes, sameSlice: what they answer. -/
import Derived.Test.Qxb6603717aProg
import Derived.WalkKit
import Derived.WalkSpells
import Derived.Deep.QuietTactic
import Derived.BigQuiet
namespace Go.Proofs.Qxb6603717a
open Go.RowKit
set_option linter.unusedVariables false

/-- A slice value at 'ao' shows the numbers 'zs' (of kind k). -/
def Shows (k : IntKind) (w : World) (ao : Option Addr) (zs : List Int) : Prop :=
  zs = [] ∨ ∃ b o, ao = some ⟨b, o, none⟩ ∧ ∀ j, j < zs.length → w.cell? ⟨b, o + j, none⟩ = some (.int k (zs.getD j 0))

theorem take_step {A B : List Int} {k : Nat} (ha : k < A.length) (hb : k < B.length) (h : A.take k = B.take k) (e : A.getD k 0 = B.getD k 0) : A.take (k + 1) = B.take (k + 1) := by
  rw [List.take_succ_eq_append_getElem ha, List.take_succ_eq_append_getElem hb, h]
  simp [List.getD, ha, hb] at e
  rw [e]

set_option maxHeartbeats 400000 in
theorem equalBytes_ne (A B : List Int) (aA aB : Option Addr) (cA cB : Nat) (w : World) (hA : A.length ≤ 2097152) (hB : B.length ≤ 2097152) (hne : A.length ≠ B.length) :
    Calls Try.prog 8 #[.slice aA A.length cA, .slice aB B.length cB] w fun e w' => e = .returned (.bool false) ∧ w' = w := by
  have h1 : (((A.length : Nat) : Int) != (B.length : Int)) = true := by rw [bne_iff_ne]; omega
  go_enter Try.func8, Try.ntmps8
  go_wp2
  go_ret
  exact ⟨rfl, rfl⟩

set_option maxHeartbeats 400000 in
theorem equalBytes_nil (aA aB : Option Addr) (cA cB : Nat) (w : World)  :
    Calls Try.prog 8 #[.slice aA 0 cA, .slice aB 0 cB] w fun e w' => e = .returned (.bool true) ∧ w' = w := by
  go_enter Try.func8, Try.ntmps8
  go_wp2
  refine wp_loop_rounds 1 ?_
  rw [rounds_succ]
  go_wp2
  go_ret
  exact ⟨rfl, rfl⟩

set_option maxHeartbeats 800000 in
theorem equalBytes_pos (A B : List Int) (n : Nat) (bA oA bB oB : Nat) (cA cB : Nat) (w : World) (hA : A.length = n) (hn : n ≤ 2097152) (hB : B.length = n)
    (hcA : ∀ j, j < n → w.cell? ⟨bA, oA + j, none⟩ = some (.int .u8 (A.getD j 0))) (hcB : ∀ j, j < n → w.cell? ⟨bB, oB + j, none⟩ = some (.int .u8 (B.getD j 0))) :
    Calls Try.prog 8 #[.slice (some ⟨bA, oA, none⟩) n cA, .slice (some ⟨bB, oB, none⟩) n cB] w fun e w' => e = .returned (.bool (decide (A = B))) ∧ ∃ m, w' = w.drewN m := by
  go_enter Try.func8, Try.ntmps8
  go_wp2
  go_loopw [5] (fun i wr => ∃ k : Nat, k ≤ n ∧ i = .int .i64 k ∧ Hid (A.take k = B.take k) ∧ ∃ m, wr = w.drewN m) (fun i _ => n - (intOf i).toNat)
  case atStart => exact ⟨0, Nat.zero_le _, rfl, rfl, 0, rfl⟩
  case round =>
    obtain ⟨k, hk, rfl, HT, m, rfl⟩ := hrel
    by_cases hlt : k < n
    · have h1 := hcA k hlt
      have h2 := hcB k hlt
      generalize hx : A.getD k 0 = x at h1
      generalize hy : B.getD k 0 = y at h2
      have HX : Hid (A.getD k 0 = x) := hx
      have HY : Hid (B.getD k 0 = y) := hy
      clear hx hy hcA hcB
      have hlt' : (k : Int) < (n : Int) := by omega
      by_cases he : x = y
      · have hne : (x != y) = false := by simp [he]
        have HE : Hid (x = y) := he
        clear he
        go_wp2_with fail
        go_quiet (fail)
        go_wp2
        go_roundw
        case rel => exact ⟨k + 1, by omega, by go_num, take_step (by omega) (by omega) HT.out (by rw [HX.out, HY.out, HE.out]), _, rfl⟩
        case measure => simp [intOf]; omega
      · have hne : (x != y) = true := by simp [he]
        have hAB : decide (A = B) = false := by
          rw [decide_eq_false_iff_not]
          intro h
          subst h
          exact he (HX.out.symm.trans HY.out)
        have HAB : Hid (decide (A = B) = false) := hAB
        clear he hAB
        go_wp2_with fail
        go_quiet (fail)
        go_wp2
        go_ret
        exact ⟨by rw [HAB.out]; rfl, _, World.drewN_drewN _ _ _⟩
    · have hk' : k = n := by omega
      have hAB : decide (A = B) = true := by
        rw [decide_eq_true_iff]
        have h := HT.out
        rwa [List.take_of_length_le (by omega), List.take_of_length_le (by omega)] at h
      have HAB : Hid (decide (A = B) = true) := hAB
      clear hAB hk'
      go_wp2
      go_ret
      exact ⟨by rw [HAB.out]; rfl, _, rfl⟩

/-- equalBytes, whatever two slices of bytes. -/
theorem equalBytes_any (A B : List Int) (aA aB : Option Addr) (cA cB : Nat) (w : World) (hA : A.length ≤ 2097152) (hB : B.length ≤ 2097152) (sA : Shows .u8 w aA A) (sB : Shows .u8 w aB B) :
    Calls Try.prog 8 #[.slice aA A.length cA, .slice aB B.length cB] w fun e w' => e = .returned (.bool (decide (A = B))) ∧ ∃ m, w' = w.drewN m := by
  by_cases hl : A.length = B.length
  · rcases sA with rfl | ⟨b, o, rfl, h1⟩
    · have hB0 : B = [] := List.eq_nil_of_length_eq_zero (by simpa using hl.symm)
      subst hB0
      exact (equalBytes_nil aA aB cA cB w).mono fun e w' ⟨h1, h2⟩ => ⟨by simpa using h1, 0, h2⟩
    · rcases sB with rfl | ⟨b', o', rfl, h2⟩
      · have hA0 : A = [] := List.eq_nil_of_length_eq_zero (by simpa using hl)
        subst hA0
        exact (equalBytes_nil _ aB cA cB w).mono fun e w' ⟨h1, h2⟩ => ⟨by simpa using h1, 0, h2⟩
      · rw [← hl]
        exact equalBytes_pos A B A.length b o b' o' cA cB w rfl hA hl.symm h1 (by rw [hl]; exact h2)
  · have hne : decide (A = B) = false := by
      rw [decide_eq_false_iff_not]
      intro h
      exact hl (by rw [h])
    rw [hne]
    exact (equalBytes_ne A B aA aB cA cB w hA hB hl).mono fun e w' ⟨h1, h2⟩ => ⟨h1, 0, h2⟩

end Go.Proofs.Qxb6603717a
