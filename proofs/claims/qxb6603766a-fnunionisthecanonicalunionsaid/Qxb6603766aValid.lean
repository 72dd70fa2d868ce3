/- patB1ValidSet. -/
import Derived.Test.Qxb6603766aZz
namespace Go.Proofs.Qxb6603766a
open Go.RowKit
set_option linter.unusedVariables false

def VS (n : Nat) (L H : Nat → Int) : Prop := ∀ j, j < n → 0 ≤ L j ∧ L j ≤ H j ∧ H j ≤ 1114111 ∧ (0 < j → H (j - 1) + 1 < L j)

def VPost (w : World) (p : Prop) (e : Ending) (w' : World) : Prop := ∃ b : Bool, e = .returned (.bool b) ∧ (b = true ↔ p) ∧ ∃ m, w' = w.drewN m

theorem VPost.no {w : World} {p : Prop} {m : Nat} (h : ¬ p) : VPost w p (.returned (.bool false)) (w.drewN m) := ⟨false, rfl, ⟨(fun h => by cases h), fun hp => absurd hp h⟩, m, rfl⟩
theorem VPost.yes {w : World} {p : Prop} {m : Nat} (h : p) : VPost w p (.returned (.bool true)) (w.drewN m) := ⟨true, rfl, ⟨fun _ => h, fun _ => rfl⟩, m, rfl⟩

set_option maxHeartbeats 400000 in
theorem validSet_ne (a a' : Option Addr) (n n' c c' : Nat) (w : World) (p : Prop) (hn : n ≤ 1048576) (hn' : n' ≤ 1048576) (h : n ≠ n') (hp : ¬ p) :
    Calls Try.prog 8 #[.slice a n c, .slice a' n' c'] w (VPost w p) := by
  have h1 : (((n : Nat) : Int) != (n' : Int)) = true := by rw [bne_iff_ne]; omega
  go_enter Try.func8, Try.ntmps8
  go_wp2
  go_ret
  exact VPost.no (m := 0) hp

set_option maxHeartbeats 400000 in
theorem validSet_zero (a a' : Option Addr) (c c' : Nat) (w : World) (L H : Nat → Int) : Calls Try.prog 8 #[.slice a 0 c, .slice a' 0 c'] w (VPost w (VS 0 L H)) := by
  go_enter Try.func8, Try.ntmps8
  go_wp2
  refine wp_loop_rounds 1 ?_
  rw [rounds_succ]
  go_wp2
  go_ret
  exact VPost.yes (m := 0) (fun j hj => absurd hj (Nat.not_lt_zero _))

set_option maxHeartbeats 1000000 in
theorem validSet_pos (g o g' o' n c c' : Nat) (L H : Nat → Int) (w : World) (hn : n ≤ 1048576) (h : ∀ j, j < n → w.cell? ⟨g, o + j, none⟩ = some (.int .i32 (L j))) (h' : ∀ j, j < n → w.cell? ⟨g', o' + j, none⟩ = some (.int .i32 (H j))) :
    Calls Try.prog 8 #[.slice (some ⟨g, o, none⟩) n c, .slice (some ⟨g', o', none⟩) n c'] w (VPost w (VS n L H)) := by
  have H1 := hide h
  have H2 := hide h'
  clear h h'
  go_enter Try.func8, Try.ntmps8
  go_wp2
  go_loopw [5] (fun i wr => ∃ k m : Nat, k ≤ n ∧ i = .int .i64 k ∧ Hid (VS k L H) ∧ wr = w.drewN m) (fun i _ => n - (intOf i).toNat)
  case atStart => exact ⟨0, 0, Nat.zero_le _, rfl, (fun j hj => absurd hj (Nat.not_lt_zero _)), rfl⟩
  case round =>
    obtain ⟨k, m, hk, rfl, HV, rfl⟩ := hrel
    by_cases hlt : k < n
    · have c1 := unhide H1 k hlt
      have c2 := unhide H2 k hlt
      have hlt' : (k : Int) < (n : Int) := by omega
      have hall : VS n L H → 0 ≤ L k ∧ L k ≤ H k ∧ H k ≤ 1114111 ∧ (0 < k → H (k - 1) + 1 < L k) := fun hv => hv k hlt
      have hnext : (0 ≤ L k ∧ L k ≤ H k ∧ H k ≤ 1114111 ∧ (0 < k → H (k - 1) + 1 < L k)) → VS (k + 1) L H := fun hk' j hj => by
        by_cases e : j = k
        · subst e; exact hk'
        · exact unhide HV j (by omega)
      have HALL := hide hall
      have HNEXT := hide hnext
      clear hall hnext
      by_cases p1 : L k < 0
      · have HNO : Hid (¬ VS n L H) := fun hv => by have := unhide HALL hv; omega
        have d1 : decide (L k < 0) = true := by rw [decide_eq_true_iff]; exact p1
        generalize L k = x at c1 p1 d1
        generalize H k = y at c2
        clear HALL HNEXT
        go_wp2
        go_quiet (fail)
        go_wp2
        go_ret
        rw [World.drewN_drewN]
        exact VPost.no (unhide HNO)
      · by_cases p2 : H k < L k
        · have HNO : Hid (¬ VS n L H) := fun hv => by have := unhide HALL hv; omega
          have d1 : decide (L k < 0) = false := by rw [decide_eq_false_iff_not]; exact p1
          have d2 : decide (H k < L k) = true := by rw [decide_eq_true_iff]; exact p2
          generalize L k = x at c1 p1 d1 p2 d2
          generalize H k = y at c2 p2 d2
          clear HALL HNEXT
          go_wp2
          go_quiet (fail)
          go_wp2
          go_ret
          rw [World.drewN_drewN]
          exact VPost.no (unhide HNO)
        · by_cases p3 : 1114111 < H k
          · have HNO : Hid (¬ VS n L H) := fun hv => by have := unhide HALL hv; omega
            have d1 : decide (L k < 0) = false := by rw [decide_eq_false_iff_not]; exact p1
            have d2 : decide (H k < L k) = false := by rw [decide_eq_false_iff_not]; exact p2
            have d3 : decide (1114111 < H k) = true := by rw [decide_eq_true_iff]; exact p3
            generalize L k = x at c1 p1 d1 p2 d2
            generalize H k = y at c2 p2 d2 p3 d3
            clear HALL HNEXT
            go_wp2
            go_quiet (fail)
            go_wp2
            go_ret
            rw [World.drewN_drewN]
            exact VPost.no (unhide HNO)
          · have d1 : decide (L k < 0) = false := by rw [decide_eq_false_iff_not]; exact p1
            have d2 : decide (H k < L k) = false := by rw [decide_eq_false_iff_not]; exact p2
            have d3 : decide (1114111 < H k) = false := by rw [decide_eq_false_iff_not]; exact p3
            cases k with
            | zero =>
              have HV1 : Hid (VS (0 + 1) L H) := unhide HNEXT ⟨by omega, by omega, by omega, fun h0 => absurd h0 (Nat.lt_irrefl _)⟩
              simp only [Nat.add_zero] at c1 c2
              generalize L 0 = x at c1 p1 d1 p2 d2
              generalize H 0 = y at c2 p2 d2 p3 d3
              clear HALL HNEXT
              go_wp2
              go_quiet (fail)
              go_wp2
              go_quiet (fail)
              go_wp2
              go_roundw
              case rel => exact ⟨1, _, by omega, by go_num, HV1, rfl⟩
              case measure => simp [intOf]; omega
            | succ k =>
              have c3 := unhide H2 k (by omega)
              have hz := unhide HV k (by omega)
              have hz1 : 0 ≤ H k := by omega
              have hz2 : H k ≤ 1114111 := hz.2.2.1
              have e1 : (((k + 1 : Nat) : Int) - 1) = (k : Int) := by omega
              have hgt : decide ((0 : Int) < (k : Int) + 1) = true := by rw [decide_eq_true_iff]; omega
              clear hz
              by_cases p4 : L (k + 1) ≤ H k + 1
              · have HNO : Hid (¬ VS n L H) := fun hv => by have := (unhide HALL hv).2.2.2 (by omega); simp at this; omega
                have d4 : decide (L (k + 1) ≤ H k + 1) = true := by rw [decide_eq_true_iff]; exact p4
                generalize L (k + 1) = x at c1 p1 d1 p2 d2 p4 d4
                generalize H (k + 1) = y at c2 p2 d2 p3 d3
                generalize H k = z at c3 hz1 hz2 p4 d4
                clear HALL HNEXT
                go_wp2
                go_quiet (fail)
                go_wp2
                go_quiet (fail)
                go_wp2
                go_ret
                rw [World.drewN_drewN, World.drewN_drewN]
                exact VPost.no (unhide HNO)
              · have HV1 : Hid (VS (k + 1 + 1) L H) := unhide HNEXT ⟨by omega, by omega, by omega, fun _ => by simp; omega⟩
                have d4 : decide (L (k + 1) ≤ H k + 1) = false := by rw [decide_eq_false_iff_not]; exact p4
                generalize L (k + 1) = x at c1 p1 d1 p2 d2 p4 d4
                generalize H (k + 1) = y at c2 p2 d2 p3 d3
                generalize H k = z at c3 hz1 hz2 p4 d4
                clear HALL HNEXT
                go_wp2
                go_quiet (fail)
                go_wp2
                go_quiet (fail)
                go_wp2
                go_roundw
                case rel => exact ⟨k + 1 + 1, _, by omega, by go_num, HV1, rfl⟩
                case measure => simp [intOf]; omega
    · have hk' : k = n := by omega
      subst hk'
      go_wp2
      go_ret
      exact VPost.yes (unhide HV)

end Go.Proofs.Qxb6603766a
