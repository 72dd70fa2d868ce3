/- patB1Has, patB1Agree, patB1AgreeAtEnds. -/
import Derived.Test.Qxb6603766aLaw
namespace Go.Proofs.Qxb6603766a
open Go.RowKit
set_option linter.unusedVariables false

def hasB (us : List (Int × Int)) (p : Int) : Bool := us.any fun q => decide (q.1 ≤ p) && decide (p ≤ q.2)
theorem hasB_iff (us : List (Int × Int)) (p : Int) : hasB us p = true ↔ Mem us p := by
  simp [hasB, Mem, List.any_eq_true]

theorem has_none {us : List (Int × Int)} {p : Int} (h : ∀ j, j < us.length → p < (nth us j).1) : hasB us p = false := by
  cases hb : hasB us p
  · rfl
  · obtain ⟨q, hq, h1, h2⟩ := (hasB_iff us p).1 hb
    obtain ⟨j, hj, rfl⟩ := List.mem_iff_getElem.1 hq
    have := h j hj
    simp [nth, List.getD, hj] at this
    omega

theorem has_at {us : List (Int × Int)} {p : Int} (hv : Valid us) {k : Nat} (hk : k < us.length) (h1 : (nth us k).1 ≤ p) (h2 : ∀ j, k < j → j < us.length → p < (nth us j).1) : hasB us p = decide (p ≤ (nth us k).2) := by
  have vs := valid_vs hv
  by_cases hp : p ≤ (nth us k).2
  · rw [decide_eq_true hp, hasB_iff]
    exact ⟨_, nth_mem hk, h1, hp⟩
  · rw [decide_eq_false hp]
    cases hb : hasB us p
    · rfl
    · obtain ⟨q, hq, h3, h4⟩ := (hasB_iff us p).1 hb
      obtain ⟨j, hj, rfl⟩ := List.mem_iff_getElem.1 hq
      have e : us[j] = nth us j := by simp [nth, List.getD, hj]
      rw [e] at h3 h4
      by_cases hjk : j < k
      · have h5 := vs_lt vs (i := j) k hjk hk
        omega
      · by_cases e' : j = k
        · subst e'; omega
        · have := h2 j (by omega) hj
          omega

set_option maxHeartbeats 400000 in
theorem has_zero (a a' : Option Addr) (c c' : Nat) (p : Int) (w : World) : Calls Try.prog 24 #[.slice a 0 c, .slice a' 0 c', .int .i32 p] w fun e w' => e = .returned (.bool false) ∧ w = w' := by
  go_enter Try.func24, Try.ntmps24
  go_wp2
  refine wp_loop_rounds 1 ?_
  rw [rounds_succ]
  go_wp2
  go_ret
  exact ⟨rfl, rfl⟩

set_option maxHeartbeats 800000 in
theorem has_pos (g o g' o' c c' n : Nat) (L H : Nat → Int) (p : Int) (R : Bool) (w : World) (hn : n ≤ 1048576) (hnone : (∀ j, j < n → p < L j) → R = false) (hat : ∀ k, k < n → L k ≤ p → (∀ j, k < j → j < n → p < L j) → R = decide (p ≤ H k)) (hmono : ∀ i j, i ≤ j → j < n → L i ≤ L j)
    (h1 : ∀ j, j < n → w.cell? ⟨g, o + j, none⟩ = some (.int .i32 (L j))) (h2 : ∀ j, j < n → w.cell? ⟨g', o' + j, none⟩ = some (.int .i32 (H j))) :
    Calls Try.prog 24 #[.slice (some ⟨g, o, none⟩) n c, .slice (some ⟨g', o', none⟩) n c', .int .i32 p] w fun e w' => e = .returned (.bool R) ∧ w = w' := by
  have H1 := hide h1
  have H2 := hide h2
  have HN := hide hnone
  have HA := hide hat
  have HM := hide hmono
  clear h1 h2 hnone hat hmono
  go_enter Try.func24, Try.ntmps24
  go_wp2
  go_loop [7, 8] (fun x y => ∃ a b : Nat, a ≤ b ∧ b ≤ n ∧ x = .int .i64 a ∧ y = .int .i64 b ∧ Hid ((∀ j, j < a → L j ≤ p) ∧ ∀ j, b ≤ j → j < n → p < L j)) (fun x y => (intOf y).toNat - (intOf x).toNat)
  case atStart => exact ⟨0, n, Nat.zero_le _, Nat.le_refl _, rfl, rfl, (fun j hj => absurd hj (Nat.not_lt_zero _)), (fun j h1 h2 => by omega)⟩
  case round =>
    obtain ⟨a, b, hab, hbn, rfl, rfl, HI⟩ := hrel
    by_cases hlt : a < b
    · obtain ⟨m, hm⟩ : ∃ m, m = a + (b - a) / 2 := ⟨_, rfl⟩
      have hm1 : a ≤ m := by omega
      have hm2 : m < b := by omega
      have e1 : (a : Int) + ((b : Int) - (a : Int)) / 2 = (m : Int) := by omega
      have e2 : ((b : Int) - (a : Int)).tdiv 2 = ((b : Int) - (a : Int)) / 2 := Int.tdiv_eq_ediv_of_nonneg (by omega)
      clear hm
      have c1 := unhide H1 m (by omega)
      by_cases hp : L m ≤ p
      · have hi' : Hid ((∀ j, j < m + 1 → L j ≤ p) ∧ ∀ j, b ≤ j → j < n → p < L j) := ⟨fun j hj => Int.le_trans (unhide HM j m (by omega) (by omega)) hp, (unhide HI).2⟩
        generalize L m = x at c1 hp
        go_wp2
        go_round
        case rel => exact ⟨m + 1, b, by omega, hbn, by go_num, rfl, hi'⟩
        case measure => simp [intOf]; omega
      · have hi' : Hid ((∀ j, j < a → L j ≤ p) ∧ ∀ j, m ≤ j → j < n → p < L j) := ⟨(unhide HI).1, fun j h1 h2 => by have := unhide HM m j h1 h2; omega⟩
        generalize L m = x at c1 hp
        go_wp2
        go_round
        case rel => exact ⟨a, m, by omega, by omega, rfl, rfl, hi'⟩
        case measure => simp [intOf]; omega
    · have hab' : a = b := by omega
      subst hab'
      cases a with
      | zero =>
        have hr := unhide HN (fun j hj => (unhide HI).2 j (Nat.zero_le _) hj)
        subst hr
        go_wp2
        go_ret
        exact ⟨rfl, rfl⟩
      | succ k =>
        have hr := unhide HA k (by omega) ((unhide HI).1 k (Nat.lt_succ_self _)) (fun j h1 h2 => (unhide HI).2 j (by omega) h2)
        have c2 := unhide H2 k (by omega)
        generalize H k = z at c2 hr
        subst hr
        go_wp2
        go_ret
        exact ⟨rfl, rfl⟩

theorem has_any (a a' : Option Addr) (c c' : Nat) (us : List (Int × Int)) (p : Int) (w : World) (hn : us.length ≤ 1048576) (hv : Valid us) (h : Row2 w a a' us) :
    Calls Try.prog 24 #[.slice a us.length c, .slice a' us.length c', .int .i32 p] w fun e w' => e = .returned (.bool (hasB us p)) ∧ w = w' := by
  obtain ⟨h1, h2⟩ := h
  by_cases h0 : us.length = 0
  · have : us = [] := List.eq_nil_of_length_eq_zero h0
    subst this
    exact has_zero a a' c c' p w
  · rcases h1 with h | ⟨g1, o1, rfl, k1⟩
    · exact absurd h h0
    rcases h2 with h | ⟨g2, o2, rfl, k2⟩
    · exact absurd h h0
    refine has_pos g1 o1 g2 o2 c c' us.length _ _ p (hasB us p) w hn has_none (fun k hk h1 h2 => has_at hv hk h1 h2) (fun i j hij hj => ?_) k1 k2
    by_cases e : i = j
    · subst e; exact Int.le_refl _
    · have h3 := vs_lt (valid_vs hv) (i := i) j (by omega) hj
      have h4 := valid_vs hv i (by omega)
      simp only at h3 h4
      omega


/-- Three sets in memory: two and their union. -/
structure Three (w : World) (a a' b b' u u' : Option Addr) (xs ys us : List (Int × Int)) : Prop where
  lx : xs.length ≤ 1048576
  ly : ys.length ≤ 1048576
  lu : us.length ≤ 1048576
  vx : Valid xs
  vy : Valid ys
  vu : Valid us
  rx : Row2 w a a' xs
  ry : Row2 w b b' ys
  ru : Row2 w u u' us
  mem : ∀ p, hasB us p = (hasB xs p || hasB ys p)

set_option maxHeartbeats 400000 in
theorem agree_yes (a a' b b' u u' : Option Addr) (c1 c2 c3 c4 c5 c6 : Nat) (xs ys us : List (Int × Int)) (p : Int) (w : World) (h : Three w a a' b b' u u' xs ys us) :
    Calls Try.prog 21 #[.int .i32 p, .slice a xs.length c1, .slice a' xs.length c2, .slice b ys.length c3, .slice b' ys.length c4, .slice u us.length c5, .slice u' us.length c6] w fun e w' => e = .returned (.bool true) ∧ w = w' := by
  have hm := h.mem p
  have H := hide h
  clear h
  cases hx : hasB xs p with
  | true =>
    rw [hx, Bool.true_or] at hm
    have HX := hide hx
    have HM := hide hm
    clear hx hm
    go_enter Try.func21, Try.ntmps21
    go_wp2_with fail
    refine (has_any u u' c5 c6 us p w (unhide H).lu (unhide H).vu (unhide H).ru).mono ?_
    rintro e w' ⟨rfl, rfl⟩
    rw [unhide HM]
    go_wp2_with fail
    refine (has_any a a' c1 c2 xs p w (unhide H).lx (unhide H).vx (unhide H).rx).mono ?_
    rintro e w' ⟨rfl, rfl⟩
    rw [unhide HX]
    go_wp2
    go_ret
    exact ⟨rfl, rfl⟩
  | false =>
    rw [hx, Bool.false_or] at hm
    have HX := hide hx
    have HM := hide hm
    clear hx hm
    go_enter Try.func21, Try.ntmps21
    go_wp2_with fail
    refine (has_any u u' c5 c6 us p w (unhide H).lu (unhide H).vu (unhide H).ru).mono ?_
    rintro e w' ⟨rfl, rfl⟩
    rw [unhide HM]
    go_wp2_with fail
    refine (has_any a a' c1 c2 xs p w (unhide H).lx (unhide H).vx (unhide H).rx).mono ?_
    rintro e w' ⟨rfl, rfl⟩
    rw [unhide HX]
    go_wp2_with fail
    refine (has_any b b' c3 c4 ys p w (unhide H).ly (unhide H).vy (unhide H).ry).mono ?_
    rintro e w' ⟨rfl, rfl⟩
    generalize hasB ys p = t
    have ht : (t == t) = true := by simp
    go_wp2
    go_ret
    exact ⟨rfl, rfl⟩

set_option maxHeartbeats 800000 in
theorem ends_yes (q q' a a' b b' u u' : Option Addr) (d1 d2 c1 c2 c3 c4 c5 c6 : Nat) (ps xs ys us : List (Int × Int)) (w : World) (hl : ps.length ≤ 1048576) (hv : Valid ps) (hr : Row2 w q q' ps) (h : Three w a a' b b' u u' xs ys us) :
    Calls Try.prog 11 #[.slice q ps.length d1, .slice q' ps.length d2, .slice a xs.length c1, .slice a' xs.length c2, .slice b ys.length c3, .slice b' ys.length c4, .slice u us.length c5, .slice u' us.length c6] w fun e w' => e = .returned (.bool true) ∧ w = w' := by
  have H := hide h
  have R1 := hide hr.1
  have R2 := hide hr.2
  have V := hide hv
  clear h hr hv
  go_enter Try.func11, Try.ntmps11
  go_wp2
  go_loop [17] (fun i => ∃ k : Nat, k ≤ ps.length ∧ i = .int .i64 k) (fun i => ps.length - (intOf i).toNat)
  case atStart => exact ⟨0, Nat.zero_le _, rfl⟩
  case round =>
    obtain ⟨k, hk, rfl⟩ := hrel
    by_cases hlt : k < ps.length
    · obtain ⟨g1, o1, hq, c7⟩ : ∃ g o, q = some ⟨g, o, none⟩ ∧ w.cell? ⟨g, o + k, none⟩ = some (.int .i32 (nth ps k).1) := by
        rcases unhide R1 with h | ⟨g, o, h, hc⟩
        · omega
        · exact ⟨g, o, h, hc k hlt⟩
      obtain ⟨g2, o2, hq', c8⟩ : ∃ g o, q' = some ⟨g, o, none⟩ ∧ w.cell? ⟨g, o + k, none⟩ = some (.int .i32 (nth ps k).2) := by
        rcases unhide R2 with h | ⟨g, o, h, hc⟩
        · omega
        · exact ⟨g, o, h, hc k hlt⟩
      obtain ⟨v1, v2, v3⟩ := (unhide V).2 _ (nth_mem hlt)
      generalize nth ps k = x at c7 c8 v1 v2 v3
      obtain ⟨x1, x2⟩ := x
      simp only at c7 c8 v1 v2 v3
      subst hq hq'
      go_wp2_with fail
      refine (agree_yes a a' b b' u u' c1 c2 c3 c4 c5 c6 xs ys us _ w (unhide H)).mono ?_
      rintro e w' ⟨rfl, rfl⟩
      go_wp2_with fail
      refine (agree_yes a a' b b' u u' c1 c2 c3 c4 c5 c6 xs ys us _ w (unhide H)).mono ?_
      rintro e w' ⟨rfl, rfl⟩
      go_wp2
      go_round
      case rel => exact ⟨k + 1, by omega, by go_num⟩
      case measure => simp [intOf]; omega
    · go_wp2
      go_ret
      exact ⟨rfl, rfl⟩

end Go.Proofs.Qxb6603766a
