/- FnUnionIsTheCanonicalUnion: the walk of the law itself. -/
import Derived.Test.Qxb6603766aHas
import Derived.WalkSmall
namespace Go.Proofs.Qxb6603766a
open Go.RowKit
set_option linter.unusedVariables false

set_option maxHeartbeats 1000000 in
theorem can_out (a0 : Option Addr) (n0 c0 : Nat) (a1 : Option Addr) (n1 c1 : Nat) (a2 : Option Addr) (n2 c2 : Nat) (a3 : Option Addr) (n3 c3 : Nat) (L0 L1 L2 L3 : Nat → Int) (w : World)
    (T : Told w a0 n0 a1 n1 a2 n2 a3 n3 L0 L1 L2 L3) (hout : ¬ (n0 ≤ 262144 ∧ n1 ≤ 262144 ∧ n2 ≤ 262144 ∧ n3 ≤ 262144 ∧ 4 * (n0 + n1 + n2 + n3) ≤ 1048576)) :
    Calls Try.prog 3 #[.slice a0 n0 c0, .slice a1 n1 c1, .slice a2 n2 c2, .slice a3 n3 c3] w fun e w' => e = .returned (.bool true) ∧ Below w.heap.size w w' := by
  go_enter Try.func3, Try.ntmps3
  go_wp2_with fail
  refine (zzBytes3_any a0 n0 c0 a1 n1 c1 a2 n2 c2 a3 n3 c3 w T.m0 T.m1 T.m2 T.m3).mono ?_
  rintro e wz ⟨bz, rfl, rfl⟩
  cases bz with
  | false =>
    go_wp2
    go_ret
    exact ⟨rfl, Below.refl _ _⟩
  | true =>
    have hsplit : 262144 < n0 ∨ (n0 ≤ 262144 ∧ 262144 < n1) ∨ (n0 ≤ 262144 ∧ n1 ≤ 262144 ∧ 262144 < n2) ∨ (n0 ≤ 262144 ∧ n1 ≤ 262144 ∧ n2 ≤ 262144 ∧ 262144 < n3) ∨ (n0 ≤ 262144 ∧ n1 ≤ 262144 ∧ n2 ≤ 262144 ∧ n3 ≤ 262144 ∧ 1048576 < 4 * (n0 + n1 + n2 + n3)) := by omega
    have m0 := T.m0
    have m1 := T.m1
    have m2 := T.m2
    have m3 := T.m3
    unfold maxLen at m0 m1 m2 m3
    clear hout T
    rcases hsplit with y0 | ⟨y0, y1⟩ | ⟨y0, y1, y2⟩ | ⟨y0, y1, y2, y3⟩ | ⟨y0, y1, y2, y3, y4⟩
    all_goals
      go_wp2
      go_ret
      exact ⟨rfl, Below.refl _ _⟩

set_option maxRecDepth 100000 in
set_option maxHeartbeats 2000000 in
theorem can_in (a0 : Option Addr) (n0 c0 : Nat) (a1 : Option Addr) (n1 c1 : Nat) (a2 : Option Addr) (n2 c2 : Nat) (a3 : Option Addr) (n3 c3 : Nat) (L0 L1 L2 L3 : Nat → Int) (w : World)
    (T : Told w a0 n0 a1 n1 a2 n2 a3 n3 L0 L1 L2 L3) (l0 : n0 ≤ 262144) (l1 : n1 ≤ 262144) (l2 : n2 ≤ 262144) (l3 : n3 ≤ 262144) (l4 : 4 * (n0 + n1 + n2 + n3) ≤ 1048576) :
    Calls Try.prog 3 #[.slice a0 n0 c0, .slice a1 n1 c1, .slice a2 n2 c2, .slice a3 n3 c3] w fun e w' => e = .returned (.bool true) ∧ Below w.heap.size w w' := by
  go_enter Try.func3, Try.ntmps3
  go_wp2_with fail
  refine (zzBytes3_any a0 n0 c0 a1 n1 c1 a2 n2 c2 a3 n3 c3 w T.m0 T.m1 T.m2 T.m3).mono ?_
  rintro e wz ⟨bz, rfl, rfl⟩
  cases bz with
  | false =>
    go_wp2
    go_ret
    exact ⟨rfl, Below.refl _ _⟩
  | true =>
    go_wp2_with fail
    refine (validSet_any a0 a1 n0 n1 c0 c1 L0 L1 w (by omega) (by omega) T.h0 T.h1).mono ?_
    rintro e wz ⟨bv, rfl, hbv, m1, rfl⟩
    have HBV := hide hbv
    clear hbv
    cases bv with
    | false =>
      go_wp2
      go_ret
      exact ⟨rfl, below_drewN (Below.refl _ _) m1⟩
    | true =>
      obtain ⟨e01, v01⟩ := (unhide HBV).1 rfl
      have V01 := hide v01
      clear HBV v01
      go_wp2_with fail
      refine (validSet_any a2 a3 n2 n3 c2 c3 L2 L3 _ (by omega) (by omega) (T.h2.drewN m1) (T.h3.drewN m1)).mono ?_
      rintro e wz ⟨bv, rfl, hbv, m2, rfl⟩
      have HBV := hide hbv
      clear hbv
      cases bv with
      | false =>
        go_wp2
        go_ret
        exact ⟨rfl, below_drewN (Below.refl _ _) _⟩
      | true =>
        obtain ⟨e23, v23⟩ := (unhide HBV).1 rfl
        have V23 := hide v23
        clear HBV v23
        subst e01 e23
        go_wp2_with fail
        have r0 : VRow (w.drewN (m1 + m2)) a0 n0 (fun j => .int .i32 (L0 j)) := T.h0
        have r1 : VRow (w.drewN (m1 + m2)) a1 n0 (fun j => .int .i32 (L1 j)) := T.h1
        have r2 : VRow (w.drewN (m1 + m2)) a2 n2 (fun j => .int .i32 (L2 j)) := T.h2
        have r3 : VRow (w.drewN (m1 + m2)) a3 n2 (fun j => .int .i32 (L3 j)) := T.h3
        have bw : Below w.heap.size w (w.drewN (m1 + m2)) := below_drewN (Below.refl _ _) _
        have hsz : (w.drewN (m1 + m2)).heap.size = w.heap.size := rfl
        have E0 := hide T.e0
        have E1 := hide T.e1
        have E2 := hide T.e2
        have E3 := hide T.e3
        clear T
        generalize w.drewN (m1 + m2) = W at *
        refine (cloneRunes_any a0 n0 c0 L0 W (by omega) (unhide E0) r0).mono ?_
        rintro e w1 ⟨⟨x0, z0, d0⟩, rfl, f0, -, -, s0, b1⟩
        simp only [Hd.val] at f0 s0 ⊢
        subst f0
        go_wp2_with fail
        refine (cloneRunes_any a1 z0 c1 L1 w1 (by omega) (unhide E1) (r1.below b1)).mono ?_
        rintro e w2 ⟨⟨x1, z1, d1⟩, rfl, f1, -, -, s1, b2⟩
        simp only [Hd.val] at f1 s1 ⊢
        subst f1
        have b02 : Below W.heap.size W w2 := b1.trans (b2.mono b1.size)
        go_wp2_with fail
        refine (cloneRunes_any a2 n2 c2 L2 w2 (by omega) (unhide E2) (r2.below b02)).mono ?_
        rintro e w3 ⟨⟨x2, z2, d2⟩, rfl, f2, -, -, s2, b3⟩
        simp only [Hd.val] at f2 s2 ⊢
        subst f2
        have b03 : Below W.heap.size W w3 := b02.trans (b3.mono b02.size)
        go_wp2_with fail
        refine (cloneRunes_any a3 z2 c3 L3 w3 (by omega) (unhide E3) (r3.below b03)).mono ?_
        rintro e w4 ⟨⟨x3, z3, d3⟩, rfl, f3, -, -, s3, b4⟩
        simp only [Hd.val] at f3 s3 ⊢
        subst f3
        have b04 : Below W.heap.size W w4 := b03.trans (b4.mono b03.size)
        have bel : Below w.heap.size w w4 := bw.trans (b04.mono (by omega))
        have hra : Row2 w4 x0 x1 (listOf (fun j => (L0 j, L1 j)) z1) := row2_of (((s0.below b2).below b3).below b4) ((s1.below b3).below b4)
        have hrb : Row2 w4 x2 x3 (listOf (fun j => (L2 j, L3 j)) z3) := row2_of (s2.below b4) s3
        have hva := vs_valid (unhide V01)
        have hvb := vs_valid (unhide V23)
        have hza := listOf_length (fun j => (L0 j, L1 j)) z1
        have hzb := listOf_length (fun j => (L2 j, L3 j)) z3
        generalize listOf (fun j => (L0 j, L1 j)) z1 = xs at hra hva hza
        generalize listOf (fun j => (L2 j, L3 j)) z3 = ys at hrb hvb hzb
        subst hza hzb
        have RA := hide hra
        have RB := hide hrb
        have VA := hide hva
        have VB := hide hvb
        have BEL := hide bel
        clear hra hrb hva hvb bel b04 b03 b02 b1 b2 b3 b4 s0 s1 s2 s3 r0 r1 r2 r3 bw hsz V01 V23 E0 E1 E2 E3
        have LU := hide (uni_ok (unhide VA) (unhide VB)).2.2
        have VU := hide (uni_ok (unhide VA) (unhide VB)).1
        have MU : Hid (∀ p, hasB (uni xs ys) p = (hasB xs p || hasB ys p)) := fun p => by
          rw [Bool.eq_iff_iff, Bool.or_eq_true, hasB_iff, hasB_iff, hasB_iff]
          exact (uni_ok (unhide VA) (unhide VB)).2.1 p
        go_wp2_with fail
        refine (zzUnion_any x0 x1 x2 x3 d0 d1 d2 d3 xs ys _ (by first | omega | (rw [List.length_nil]; omega)) (by first | omega | (rw [List.length_nil]; omega)) (fun p hp => (unhide VA).2 p hp) (fun p hp => (unhide VB).2 p hp) (by have h9 := (uni_ok (unhide VA) (unhide VB)).2.2; first | omega | (rw [List.length_nil] at h9; omega)) (unhide RA) (unhide RB)).mono ?_
        rintro e w5 ⟨g5, g5', rfl, r5, b5⟩
        have hu := unhide LU
        generalize huu : uni xs ys = us at *
        clear huu
        have BEL5 := hide (show Below w.heap.size w w5 from (unhide BEL).trans (b5.mono (unhide BEL).size))
        have RA5 := hide ((unhide RA).below b5)
        have RB5 := hide ((unhide RB).below b5)
        have R5 := hide r5
        clear r5 b5 RA RB BEL
        go_wp2_with fail
        refine (validSet_yes _ _ _ _ us w5 (by omega) (unhide VU) (unhide R5)).mono ?_
        rintro e wz ⟨rfl, m5, rfl⟩
        have TH : Hid (Three (w5.drewN m5) x0 x1 x2 x3 (some ⟨g5, 0, none⟩) (some ⟨g5', 0, none⟩) xs ys us) := ⟨by omega, by omega, by omega, unhide VA, unhide VB, unhide VU, (unhide RA5).drewN m5, (unhide RB5).drewN m5, (unhide R5).drewN m5, unhide MU⟩
        clear RA5 RB5 R5
        go_wp2_with fail
        refine (ends_yes x0 x1 x0 x1 x2 x3 _ _ _ _ _ _ _ _ _ _ xs xs ys us _ (by omega) (unhide VA) (unhide TH).rx (unhide TH)).mono ?_
        rintro e wz ⟨rfl, rfl⟩
        go_wp2_with fail
        refine (ends_yes x2 x3 x0 x1 x2 x3 _ _ _ _ _ _ _ _ _ _ ys xs ys us _ (by omega) (unhide VB) (unhide TH).ry (unhide TH)).mono ?_
        rintro e wz ⟨rfl, rfl⟩
        go_wp2_with fail
        refine (ends_yes _ _ x0 x1 x2 x3 _ _ _ _ _ _ _ _ _ _ us xs ys us _ (by omega) (unhide VU) (unhide TH).ru (unhide TH)).mono ?_
        rintro e wz ⟨rfl, rfl⟩
        go_wp2
        go_ret
        exact ⟨rfl, below_drewN (unhide BEL5) m5⟩


end Go.Proofs.Qxb6603766a
