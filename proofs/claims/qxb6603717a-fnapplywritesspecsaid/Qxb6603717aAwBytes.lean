/- FnApplyWritesSpec: zzBytes, inputBytes. -/
import Derived.Test.Qxb6603717aProg
import Derived.Test.Qxb6603717aAwBase
namespace Go.Proofs.Qxb6603717a.Aw
open Go.RowKit
set_option linter.unusedVariables false

def ZzPost (n0 n1 n2 n3 n4 : Nat) (V1 V3 : Nat → Hd) (w : World) (e : Ending) (w' : World) : Prop := ∃ b : Bool, e = .returned (.bool b) ∧ w = w' ∧
      (b = true → n0 ≤ 1048576 ∧ n1 ≤ 1048576 ∧ n2 ≤ 1048576 ∧ n3 ≤ 1048576 ∧ n4 ≤ 1048576 ∧ (∀ j, j < n1 → (V1 j).n ≤ 1048576) ∧ (∀ j, j < n3 → (V3 j).n ≤ 1048576))

set_option maxHeartbeats 2000000 in
theorem zzBytes_any (a0 : Option Addr) (n0 c0 : Nat) (a1 : Option Addr) (n1 c1 : Nat) (a2 : Option Addr) (n2 c2 : Nat) (a3 : Option Addr) (n3 c3 : Nat) (a4 : Option Addr) (n4 c4 : Nat) (K0 K2 : Nat → ByteArray) (V1 V3 : Nat → Hd) (w : World)
    (m0 : n0 ≤ maxLen) (m1 : n1 ≤ maxLen) (m2 : n2 ≤ maxLen) (m3 : n3 ≤ maxLen) (m4 : n4 ≤ maxLen)
    (h0 : VRow w a0 n0 (fun j => .string (K0 j))) (hm0 : ∀ j, j < n0 → (K0 j).size ≤ maxLen) (h1 : VRow w a1 n1 (fun j => (V1 j).val)) (hm1 : ∀ j, j < n1 → (V1 j).n ≤ maxLen)
    (h2 : VRow w a2 n2 (fun j => .string (K2 j))) (hm2 : ∀ j, j < n2 → (K2 j).size ≤ maxLen) (h3 : VRow w a3 n3 (fun j => (V3 j).val)) (hm3 : ∀ j, j < n3 → (V3 j).n ≤ maxLen) :
    Calls Try.prog 10 #[.slice a0 n0 c0, .slice a1 n1 c1, .slice a2 n2 c2, .slice a3 n3 c3, .slice a4 n4 c4] w (ZzPost n0 n1 n2 n3 n4 V1 V3 w) := by
  have H0 := hide h0
  have H1 := hide h1
  have H2 := hide h2
  have H3 := hide h3
  have HM0 := hide hm0
  have HM1 := hide hm1
  have HM2 := hide hm2
  have HM3 := hide hm3
  clear h0 h1 h2 h3 hm0 hm1 hm2 hm3
  unfold maxLen at m0 m1 m2 m3 m4
  go_enter Try.func10, Try.ntmps10
  by_cases hq0 : n0 ≤ 1048576
  · go_wp2
    go_loop [11, 12] (fun zz i => ∃ k z : Nat, k ≤ n0 ∧ i = .int .i64 k ∧ zz = .int .i64 z ∧ z ≤ 1048576) (fun _ i => n0 - (intOf i).toNat)
    case atStart => exact ⟨0, n0, Nat.zero_le _, rfl, rfl, by omega⟩
    case round =>
      obtain ⟨k, z, hk, rfl, rfl, hz0⟩ := hrel
      by_cases hlt : k < n0
      · obtain ⟨b, o, hab, hcell⟩ : ∃ b o, a0 = some ⟨b, o, none⟩ ∧ w.cell? ⟨b, o + k, none⟩ = some (.string (K0 k)) := by
          rcases unhide H0 with h | ⟨b, o, h, hc⟩
          · omega
          · exact ⟨b, o, h, hc k hlt⟩
        have hm := unhide HM0 k hlt
        generalize K0 k = x at hcell hm
        subst hab
        unfold maxLen at hm
        by_cases hl : x.size ≤ 1048576
        · by_cases hz : z + x.size ≤ 1048576
          · go_wp2
            go_round
            case rel => exact ⟨k + 1, z + x.size, by omega, by go_num, by go_num, hz⟩
            case measure => simp [intOf]; omega
          · go_wp2
            go_ret
            exact ⟨false, rfl, rfl, fun h => by cases h⟩
        · go_wp2
          go_ret
          exact ⟨false, rfl, rfl, fun h => by cases h⟩
      · have hk' : k = n0 := by omega
        subst hk'
        generalize hzz : z = z1 at *
        clear hzz
        by_cases hq1 : n1 ≤ 1048576
        · by_cases hr1 : z1 + n1 ≤ 1048576
          · go_wp2
            go_loop [11, 13] (fun zz i => ∃ k z : Nat, k ≤ n1 ∧ i = .int .i64 k ∧ zz = .int .i64 z ∧ z ≤ 1048576 ∧ Hid (∀ j, j < k → (V1 j).n ≤ 1048576)) (fun _ i => n1 - (intOf i).toNat)
            case atStart => exact ⟨0, z1 + n1, Nat.zero_le _, rfl, by go_num, by omega, (fun j hj => absurd hj (Nat.not_lt_zero _))⟩
            case round =>
              obtain ⟨k, z, hk, rfl, rfl, hz0, HB1⟩ := hrel
              by_cases hlt : k < n1
              · obtain ⟨b, o, hab, hcell⟩ : ∃ b o, a1 = some ⟨b, o, none⟩ ∧ w.cell? ⟨b, o + k, none⟩ = some (V1 k).val := by
                  rcases unhide H1 with h | ⟨b, o, h, hc⟩
                  · omega
                  · exact ⟨b, o, h, hc k hlt⟩
                have hm := unhide HM1 k hlt
                have hnew : (V1 k).n ≤ 1048576 → Hid (∀ j, j < k + 1 → (V1 j).n ≤ 1048576) := fun h j hj => by
                  by_cases e : j = k
                  · subst e; exact h
                  · exact unhide HB1 j (by omega)
                have HNW := hide hnew
                clear hnew
                generalize V1 k = x at hcell hm HNW
                obtain ⟨xa, xn, xc⟩ := x
                simp only [Hd.val] at hcell hm HNW
                subst hab
                unfold maxLen at hm
                by_cases hl : xn ≤ 1048576
                · by_cases hz : z + xn ≤ 1048576
                  · go_wp2
                    go_round
                    case rel => exact ⟨k + 1, z + xn, by omega, by go_num, by go_num, hz, unhide HNW hl⟩
                    case measure => simp [intOf]; omega
                  · go_wp2
                    go_ret
                    exact ⟨false, rfl, rfl, fun h => by cases h⟩
                · go_wp2
                  go_ret
                  exact ⟨false, rfl, rfl, fun h => by cases h⟩
              · have hk' : k = n1 := by omega
                subst hk'
                generalize hzz : z = z2 at *
                clear hzz
                by_cases hq2 : n2 ≤ 1048576
                · by_cases hr2 : z2 + n2 ≤ 1048576
                  · go_wp2
                    go_loop [11, 14] (fun zz i => ∃ k z : Nat, k ≤ n2 ∧ i = .int .i64 k ∧ zz = .int .i64 z ∧ z ≤ 1048576) (fun _ i => n2 - (intOf i).toNat)
                    case atStart => exact ⟨0, z2 + n2, Nat.zero_le _, rfl, by go_num, by omega⟩
                    case round =>
                      obtain ⟨k, z, hk, rfl, rfl, hz0⟩ := hrel
                      by_cases hlt : k < n2
                      · obtain ⟨b, o, hab, hcell⟩ : ∃ b o, a2 = some ⟨b, o, none⟩ ∧ w.cell? ⟨b, o + k, none⟩ = some (.string (K2 k)) := by
                          rcases unhide H2 with h | ⟨b, o, h, hc⟩
                          · omega
                          · exact ⟨b, o, h, hc k hlt⟩
                        have hm := unhide HM2 k hlt
                        generalize K2 k = x at hcell hm
                        subst hab
                        unfold maxLen at hm
                        by_cases hl : x.size ≤ 1048576
                        · by_cases hz : z + x.size ≤ 1048576
                          · go_wp2
                            go_round
                            case rel => exact ⟨k + 1, z + x.size, by omega, by go_num, by go_num, hz⟩
                            case measure => simp [intOf]; omega
                          · go_wp2
                            go_ret
                            exact ⟨false, rfl, rfl, fun h => by cases h⟩
                        · go_wp2
                          go_ret
                          exact ⟨false, rfl, rfl, fun h => by cases h⟩
                      · have hk' : k = n2 := by omega
                        subst hk'
                        generalize hzz : z = z3 at *
                        clear hzz
                        by_cases hq3 : n3 ≤ 1048576
                        · by_cases hr3 : z3 + n3 ≤ 1048576
                          · go_wp2
                            go_loop [11, 15] (fun zz i => ∃ k z : Nat, k ≤ n3 ∧ i = .int .i64 k ∧ zz = .int .i64 z ∧ z ≤ 1048576 ∧ Hid (∀ j, j < k → (V3 j).n ≤ 1048576)) (fun _ i => n3 - (intOf i).toNat)
                            case atStart => exact ⟨0, z3 + n3, Nat.zero_le _, rfl, by go_num, by omega, (fun j hj => absurd hj (Nat.not_lt_zero _))⟩
                            case round =>
                              obtain ⟨k, z, hk, rfl, rfl, hz0, HB3⟩ := hrel
                              by_cases hlt : k < n3
                              · obtain ⟨b, o, hab, hcell⟩ : ∃ b o, a3 = some ⟨b, o, none⟩ ∧ w.cell? ⟨b, o + k, none⟩ = some (V3 k).val := by
                                  rcases unhide H3 with h | ⟨b, o, h, hc⟩
                                  · omega
                                  · exact ⟨b, o, h, hc k hlt⟩
                                have hm := unhide HM3 k hlt
                                have hnew : (V3 k).n ≤ 1048576 → Hid (∀ j, j < k + 1 → (V3 j).n ≤ 1048576) := fun h j hj => by
                                  by_cases e : j = k
                                  · subst e; exact h
                                  · exact unhide HB3 j (by omega)
                                have HNW := hide hnew
                                clear hnew
                                generalize V3 k = x at hcell hm HNW
                                obtain ⟨xa, xn, xc⟩ := x
                                simp only [Hd.val] at hcell hm HNW
                                subst hab
                                unfold maxLen at hm
                                by_cases hl : xn ≤ 1048576
                                · by_cases hz : z + xn ≤ 1048576
                                  · go_wp2
                                    go_round
                                    case rel => exact ⟨k + 1, z + xn, by omega, by go_num, by go_num, hz, unhide HNW hl⟩
                                    case measure => simp [intOf]; omega
                                  · go_wp2
                                    go_ret
                                    exact ⟨false, rfl, rfl, fun h => by cases h⟩
                                · go_wp2
                                  go_ret
                                  exact ⟨false, rfl, rfl, fun h => by cases h⟩
                              · have hk' : k = n3 := by omega
                                subst hk'
                                generalize hzz : z = z4 at *
                                clear hzz
                                by_cases hq4 : n4 ≤ 1048576
                                · by_cases hr4 : z4 + n4 ≤ 1048576
                                  · go_wp2
                                    go_ret
                                    exact ⟨true, rfl, rfl, fun _ => ⟨by omega, by omega, by omega, by omega, by omega, unhide HB1, unhide HB3⟩⟩
                                  · go_wp2
                                    go_ret
                                    exact ⟨false, rfl, rfl, fun h => by cases h⟩
                                · go_wp2
                                  go_ret
                                  exact ⟨false, rfl, rfl, fun h => by cases h⟩
                          · go_wp2
                            go_ret
                            exact ⟨false, rfl, rfl, fun h => by cases h⟩
                        · go_wp2
                          go_ret
                          exact ⟨false, rfl, rfl, fun h => by cases h⟩
                  · go_wp2
                    go_ret
                    exact ⟨false, rfl, rfl, fun h => by cases h⟩
                · go_wp2
                  go_ret
                  exact ⟨false, rfl, rfl, fun h => by cases h⟩
          · go_wp2
            go_ret
            exact ⟨false, rfl, rfl, fun h => by cases h⟩
        · go_wp2
          go_ret
          exact ⟨false, rfl, rfl, fun h => by cases h⟩
  · go_wp2
    go_ret
    exact ⟨false, rfl, rfl, fun h => by cases h⟩

def InPost (w : World) (e : Ending) (w' : World) : Prop := ∃ z : Int, e = .returned (.int .i64 z) ∧ w = w'

set_option maxHeartbeats 2000000 in
theorem inputBytes_any (a0 : Option Addr) (n0 c0 : Nat) (a1 : Option Addr) (n1 c1 : Nat) (a2 : Option Addr) (n2 c2 : Nat) (a3 : Option Addr) (n3 c3 : Nat) (a4 : Option Addr) (n4 c4 : Nat) (K0 K2 : Nat → ByteArray) (V1 V3 : Nat → Hd) (w : World)
    (m0 : n0 ≤ 1048576) (m1 : n1 ≤ 1048576) (m2 : n2 ≤ 1048576) (m3 : n3 ≤ 1048576) (m4 : n4 ≤ 1048576)
    (h0 : VRow w a0 n0 (fun j => .string (K0 j))) (h1 : VRow w a1 n1 (fun j => (V1 j).val)) (h2 : VRow w a2 n2 (fun j => .string (K2 j))) (h3 : VRow w a3 n3 (fun j => (V3 j).val)) :
    Calls Try.prog 11 #[.slice a0 n0 c0, .slice a1 n1 c1, .slice a2 n2 c2, .slice a3 n3 c3, .slice a4 n4 c4] w (InPost w) := by
  have H0 := hide h0
  have H1 := hide h1
  have H2 := hide h2
  have H3 := hide h3
  clear h0 h1 h2 h3
  go_enter Try.func11, Try.ntmps11
  go_wp2
  go_loop [11, 12] (fun zz i => ∃ (k : Nat) (z : Int), k ≤ n0 ∧ i = .int .i64 k ∧ zz = .int .i64 z) (fun _ i => n0 - (intOf i).toNat)
  case atStart => exact ⟨0, _, Nat.zero_le _, rfl, rfl⟩
  case round =>
    obtain ⟨k, z, hk, rfl, rfl⟩ := hrel
    by_cases hlt : k < n0
    · obtain ⟨b, o, hab, hcell⟩ : ∃ b o, a0 = some ⟨b, o, none⟩ ∧ w.cell? ⟨b, o + k, none⟩ = some (.string (K0 k)) := by
        rcases unhide H0 with h | ⟨b, o, h, hc⟩
        · omega
        · exact ⟨b, o, h, hc k hlt⟩
      generalize K0 k = x at hcell
      subst hab
      go_wp2
      go_round
      case rel => exact ⟨k + 1, _, by omega, by go_num, rfl⟩
      case measure => simp [intOf]; omega
    · have hk' : k = n0 := by omega
      subst hk'
      go_wp2
      go_loop [11, 13] (fun zz i => ∃ (k : Nat) (z : Int), k ≤ n2 ∧ i = .int .i64 k ∧ zz = .int .i64 z) (fun _ i => n2 - (intOf i).toNat)
      case atStart => exact ⟨0, _, Nat.zero_le _, rfl, rfl⟩
      case round =>
        obtain ⟨k, z, hk, rfl, rfl⟩ := hrel
        by_cases hlt : k < n2
        · obtain ⟨b, o, hab, hcell⟩ : ∃ b o, a2 = some ⟨b, o, none⟩ ∧ w.cell? ⟨b, o + k, none⟩ = some (.string (K2 k)) := by
            rcases unhide H2 with h | ⟨b, o, h, hc⟩
            · omega
            · exact ⟨b, o, h, hc k hlt⟩
          generalize K2 k = x at hcell
          subst hab
          go_wp2
          go_round
          case rel => exact ⟨k + 1, _, by omega, by go_num, rfl⟩
          case measure => simp [intOf]; omega
        · have hk' : k = n2 := by omega
          subst hk'
          go_wp2
          go_loop [11, 14] (fun zz i => ∃ (k : Nat) (z : Int), k ≤ n1 ∧ i = .int .i64 k ∧ zz = .int .i64 z) (fun _ i => n1 - (intOf i).toNat)
          case atStart => exact ⟨0, _, Nat.zero_le _, rfl, rfl⟩
          case round =>
            obtain ⟨k, z, hk, rfl, rfl⟩ := hrel
            by_cases hlt : k < n1
            · obtain ⟨b, o, hab, hcell⟩ : ∃ b o, a1 = some ⟨b, o, none⟩ ∧ w.cell? ⟨b, o + k, none⟩ = some ((V1 k).val) := by
                rcases unhide H1 with h | ⟨b, o, h, hc⟩
                · omega
                · exact ⟨b, o, h, hc k hlt⟩
              generalize V1 k = x at hcell
              obtain ⟨xa, xn, xc⟩ := x
              simp only [Hd.val] at hcell
              subst hab
              go_wp2
              go_round
              case rel => exact ⟨k + 1, _, by omega, by go_num, rfl⟩
              case measure => simp [intOf]; omega
            · have hk' : k = n1 := by omega
              subst hk'
              go_wp2
              go_loop [11, 15] (fun zz i => ∃ (k : Nat) (z : Int), k ≤ n3 ∧ i = .int .i64 k ∧ zz = .int .i64 z) (fun _ i => n3 - (intOf i).toNat)
              case atStart => exact ⟨0, _, Nat.zero_le _, rfl, rfl⟩
              case round =>
                obtain ⟨k, z, hk, rfl, rfl⟩ := hrel
                by_cases hlt : k < n3
                · obtain ⟨b, o, hab, hcell⟩ : ∃ b o, a3 = some ⟨b, o, none⟩ ∧ w.cell? ⟨b, o + k, none⟩ = some ((V3 k).val) := by
                    rcases unhide H3 with h | ⟨b, o, h, hc⟩
                    · omega
                    · exact ⟨b, o, h, hc k hlt⟩
                  generalize V3 k = x at hcell
                  obtain ⟨xa, xn, xc⟩ := x
                  simp only [Hd.val] at hcell
                  subst hab
                  go_wp2
                  go_round
                  case rel => exact ⟨k + 1, _, by omega, by go_num, rfl⟩
                  case measure => simp [intOf]; omega
                · have hk' : k = n3 := by omega
                  subst hk'
                  go_wp2
                  go_ret
                  exact ⟨_, rfl, rfl⟩

end Go.Proofs.Qxb6603717a.Aw
