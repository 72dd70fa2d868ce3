/- The law: decodeList undoes encode. -/
import Derived.Test.Qxb6603826aDecAny
namespace Go.Proofs.Qxb6603826a
open Go.RowKit
set_option linter.unusedVariables false

set_option maxHeartbeats 400000 in
theorem zz13_any (a0 a1 a3 : Option Addr) (n0 c0 n1 c1 n3 c3 : Nat) (q : Int) (w : World) (hm0 : n0 ≤ maxLen) (hm1 : n1 ≤ maxLen) (hm3 : n3 ≤ maxLen) :
    Calls Try.prog 13 #[.slice a0 n0 c0, .slice a1 n1 c1, .int .u32 q, .slice a3 n3 c3] w fun e w' => e = .returned (.bool (zz3 n0 n1 n3)) ∧ w = w' := by
  have e : maxLen = 9223372036854775807 := rfl
  rw [e] at hm0 hm1 hm3
  clear e
  by_cases h0 : n0 ≤ 1048576
  · by_cases h1 : n1 ≤ 1048576
    · by_cases h2 : n0 + n1 ≤ 1048576
      · have i2 : (n0 : Int) + (n1 : Int) ≤ 1048576 := by omega
        by_cases h3 : n3 ≤ 1048576
        · by_cases h4 : n0 + n1 + n3 ≤ 1048576
          · have HF : Hid (zz3 n0 n1 n3 = true) := decide_eq_true (by omega)
            have i4 : (n0 : Int) + (n1 : Int) + (n3 : Int) ≤ 1048576 := by omega
            go_enter Try.func13, Try.ntmps13
            go_wp2
            go_ret
            exact ⟨by rw [unhide HF]; rfl, rfl⟩
          · have HF : Hid (zz3 n0 n1 n3 = false) := decide_eq_false (by omega)
            have i4 : ¬ (n0 : Int) + (n1 : Int) + (n3 : Int) ≤ 1048576 := by omega
            go_enter Try.func13, Try.ntmps13
            go_wp2
            go_ret
            exact ⟨by rw [unhide HF]; rfl, rfl⟩
        · have HF : Hid (zz3 n0 n1 n3 = false) := decide_eq_false (by omega)
          go_enter Try.func13, Try.ntmps13
          go_wp2
          go_ret
          exact ⟨by rw [unhide HF]; rfl, rfl⟩
      · have HF : Hid (zz3 n0 n1 n3 = false) := decide_eq_false (by omega)
        have i2 : ¬ (n0 : Int) + (n1 : Int) ≤ 1048576 := by omega
        go_enter Try.func13, Try.ntmps13
        go_wp2
        go_ret
        exact ⟨by rw [unhide HF]; rfl, rfl⟩
    · have HF : Hid (zz3 n0 n1 n3 = false) := decide_eq_false (by omega)
      go_enter Try.func13, Try.ntmps13
      go_wp2
      go_ret
      exact ⟨by rw [unhide HF]; rfl, rfl⟩
  · have HF : Hid (zz3 n0 n1 n3 = false) := decide_eq_false (by omega)
    go_enter Try.func13, Try.ntmps13
    go_wp2
    go_ret
    exact ⟨by rw [unhide HF]; rfl, rfl⟩

theorem c8_app (A B : List Nat) : c8 (A ++ B) = c8 A ++ c8 B := by simp [c8]
theorem take_succ' {E : List Nat} {k : Nat} (h : k < E.length) : E.take (k + 1) = E.take k ++ [E.getD k 0] := by
  rw [List.take_add_one]
  simp [List.getD, h]

theorem own_v32 {w : World} {a : Option Addr} {c : Nat} {L : List Nat} (h : w.ownsRow 0 24 1 (.slice a L.length c) L.length (c32 L)) : VRow w a L.length (fun j => .int .u32 (L.getD j 0 : Nat)) := by
  obtain ⟨a', c', he, hv⟩ := own_row32 h
  cases he
  exact hv
theorem own_v8 {w : World} {a : Option Addr} {c : Nat} {L : List Nat} (h : w.ownsRow 0 5 1 (.slice a L.length c) L.length (c8 L)) : VRow w a L.length (fun j => .int .u8 (L.getD j 0 : Nat)) := by
  obtain ⟨a', c', he, hv⟩ := own_row8 h
  cases he
  exact hv

section
variable (a0 a1 a3 : Option Addr) (n0 c0 n1 c1 n3 c3 : Nat) (K0 K1 K3 : Nat → Nat) (q : Nat) (w : World)

set_option maxRecDepth 100000 in
set_option maxHeartbeats 4000000 in
theorem lu_zz (hm0 : n0 ≤ maxLen) (hm1 : n1 ≤ maxLen) (hm3 : n3 ≤ maxLen) (ha0 : a0 = none → n0 = 0) (ha1 : a1 = none → n1 = 0) (ha3 : a3 = none → n3 = 0) (h0 : VRow w a0 n0 (fun j => .int .u8 (K0 j : Nat))) (h1 : VRow w a1 n1 (fun j => .int .u32 (K1 j : Nat))) (h3 : VRow w a3 n3 (fun j => .int .u8 (K3 j : Nat))) (hb3 : ∀ j, j < n3 → K3 j < 256) (g0 : ¬ n0 + n1 + n3 ≤ 1048576) :
    Calls Try.prog 4 #[.slice a0 n0 c0, .slice a1 n1 c1, .int .u32 q, .slice a3 n3 c3] w fun e w' => e = .returned (.bool true) ∧ Below w.heap.size w w' := by
  have HZ : Hid (zz3 n0 n1 n3 = false) := decide_eq_false (by omega)
  have HZ7 := hide (zz13_any a0 a1 a3 n0 c0 n1 c1 n3 c3 q w hm0 hm1 hm3)
  have H0 := hide h0
  have H1 := hide h1
  have H3 := hide h3
  have HA0 := hide ha0
  have HA1 := hide ha1
  have HA3 := hide ha3
  have HB3 := hide hb3
  clear h0 h1 h3 ha0 ha1 ha3 hm0 hm1 hm3 hb3
  go_enter Try.func4, Try.ntmps4
  go_wp2_with fail
  refine (unhide HZ7).mono ?_
  rintro e w' ⟨rfl, rfl⟩
  rw [unhide HZ]
  clear HZ7 HZ
  go_wp2
  go_ret
  exact ⟨rfl, Below.refl _ _⟩

set_option maxRecDepth 100000 in
set_option maxHeartbeats 4000000 in
theorem lu_g1 (hm0 : n0 ≤ maxLen) (hm1 : n1 ≤ maxLen) (hm3 : n3 ≤ maxLen) (ha0 : a0 = none → n0 = 0) (ha1 : a1 = none → n1 = 0) (ha3 : a3 = none → n3 = 0) (h0 : VRow w a0 n0 (fun j => .int .u8 (K0 j : Nat))) (h1 : VRow w a1 n1 (fun j => .int .u32 (K1 j : Nat))) (h3 : VRow w a3 n3 (fun j => .int .u8 (K3 j : Nat))) (hb3 : ∀ j, j < n3 → K3 j < 256) (g0 : n0 + n1 + n3 ≤ 1048576) (g1 : ¬ n0 ≤ 262144) :
    Calls Try.prog 4 #[.slice a0 n0 c0, .slice a1 n1 c1, .int .u32 q, .slice a3 n3 c3] w fun e w' => e = .returned (.bool true) ∧ Below w.heap.size w w' := by
  have HZ : Hid (zz3 n0 n1 n3 = true) := decide_eq_true (by omega)
  have HZ7 := hide (zz13_any a0 a1 a3 n0 c0 n1 c1 n3 c3 q w hm0 hm1 hm3)
  have H0 := hide h0
  have H1 := hide h1
  have H3 := hide h3
  have HA0 := hide ha0
  have HA1 := hide ha1
  have HA3 := hide ha3
  have HB3 := hide hb3
  clear h0 h1 h3 ha0 ha1 ha3 hm0 hm1 hm3 hb3
  go_enter Try.func4, Try.ntmps4
  go_wp2_with fail
  refine (unhide HZ7).mono ?_
  rintro e w' ⟨rfl, rfl⟩
  rw [unhide HZ]
  clear HZ7 HZ
  go_wp2
  go_ret
  exact ⟨rfl, Below.refl _ _⟩

set_option maxRecDepth 100000 in
set_option maxHeartbeats 4000000 in
theorem lu_g2 (hm0 : n0 ≤ maxLen) (hm1 : n1 ≤ maxLen) (hm3 : n3 ≤ maxLen) (ha0 : a0 = none → n0 = 0) (ha1 : a1 = none → n1 = 0) (ha3 : a3 = none → n3 = 0) (h0 : VRow w a0 n0 (fun j => .int .u8 (K0 j : Nat))) (h1 : VRow w a1 n1 (fun j => .int .u32 (K1 j : Nat))) (h3 : VRow w a3 n3 (fun j => .int .u8 (K3 j : Nat))) (hb3 : ∀ j, j < n3 → K3 j < 256) (g0 : n0 + n1 + n3 ≤ 1048576) (g1 : n0 ≤ 262144) (g2 : ¬ n1 ≤ 65536) :
    Calls Try.prog 4 #[.slice a0 n0 c0, .slice a1 n1 c1, .int .u32 q, .slice a3 n3 c3] w fun e w' => e = .returned (.bool true) ∧ Below w.heap.size w w' := by
  have HZ : Hid (zz3 n0 n1 n3 = true) := decide_eq_true (by omega)
  have HZ7 := hide (zz13_any a0 a1 a3 n0 c0 n1 c1 n3 c3 q w hm0 hm1 hm3)
  have H0 := hide h0
  have H1 := hide h1
  have H3 := hide h3
  have HA0 := hide ha0
  have HA1 := hide ha1
  have HA3 := hide ha3
  have HB3 := hide hb3
  clear h0 h1 h3 ha0 ha1 ha3 hm0 hm1 hm3 hb3
  go_enter Try.func4, Try.ntmps4
  go_wp2_with fail
  refine (unhide HZ7).mono ?_
  rintro e w' ⟨rfl, rfl⟩
  rw [unhide HZ]
  clear HZ7 HZ
  go_wp2
  go_ret
  exact ⟨rfl, Below.refl _ _⟩

set_option maxRecDepth 100000 in
set_option maxHeartbeats 4000000 in
theorem lu_g3 (hm0 : n0 ≤ maxLen) (hm1 : n1 ≤ maxLen) (hm3 : n3 ≤ maxLen) (ha0 : a0 = none → n0 = 0) (ha1 : a1 = none → n1 = 0) (ha3 : a3 = none → n3 = 0) (h0 : VRow w a0 n0 (fun j => .int .u8 (K0 j : Nat))) (h1 : VRow w a1 n1 (fun j => .int .u32 (K1 j : Nat))) (h3 : VRow w a3 n3 (fun j => .int .u8 (K3 j : Nat))) (hb3 : ∀ j, j < n3 → K3 j < 256) (g0 : n0 + n1 + n3 ≤ 1048576) (g1 : n0 ≤ 262144) (g2 : n1 ≤ 65536) (g6 : ¬ n3 ≤ 262144) :
    Calls Try.prog 4 #[.slice a0 n0 c0, .slice a1 n1 c1, .int .u32 q, .slice a3 n3 c3] w fun e w' => e = .returned (.bool true) ∧ Below w.heap.size w w' := by
  have HZ : Hid (zz3 n0 n1 n3 = true) := decide_eq_true (by omega)
  have HZ7 := hide (zz13_any a0 a1 a3 n0 c0 n1 c1 n3 c3 q w hm0 hm1 hm3)
  have H0 := hide h0
  have H1 := hide h1
  have H3 := hide h3
  have HA0 := hide ha0
  have HA1 := hide ha1
  have HA3 := hide ha3
  have HB3 := hide hb3
  clear h0 h1 h3 ha0 ha1 ha3 hm0 hm1 hm3 hb3
  go_enter Try.func4, Try.ntmps4
  go_wp2_with fail
  refine (unhide HZ7).mono ?_
  rintro e w' ⟨rfl, rfl⟩
  rw [unhide HZ]
  clear HZ7 HZ
  go_wp2
  go_ret
  exact ⟨rfl, Below.refl _ _⟩

set_option maxRecDepth 100000 in
set_option maxHeartbeats 4000000 in
theorem lu_g4 (hm0 : n0 ≤ maxLen) (hm1 : n1 ≤ maxLen) (hm3 : n3 ≤ maxLen) (ha0 : a0 = none → n0 = 0) (ha1 : a1 = none → n1 = 0) (ha3 : a3 = none → n3 = 0) (h0 : VRow w a0 n0 (fun j => .int .u8 (K0 j : Nat))) (h1 : VRow w a1 n1 (fun j => .int .u32 (K1 j : Nat))) (h3 : VRow w a3 n3 (fun j => .int .u8 (K3 j : Nat))) (hb3 : ∀ j, j < n3 → K3 j < 256) (g0 : n0 + n1 + n3 ≤ 1048576) (g1 : n0 ≤ 262144) (g2 : n1 ≤ 65536) (g6 : n3 ≤ 262144) (g3 : ¬ 1 ≤ n1) :
    Calls Try.prog 4 #[.slice a0 n0 c0, .slice a1 n1 c1, .int .u32 q, .slice a3 n3 c3] w fun e w' => e = .returned (.bool true) ∧ Below w.heap.size w w' := by
  obtain rfl : n1 = 0 := by omega
  have HZ : Hid (zz3 n0 0 n3 = true) := decide_eq_true (by omega)
  have HZ7 := hide (zz13_any a0 a1 a3 n0 c0 0 c1 n3 c3 q w hm0 hm1 hm3)
  have H0 := hide h0
  have H1 := hide h1
  have H3 := hide h3
  have HA0 := hide ha0
  have HA1 := hide ha1
  have HA3 := hide ha3
  have HB3 := hide hb3
  clear h0 h1 h3 ha0 ha1 ha3 hm0 hm1 hm3 hb3
  go_enter Try.func4, Try.ntmps4
  go_wp2_with fail
  refine (unhide HZ7).mono ?_
  rintro e w' ⟨rfl, rfl⟩
  rw [unhide HZ]
  clear HZ7 HZ
  go_wp2
  go_ret
  exact ⟨rfl, Below.refl _ _⟩

set_option maxRecDepth 100000 in
set_option maxHeartbeats 4000000 in
theorem lu_g5 (hm0 : n0 ≤ maxLen) (hm1 : n1 ≤ maxLen) (hm3 : n3 ≤ maxLen) (ha0 : a0 = none → n0 = 0) (ha1 : a1 = none → n1 = 0) (ha3 : a3 = none → n3 = 0) (h0 : VRow w a0 n0 (fun j => .int .u8 (K0 j : Nat))) (h1 : VRow w a1 n1 (fun j => .int .u32 (K1 j : Nat))) (h3 : VRow w a3 n3 (fun j => .int .u8 (K3 j : Nat))) (hb3 : ∀ j, j < n3 → K3 j < 256) (g0 : n0 + n1 + n3 ≤ 1048576) (g1 : n0 ≤ 262144) (g2 : n1 ≤ 65536) (g6 : n3 ≤ 262144) (g3 : 1 ≤ n1) (g4 : ¬ 1 ≤ q) :
    Calls Try.prog 4 #[.slice a0 n0 c0, .slice a1 n1 c1, .int .u32 q, .slice a3 n3 c3] w fun e w' => e = .returned (.bool true) ∧ Below w.heap.size w w' := by
  obtain rfl : q = 0 := by omega
  have HZ : Hid (zz3 n0 n1 n3 = true) := decide_eq_true (by omega)
  have HZ7 := hide (zz13_any a0 a1 a3 n0 c0 n1 c1 n3 c3 (0 : Nat) w hm0 hm1 hm3)
  have H0 := hide h0
  have H1 := hide h1
  have H3 := hide h3
  have HA0 := hide ha0
  have HA1 := hide ha1
  have HA3 := hide ha3
  have HB3 := hide hb3
  clear h0 h1 h3 ha0 ha1 ha3 hm0 hm1 hm3 hb3
  go_enter Try.func4, Try.ntmps4
  go_wp2_with fail
  refine (unhide HZ7).mono ?_
  rintro e w' ⟨rfl, rfl⟩
  rw [unhide HZ]
  clear HZ7 HZ
  go_wp2
  go_ret
  exact ⟨rfl, Below.refl _ _⟩

set_option maxRecDepth 100000 in
set_option maxHeartbeats 4000000 in
theorem lu_g6 (hm0 : n0 ≤ maxLen) (hm1 : n1 ≤ maxLen) (hm3 : n3 ≤ maxLen) (ha0 : a0 = none → n0 = 0) (ha1 : a1 = none → n1 = 0) (ha3 : a3 = none → n3 = 0) (h0 : VRow w a0 n0 (fun j => .int .u8 (K0 j : Nat))) (h1 : VRow w a1 n1 (fun j => .int .u32 (K1 j : Nat))) (h3 : VRow w a3 n3 (fun j => .int .u8 (K3 j : Nat))) (hb3 : ∀ j, j < n3 → K3 j < 256) (g0 : n0 + n1 + n3 ≤ 1048576) (g1 : n0 ≤ 262144) (g2 : n1 ≤ 65536) (g6 : n3 ≤ 262144) (g3 : 1 ≤ n1) (g4 : 1 ≤ q) (g5 : ¬ q ≤ 16384) :
    Calls Try.prog 4 #[.slice a0 n0 c0, .slice a1 n1 c1, .int .u32 q, .slice a3 n3 c3] w fun e w' => e = .returned (.bool true) ∧ Below w.heap.size w w' := by
  have HZ : Hid (zz3 n0 n1 n3 = true) := decide_eq_true (by omega)
  have HZ7 := hide (zz13_any a0 a1 a3 n0 c0 n1 c1 n3 c3 q w hm0 hm1 hm3)
  have H0 := hide h0
  have H1 := hide h1
  have H3 := hide h3
  have HA0 := hide ha0
  have HA1 := hide ha1
  have HA3 := hide ha3
  have HB3 := hide hb3
  clear h0 h1 h3 ha0 ha1 ha3 hm0 hm1 hm3 hb3
  go_enter Try.func4, Try.ntmps4
  go_wp2_with fail
  refine (unhide HZ7).mono ?_
  rintro e w' ⟨rfl, rfl⟩
  rw [unhide HZ]
  clear HZ7 HZ
  go_wp2
  go_ret
  exact ⟨rfl, Below.refl _ _⟩

set_option maxRecDepth 100000 in
set_option maxHeartbeats 4000000 in
theorem lu_all (hm0 : n0 ≤ maxLen) (hm1 : n1 ≤ maxLen) (hm3 : n3 ≤ maxLen) (ha0 : a0 = none → n0 = 0) (ha1 : a1 = none → n1 = 0) (ha3 : a3 = none → n3 = 0) (h0 : VRow w a0 n0 (fun j => .int .u8 (K0 j : Nat))) (h1 : VRow w a1 n1 (fun j => .int .u32 (K1 j : Nat))) (h3 : VRow w a3 n3 (fun j => .int .u8 (K3 j : Nat))) (hb3 : ∀ j, j < n3 → K3 j < 256) (g0 : n0 + n1 + n3 ≤ 1048576) (g1 : n0 ≤ 262144) (g2 : n1 ≤ 65536) (g6 : n3 ≤ 262144) (g3 : 1 ≤ n1) (g4 : 1 ≤ q) (g5 : q ≤ 16384) (HB : Hid (allB n1 K1 q = false)) :
    Calls Try.prog 4 #[.slice a0 n0 c0, .slice a1 n1 c1, .int .u32 q, .slice a3 n3 c3] w fun e w' => e = .returned (.bool true) ∧ Below w.heap.size w w' := by
  have HZ : Hid (zz3 n0 n1 n3 = true) := decide_eq_true (by omega)
  have HZ7 := hide (zz13_any a0 a1 a3 n0 c0 n1 c1 n3 c3 q w hm0 hm1 hm3)
  have H0 := hide h0
  have H1 := hide h1
  have H3 := hide h3
  have HA0 := hide ha0
  have HA1 := hide ha1
  have HA3 := hide ha3
  have HB3 := hide hb3
  clear h0 h1 h3 ha0 ha1 ha3 hm0 hm1 hm3 hb3
  go_enter Try.func4, Try.ntmps4
  go_wp2_with fail
  refine (unhide HZ7).mono ?_
  rintro e w' ⟨rfl, rfl⟩
  rw [unhide HZ]
  clear HZ7 HZ
  go_wp2_with fail
  refine (allBelow_any a1 n1 c1 K1 q w (by omega) (unhide H1)).mono ?_
  rintro e w' ⟨rfl, rfl⟩
  rw [unhide HB]
  go_wp2
  go_ret
  exact ⟨rfl, Below.refl _ _⟩

set_option maxRecDepth 100000 in
set_option maxHeartbeats 4000000 in
theorem lu_main (hm0 : n0 ≤ maxLen) (hm1 : n1 ≤ maxLen) (hm3 : n3 ≤ maxLen) (ha0 : a0 = none → n0 = 0) (ha1 : a1 = none → n1 = 0) (ha3 : a3 = none → n3 = 0) (h0 : VRow w a0 n0 (fun j => .int .u8 (K0 j : Nat))) (h1 : VRow w a1 n1 (fun j => .int .u32 (K1 j : Nat))) (h3 : VRow w a3 n3 (fun j => .int .u8 (K3 j : Nat))) (hb3 : ∀ j, j < n3 → K3 j < 256) (g0 : n0 + n1 + n3 ≤ 1048576) (g1 : n0 ≤ 262144) (g2 : n1 ≤ 65536) (g6 : n3 ≤ 262144) (g3 : 1 ≤ n1) (g4 : 1 ≤ q) (g5 : q ≤ 16384) (HB : Hid (allB n1 K1 q = true)) :
    Calls Try.prog 4 #[.slice a0 n0 c0, .slice a1 n1 c1, .int .u32 q, .slice a3 n3 c3] w fun e w' => e = .returned (.bool true) ∧ Below w.heap.size w w' := by
  obtain ⟨i5, hi5, hz50, hz51, hz52⟩ := info_parts info5
  have HZ : Hid (zz3 n0 n1 n3 = true) := decide_eq_true (by omega)
  have HZ7 := hide (zz13_any a0 a1 a3 n0 c0 n1 c1 n3 c3 q w hm0 hm1 hm3)
  have H0 := hide h0
  have H1 := hide h1
  have H3 := hide h3
  have HA0 := hide ha0
  have HA1 := hide ha1
  have HA3 := hide ha3
  have HB3 := hide hb3
  clear h0 h1 h3 ha0 ha1 ha3 hm0 hm1 hm3 hb3
  go_enter Try.func4, Try.ntmps4
  go_wp2_with fail
  refine (unhide HZ7).mono ?_
  rintro e w' ⟨rfl, rfl⟩
  rw [unhide HZ]
  clear HZ7 HZ
  go_wp2_with fail
  refine (allBelow_any a1 n1 c1 K1 q w (by omega) (unhide H1)).mono ?_
  rintro e w' ⟨rfl, rfl⟩
  rw [unhide HB]
  have HV := hide (allB_of (unhide HB))
  have HQ : Hid (OkM q) := ⟨g4, g5⟩
  go_wp2_with fail
  refine (cloneB a0 n0 c0 K0 w (by omega) (unhide HA0) (unhide H0)).mono ?_
  intro e w1 hp
  obtain ⟨vo, rfl, L⟩ := (LI.start w).add hp
  have L1 := hide L
  clear hp L
  go_wp2_with fail
  refine (cloneW a1 n1 c1 K1 w1 (by omega) (unhide HA1) ((unhide H1).below (unhide L1).bel)).mono ?_
  intro e w2 hp
  obtain ⟨vv, rfl, L⟩ := (unhide L1).add hp
  have L2 := hide L
  clear hp L L1
  go_wp2_with fail
  refine (cloneB a3 n3 c3 K3 w2 (by omega) (unhide HA3) ((unhide H3).below (unhide L2).bel)).mono ?_
  intro e w3 hp
  obtain ⟨vt, rfl, L⟩ := (unhide L2).add hp
  have hOl := toL_length n0 K0
  have hVl := toL_length n1 K1
  have hTl := toL_length n3 K3
  have hTb : ∀ x, x ∈ toL n3 K3 → x < 256 := fun x hx => by
    obtain ⟨j, hj, rfl⟩ := toL_mem hx
    exact unhide HB3 j hj
  generalize toL n0 K0 = O at L L2 hOl
  generalize toL n1 K1 = V at L L2 HV hVl
  generalize toL n3 K3 = T at L hTl hTb hp
  have hov := L.ownAt ⟨24, vv, c32 V⟩ (by simp)
  rw [show (⟨24, vv, c32 V⟩ : Rw).xs.length = V.length from c32_length V] at hov
  obtain ⟨gv, cv, hvv, -, -⟩ := hov.form (by omega)
  simp only at hvv
  subst hvv
  have hoo := L.ownAt ⟨5, vo, c8 O⟩ (by simp)
  simp only [c8_length] at hoo
  obtain ⟨ao, co, rfl, -⟩ := row_form hoo
  have hot := L.ownAt ⟨5, vt, c8 T⟩ (by simp)
  simp only [c8_length] at hot
  obtain ⟨at3, ct, rfl, hat3⟩ := row_form hot
  have L3 : Hid (LI w w3 [⟨5, .slice ao O.length co, c8 O⟩, ⟨24, .slice (some ⟨gv, 0, none⟩) V.length cv, c32 V⟩, ⟨5, .slice at3 T.length ct, c8 T⟩]) := by
    have a := L.swap
    have b : LI w w3 [⟨24, .slice (some ⟨gv, 0, none⟩) V.length cv, c32 V⟩, ⟨5, .slice ao O.length co, c8 O⟩, ⟨5, .slice at3 T.length ct, c8 T⟩] := by
      refine ⟨⟨fun r hr => L.fam.own r (by simp at hr ⊢; rcases hr with h | h | h; exact .inr (.inl h); exact .inr (.inr h); exact .inl h), ?_⟩, L.bel, fun r hr => L.new r (by simp at hr ⊢; rcases hr with h | h | h; exact .inr (.inl h); exact .inr (.inr h); exact .inl h)⟩
      obtain ⟨p1, p2⟩ := List.pairwise_cons.1 L.fam.apart
      obtain ⟨p3, p4⟩ := List.pairwise_cons.1 p2
      have q1 := p1 _ (List.mem_cons_self ..)
      have q2 := p1 _ (List.mem_cons_of_mem _ (List.mem_cons_self ..))
      have q3 := p3 _ (List.mem_cons_self ..)
      refine List.pairwise_cons.2 ⟨fun x hx => ?_, List.pairwise_cons.2 ⟨fun x hx => ?_, List.pairwise_singleton _ _⟩⟩
      · simp only [List.mem_cons, List.mem_nil_iff, or_false] at hx
        rcases hx with rfl | rfl
        · exact q3
        · rcases q1 with h | h | h
          · exact .inr (.inl h)
          · exact .inl h
          · exact .inr (.inr (Ne.symm h))
      · simp only [List.mem_cons, List.mem_nil_iff, or_false] at hx
        subst hx
        rcases q2 with h | h | h
        · exact .inr (.inl h)
        · exact .inl h
        · exact .inr (.inr (Ne.symm h))
    exact b.swap
  have HTb := hide hTb
  have HAT := hide hat3
  clear hp L L2 hov HB H0 H1 H3 HA0 HA1 HA3 HB3 hoo hot hTb hat3
  have hO1 : O.length ≤ 262144 := by omega
  have hV1 : 1 ≤ V.length := by omega
  have hV2 : V.length ≤ 65536 := by omega
  have hT1 : T.length ≤ 262144 := by omega
  clear g0 g1 g2 g3 g4 g5 g6 hOl hVl hTl
  have hEl : (enc 16 V (List.replicate V.length q)).length = nb 16 (List.replicate V.length q) := by rw [enc_length _ _ _ (by simp)]
  have hE2 : (enc 16 V (List.replicate V.length q)).length ≤ 131088 := by
    have h9 := nb_le 16 (List.replicate V.length q) (by simpa using hV1)
    simp only [List.length_replicate] at h9
    omega
  have hb2 := replicate_below (unhide HV)
  have hok : ∀ x, x ∈ List.replicate V.length q → OkM x := fun x hx => by rw [List.mem_replicate] at hx; rw [hx.2]; exact unhide HQ
  have hd1 := dec_enc 16 V (List.replicate V.length q) T (by simpa using hV1) (by simpa using hV2) hok hb2
  have hd2 := dec_rest 16 (List.replicate V.length q) (enc 16 V (List.replicate V.length q) ++ T)
  rw [← hEl, List.drop_left] at hd2
  have hEb := enc_lt 16 V (List.replicate V.length q)
  have hrl : (List.replicate V.length q).length = V.length := by simp
  generalize hE : enc 16 V (List.replicate V.length q) = E at hEl hE2 hd1 hd2 hEb
  generalize hMM : List.replicate V.length q = MM at hEl hok hd1 hd2 hrl
  have HE := hide hE
  have HMM := hide hMM
  have HD : Hid ((dec 16 MM (E ++ T)).1 = V ∧ (dec 16 MM (E ++ T)).2 = T ∧ nb 16 MM ≤ (E ++ T).length ∧ (∀ x, x ∈ E ++ T → x < 256) ∧ ∀ x, x ∈ MM → OkM x) :=
    ⟨hd1, hd2, by rw [List.length_append]; omega, fun x hx => by rcases List.mem_append.1 hx with h | h; exact hEb x h; exact unhide HTb x h, hok⟩
  have HRL := hide hrl
  clear hE hEl hb2 hok hd1 hd2 hEb hrl hMM
  go_wp2_with fail
  refine (zzEncode_any (.slice ao O.length co) O gv cv V q w3 hV1 hV2 (by omega) (unhide HQ) (unhide HV) ((unhide L3).fam.sub (by simp))).mono ?_
  intro e w4 hp
  rw [unhide HE] at hp
  obtain ⟨vr, rfl, L⟩ := (unhide L3).enc hp
  have hor := L.ownAt ⟨5, vr, c8 (O ++ E)⟩ (by simp)
  simp only [c8_length, List.length_append] at hor
  obtain ⟨ar, cr, rfl, har⟩ := row_form hor
  have HAR := hide har
  have L4 := hide L
  clear hp L L3 hor har HV
  go_wp2_with (at_make; refine wpList_make_own _ rfl _ _ 22 rfl 0 5 i5 (.int .u8 0) 1 Try.underlying22 hi5 hz50 hz51 .i64 .i64 _ (E.length + T.length) rfl rfl (by simp; try omega) (by rw [hz52]; omega) (by simp [maxLen]; omega) (Nat.zero_le _) ?_)
  intro w5 hown hgrow
  have L5 := hide ((unhide L4).addv (t := 5) (xs := []) hown (fun j hj => by simp [Value.ownBlock] at hj; omega) ((Below.refl _ _).grown hgrow (Nat.le_refl _) (fun j hj => by cases hj)))
  clear hown hgrow L4
  go_wp2
  go_loopw [11, 12] (fun vb i wr => ∃ (j k : Nat) (D : List Nat), i = .int .i64 j ∧ j ≤ O.length + E.length ∧ D.length ≤ 131088 ∧ Hid (j = O.length + k ∧ D = E.take k) ∧ Hid (LI w wr (⟨5, vb, c8 D⟩ :: [⟨5, .slice ar (O.length + E.length) cr, c8 (O ++ E)⟩, ⟨24, .slice (some ⟨gv, 0, none⟩) V.length cv, c32 V⟩, ⟨5, .slice at3 T.length ct, c8 T⟩]))) (fun _ i _ => O.length + E.length - (intOf i).toNat)
  case atStart => exact ⟨O.length, 0, [], rfl, by omega, by simp, ⟨rfl, rfl⟩, L5⟩
  case round =>
    clear L5
    obtain ⟨j, k, D, rfl, hj, hD, HJ, L⟩ := hrel
    by_cases hlt : j < O.length + E.length
    · obtain ⟨hjk, hdk⟩ := unhide HJ
      obtain ⟨gr, rfl⟩ := unhide HAR (by omega)
      have hor := (unhide L).ownAt ⟨5, .slice (some ⟨gr, 0, none⟩) (O.length + E.length) cr, c8 (O ++ E)⟩ (by simp)
      simp only [c8_length, List.length_append] at hor
      have hc := hor.cellAt j (by omega)
      rw [hjk, c8_app_right (by omega), ← hjk] at hc
      have hnx : j + 1 = O.length + (k + 1) ∧ D ++ [E.getD k 0] = E.take (k + 1) := ⟨by omega, by rw [take_succ' (by omega), hdk]⟩
      have ob := (unhide L).ownAt ⟨5, u11, c8 D⟩ (by simp)
      simp only [c8_length] at ob
      have hDl : D.length + 1 ≤ 131088 := by rw [hdk, List.length_take]; omega
      generalize E.getD k 0 = x at hc hnx
      have HNX := hide hnx
      have hl1 : (j : Int) < (O.length : Int) + (E.length : Int) := by omega
      clear hor hjk hdk hnx HJ
      go_wp2_with (at_builtin; refine wpList_append_lies _ (by rfl) _ _ 22 (by rfl) 0 5 i5 (.int .u8 0) 1 1 Try.underlying22 hi5 hz50 hz51 hz52 rfl (by omega) _ D.length (c8 D) (by rfl) (ob.alloc _) ⟨wr.heap.size, 0, none⟩ 1 1 [.int .u8 (x : Int)] (by rfl) rfl (cell_one_new _ _ _) (by simp [Value.oneCell']) (by omega) (by simp [maxLen]; omega) (by omega) (Nat.zero_le _) (wr.heap.size + 1) (by simp) ?_)
      intro g cap w8 own1 gr1 hat1 hlt1
      have e9 : D.length + 1 = (c8 D ++ [Value.int .u8 (x : Int)]).length := by simp [c8]
      rw [e9] at own1
      have HL := LI.push (news := [.int .u8 (x : Int)]) ((unhide L).alloc _) own1 gr1 (by rcases hat1 with h | h; exact .inl h; exact .inr (by simp; omega))
      rw [← e9, ← c8_snoc] at HL
      have HL := hide HL
      clear own1 gr1 hat1 ob L e9 hc
      go_wp2
      go_roundw
      case rel => exact ⟨j + 1, k + 1, D ++ [x], by go_num, by omega, by simp; omega, HNX, HL⟩
      case measure => simp [intOf]; omega
    · obtain ⟨hjk, hdk⟩ := unhide HJ
      have hde : D = E := by rw [hdk, List.take_of_length_le (by omega)]
      subst hde
      have hj9 : ¬ (j : Int) < (O.length : Int) + (D.length : Int) := by omega
      clear hdk hjk HJ hD
      go_wp2
      go_loopw [11, 13] (fun vb i wr => ∃ (k : Nat) (F : List Nat), i = .int .i64 k ∧ k ≤ T.length ∧ F.length ≤ 400000 ∧ Hid (F = D ++ T.take k) ∧ Hid (LI w wr (⟨5, vb, c8 F⟩ :: [⟨5, .slice ar (O.length + D.length) cr, c8 (O ++ D)⟩, ⟨24, .slice (some ⟨gv, 0, none⟩) V.length cv, c32 V⟩, ⟨5, .slice at3 T.length ct, c8 T⟩]))) (fun _ i _ => T.length - (intOf i).toNat)
      case atStart => exact ⟨0, D, rfl, Nat.zero_le _, by omega, by simp [Hid], L⟩
      case round =>
        clear L
        obtain ⟨k, F, rfl, hk, hF, HJ, L⟩ := hrel
        by_cases hlt : k < T.length
        · obtain ⟨gt, rfl⟩ := unhide HAT (by omega)
          have hot := (unhide L).ownAt ⟨5, .slice (some ⟨gt, 0, none⟩) T.length ct, c8 T⟩ (by simp)
          simp only [c8_length] at hot
          have hc := hot.cellAt k (by omega)
          rw [c8_get T hlt] at hc
          have hdk := unhide HJ
          have hnx : F ++ [T.getD k 0] = D ++ T.take (k + 1) := by rw [take_succ' hlt, hdk, List.append_assoc]
          have ob := (unhide L).ownAt ⟨5, u11, c8 F⟩ (by simp)
          simp only [c8_length] at ob
          have hFl : F.length + 1 ≤ 400000 := by rw [hdk, List.length_append, List.length_take]; omega
          generalize T.getD k 0 = x at hc hnx
          have HNX := hide hnx
          have hl1 : (k : Int) < (T.length : Int) := by omega
          clear hot hdk hnx HJ
          go_wp2_with (at_builtin; refine wpList_append_lies _ (by rfl) _ _ 22 (by rfl) 0 5 i5 (.int .u8 0) 1 1 Try.underlying22 hi5 hz50 hz51 hz52 rfl (by omega) _ F.length (c8 F) (by rfl) (ob.alloc _) ⟨wr.heap.size, 0, none⟩ 1 1 [.int .u8 (x : Int)] (by rfl) rfl (cell_one_new _ _ _) (by simp [Value.oneCell']) (by omega) (by simp [maxLen]; omega) (by omega) (Nat.zero_le _) (wr.heap.size + 1) (by simp) ?_)
          intro g cap w8 own1 gr1 hat1 hlt1
          have e9 : F.length + 1 = (c8 F ++ [Value.int .u8 (x : Int)]).length := by simp [c8]
          rw [e9] at own1
          have HL := LI.push (news := [.int .u8 (x : Int)]) ((unhide L).alloc _) own1 gr1 (by rcases hat1 with h | h; exact .inl h; exact .inr (by simp; omega))
          rw [← e9, ← c8_snoc] at HL
          have HL := hide HL
          clear own1 gr1 hat1 ob L e9 hc
          go_wp2
          go_roundw
          case rel => exact ⟨k + 1, F ++ [x], by go_num, by omega, by simp; omega, HNX, HL⟩
          case measure => simp [intOf]; omega
        · have hfe : F = D ++ T := by rw [unhide HJ, List.take_of_length_le (by omega)]
          subst hfe
          have hk9 : ¬ (k : Int) < (T.length : Int) := by omega
          clear HJ hF
          go_wp2_with fail
          refine (uniform_any V.length q wr (by omega)).mono ?_
          intro e w6 hp
          rw [unhide HMM] at hp
          obtain ⟨vm, rfl, LM⟩ := (unhide L).add hp
          have hom := LM.ownAt ⟨24, vm, c32 MM⟩ (by simp)
          simp only [c32_length] at hom
          obtain ⟨gm, cm, hvm, -, -⟩ := hom.form (by have := unhide HRL; omega)
          subst hvm
          have hbuf := LM.ownAt ⟨5, u11, c8 (D ++ T)⟩ (by simp)
          simp only [c8_length] at hbuf
          obtain ⟨d1, d2, d3, d4, d5⟩ := unhide HD
          have hbs := own_BS hbuf d4
          have hcall := zzDecode_any u11 (D ++ T) gm cm MM w6 (by have := unhide HRL; omega) (by have := unhide HRL; omega) d5 hom hbs d3
          rw [d1, d2] at hcall
          have HCALL := hide hcall
          have L6 := hide LM
          clear hp LM hom hbuf hbs d1 d2 d3 d4 d5 hcall HD L
          go_wp2_with fail
          refine (unhide HCALL).mono ?_
          intro e w7 hp
          obtain ⟨vg, vrest, rfl, LG, hrest⟩ := (unhide L6).dec hp
          have hog := LG.ownAt ⟨24, vg, c32 V⟩ (by simp)
          have hov := LG.ownAt ⟨24, .slice (some ⟨gv, 0, none⟩) V.length cv, c32 V⟩ (by simp)
          have hot := LG.ownAt ⟨5, .slice at3 T.length ct, c8 T⟩ (by simp)
          simp only [c32_length, c8_length] at hog hov hot
          obtain ⟨ag, cg, rfl, hvg⟩ := own_row32 hog
          have hvv := own_v32 hov
          have hvt := own_v8 hot
          obtain ⟨arest, crest, rfl, hvr⟩ := hrest.row
          have HVG := hide hvg
          have HVV := hide hvv
          have HVT := hide hvt
          have HVR := hide hvr
          have HBEL := hide LG.bel
          clear hp LG hrest hog hov hot hvg hvv hvt hvr L6 HCALL
          go_wp2_with fail
          refine (sameWords_eq ag (some ⟨gv, 0, none⟩) V.length cg cv (fun j => V.getD j 0) w7 (by omega) (unhide HVG) (unhide HVV)).mono ?_
          rintro e w8 ⟨rfl, m8, rfl⟩
          go_wp2_with fail
          refine (sameBytes_eq arest at3 T.length crest ct (fun j => T.getD j 0) (w7.drewN m8) (by omega) (unhide HVR) (unhide HVT)).mono ?_
          rintro e w9 ⟨rfl, m9, rfl⟩
          go_wp2
          go_ret
          exact ⟨rfl, ⟨(unhide HBEL).os, (unhide HBEL).tape, (unhide HBEL).output, (unhide HBEL).size, (unhide HBEL).block⟩⟩

end

/-- The law holds. -/
theorem lawUndoes (a0 a1 a3 : Option Addr) (n0 c0 n1 c1 n3 c3 : Nat) (K0 K1 K3 : Nat → Nat) (q : Nat) (w : World) (hm0 : n0 ≤ maxLen) (hm1 : n1 ≤ maxLen) (hm3 : n3 ≤ maxLen) (ha0 : a0 = none → n0 = 0) (ha1 : a1 = none → n1 = 0) (ha3 : a3 = none → n3 = 0) (h0 : VRow w a0 n0 (fun j => .int .u8 (K0 j : Nat))) (h1 : VRow w a1 n1 (fun j => .int .u32 (K1 j : Nat))) (h3 : VRow w a3 n3 (fun j => .int .u8 (K3 j : Nat))) (hb3 : ∀ j, j < n3 → K3 j < 256) :
    Calls Try.prog 4 #[.slice a0 n0 c0, .slice a1 n1 c1, .int .u32 q, .slice a3 n3 c3] w fun e w' => e = .returned (.bool true) ∧ Below w.heap.size w w' := by
  by_cases g0 : n0 + n1 + n3 ≤ 1048576
  · by_cases g1 : n0 ≤ 262144
    · by_cases g2 : n1 ≤ 65536
      · by_cases g6 : n3 ≤ 262144
        · by_cases g3 : 1 ≤ n1
          · by_cases g4 : 1 ≤ q
            · by_cases g5 : q ≤ 16384
              · cases hb : allB n1 K1 q with
                | false => exact lu_all a0 a1 a3 n0 c0 n1 c1 n3 c3 K0 K1 K3 q w hm0 hm1 hm3 ha0 ha1 ha3 h0 h1 h3 hb3 g0 g1 g2 g6 g3 g4 g5 hb
                | true => exact lu_main a0 a1 a3 n0 c0 n1 c1 n3 c3 K0 K1 K3 q w hm0 hm1 hm3 ha0 ha1 ha3 h0 h1 h3 hb3 g0 g1 g2 g6 g3 g4 g5 hb
              · exact lu_g6 a0 a1 a3 n0 c0 n1 c1 n3 c3 K0 K1 K3 q w hm0 hm1 hm3 ha0 ha1 ha3 h0 h1 h3 hb3 g0 g1 g2 g6 g3 g4 g5
            · exact lu_g5 a0 a1 a3 n0 c0 n1 c1 n3 c3 K0 K1 K3 q w hm0 hm1 hm3 ha0 ha1 ha3 h0 h1 h3 hb3 g0 g1 g2 g6 g3 g4
          · exact lu_g4 a0 a1 a3 n0 c0 n1 c1 n3 c3 K0 K1 K3 q w hm0 hm1 hm3 ha0 ha1 ha3 h0 h1 h3 hb3 g0 g1 g2 g6 g3
        · exact lu_g3 a0 a1 a3 n0 c0 n1 c1 n3 c3 K0 K1 K3 q w hm0 hm1 hm3 ha0 ha1 ha3 h0 h1 h3 hb3 g0 g1 g2 g6
      · exact lu_g2 a0 a1 a3 n0 c0 n1 c1 n3 c3 K0 K1 K3 q w hm0 hm1 hm3 ha0 ha1 ha3 h0 h1 h3 hb3 g0 g1 g2
    · exact lu_g1 a0 a1 a3 n0 c0 n1 c1 n3 c3 K0 K1 K3 q w hm0 hm1 hm3 ha0 ha1 ha3 h0 h1 h3 hb3 g0 g1
  · exact lu_zz a0 a1 a3 n0 c0 n1 c1 n3 c3 K0 K1 K3 q w hm0 hm1 hm3 ha0 ha1 ha3 h0 h1 h3 hb3 g0

end Go.Proofs.Qxb6603826a
