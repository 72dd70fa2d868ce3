/- The law of encode. -/
import Derived.Test.Qxb6603826aSmall
namespace Go.Proofs.Qxb6603826a
open Go.RowKit
set_option linter.unusedVariables false

theorem LI.swap {w wr : World} {r s : Rw} {rows : List Rw} (h : LI w wr (r :: s :: rows)) : LI w wr (s :: r :: rows) := by
  obtain ⟨⟨h1, h2⟩, h3, h4⟩ := h
  have hm : ∀ x, x ∈ s :: r :: rows → x ∈ r :: s :: rows := fun x hx => by
    simp only [List.mem_cons] at hx ⊢
    rcases hx with h | h | h
    · exact .inr (.inl h)
    · exact .inl h
    · exact .inr (.inr h)
  refine ⟨⟨fun x hx => h1 x (hm x hx), ?_⟩, h3, fun x hx => h4 x (hm x hx)⟩
  obtain ⟨p1, p2⟩ := List.pairwise_cons.1 h2
  obtain ⟨p3, p4⟩ := List.pairwise_cons.1 p2
  refine List.pairwise_cons.2 ⟨fun x hx => ?_, List.pairwise_cons.2 ⟨fun x hx => p1 x (List.mem_cons_of_mem _ hx), p4⟩⟩
  rcases List.mem_cons.1 hx with rfl | hx
  · rcases p1 s (by simp) with h | h | h
    · exact .inr (.inl h)
    · exact .inl h
    · exact .inr (.inr (Ne.symm h))
  · exact p3 x hx

theorem c8_app_left {O E : List Nat} {k : Nat} (h : k < O.length) : (c8 (O ++ E))[k]? = some (.int .u8 (O.getD k 0 : Nat)) := by
  simp [c8, List.getD, h, List.getElem?_append_left]
theorem c8_app_right {O E : List Nat} {k : Nat} (h : k < E.length) : (c8 (O ++ E))[O.length + k]? = some (.int .u8 (E.getD k 0 : Nat)) := by
  rw [c8_get _ (by simp; omega)]
  simp [List.getD, List.getElem?_append_right]

theorem LI.ownAt {w wr : World} {rows : List Rw} (h : LI w wr rows) (r : Rw) (hr : r ∈ rows) : wr.ownsRow 0 r.t 1 r.v r.xs.length r.xs := h.fam.own r hr

section
variable (a0 a1 : Option Addr) (n0 c0 n1 c1 : Nat) (K0 K1 : Nat → Nat) (q : Nat) (w : World)

set_option maxRecDepth 100000 in
set_option maxHeartbeats 4000000 in
theorem le_zz (hm0 : n0 ≤ maxLen) (hm1 : n1 ≤ maxLen) (ha0 : a0 = none → n0 = 0) (ha1 : a1 = none → n1 = 0) (h0 : VRow w a0 n0 (fun j => .int .u8 (K0 j : Nat))) (h1 : VRow w a1 n1 (fun j => .int .u32 (K1 j : Nat))) (g0 : ¬ n0 + n1 ≤ 1048576) :
    Calls Try.prog 3 #[.slice a0 n0 c0, .slice a1 n1 c1, .int .u32 q] w fun e w' => e = .returned (.bool true) ∧ Below w.heap.size w w' := by
  have HZ : Hid (zz2 n0 n1 = false) := decide_eq_false (by omega)
  have HZ7 := hide (zz7_any a0 a1 n0 c0 n1 c1 q w hm0 hm1)
  have H0 := hide h0
  have H1 := hide h1
  have HA0 := hide ha0
  have HA1 := hide ha1
  clear h0 h1 ha0 ha1 hm0 hm1
  go_enter Try.func3, Try.ntmps3
  go_wp2_with fail
  refine (unhide HZ7).mono ?_
  rintro e w' ⟨rfl, rfl⟩
  rw [unhide HZ]
  clear HZ7 HZ
  go_wp2
  go_ret
  exact ⟨rfl, Below.refl _ _⟩

set_option maxRecDepth 100000 in
set_option maxHeartbeats 4000000 in
theorem le_g1 (hm0 : n0 ≤ maxLen) (hm1 : n1 ≤ maxLen) (ha0 : a0 = none → n0 = 0) (ha1 : a1 = none → n1 = 0) (h0 : VRow w a0 n0 (fun j => .int .u8 (K0 j : Nat))) (h1 : VRow w a1 n1 (fun j => .int .u32 (K1 j : Nat))) (g0 : n0 + n1 ≤ 1048576) (g1 : ¬ n0 ≤ 524288) :
    Calls Try.prog 3 #[.slice a0 n0 c0, .slice a1 n1 c1, .int .u32 q] w fun e w' => e = .returned (.bool true) ∧ Below w.heap.size w w' := by
  have HZ : Hid (zz2 n0 n1 = true) := decide_eq_true (by omega)
  have HZ7 := hide (zz7_any a0 a1 n0 c0 n1 c1 q w hm0 hm1)
  have H0 := hide h0
  have H1 := hide h1
  have HA0 := hide ha0
  have HA1 := hide ha1
  clear h0 h1 ha0 ha1 hm0 hm1
  go_enter Try.func3, Try.ntmps3
  go_wp2_with fail
  refine (unhide HZ7).mono ?_
  rintro e w' ⟨rfl, rfl⟩
  rw [unhide HZ]
  clear HZ7 HZ
  go_wp2
  go_ret
  exact ⟨rfl, Below.refl _ _⟩

set_option maxRecDepth 100000 in
set_option maxHeartbeats 4000000 in
theorem le_g2 (hm0 : n0 ≤ maxLen) (hm1 : n1 ≤ maxLen) (ha0 : a0 = none → n0 = 0) (ha1 : a1 = none → n1 = 0) (h0 : VRow w a0 n0 (fun j => .int .u8 (K0 j : Nat))) (h1 : VRow w a1 n1 (fun j => .int .u32 (K1 j : Nat))) (g0 : n0 + n1 ≤ 1048576) (g1 : n0 ≤ 524288) (g2 : ¬ n1 ≤ 65536) :
    Calls Try.prog 3 #[.slice a0 n0 c0, .slice a1 n1 c1, .int .u32 q] w fun e w' => e = .returned (.bool true) ∧ Below w.heap.size w w' := by
  have HZ : Hid (zz2 n0 n1 = true) := decide_eq_true (by omega)
  have HZ7 := hide (zz7_any a0 a1 n0 c0 n1 c1 q w hm0 hm1)
  have H0 := hide h0
  have H1 := hide h1
  have HA0 := hide ha0
  have HA1 := hide ha1
  clear h0 h1 ha0 ha1 hm0 hm1
  go_enter Try.func3, Try.ntmps3
  go_wp2_with fail
  refine (unhide HZ7).mono ?_
  rintro e w' ⟨rfl, rfl⟩
  rw [unhide HZ]
  clear HZ7 HZ
  go_wp2
  go_ret
  exact ⟨rfl, Below.refl _ _⟩

set_option maxRecDepth 100000 in
set_option maxHeartbeats 4000000 in
theorem le_g3 (hm0 : n0 ≤ maxLen) (hm1 : n1 ≤ maxLen) (ha0 : a0 = none → n0 = 0) (ha1 : a1 = none → n1 = 0) (h0 : VRow w a0 n0 (fun j => .int .u8 (K0 j : Nat))) (h1 : VRow w a1 n1 (fun j => .int .u32 (K1 j : Nat))) (g0 : n0 + n1 ≤ 1048576) (g1 : n0 ≤ 524288) (g2 : n1 ≤ 65536) (g3 : ¬ 1 ≤ n1) :
    Calls Try.prog 3 #[.slice a0 n0 c0, .slice a1 n1 c1, .int .u32 q] w fun e w' => e = .returned (.bool true) ∧ Below w.heap.size w w' := by
  obtain rfl : n1 = 0 := by omega
  have HZ : Hid (zz2 n0 0 = true) := decide_eq_true (by omega)
  have HZ7 := hide (zz7_any a0 a1 n0 c0 0 c1 q w hm0 hm1)
  have H0 := hide h0
  have H1 := hide h1
  have HA0 := hide ha0
  have HA1 := hide ha1
  clear h0 h1 ha0 ha1 hm0 hm1
  go_enter Try.func3, Try.ntmps3
  go_wp2_with fail
  refine (unhide HZ7).mono ?_
  rintro e w' ⟨rfl, rfl⟩
  rw [unhide HZ]
  clear HZ7 HZ
  go_wp2
  go_ret
  exact ⟨rfl, Below.refl _ _⟩

set_option maxRecDepth 100000 in
set_option maxHeartbeats 4000000 in
theorem le_g4 (hm0 : n0 ≤ maxLen) (hm1 : n1 ≤ maxLen) (ha0 : a0 = none → n0 = 0) (ha1 : a1 = none → n1 = 0) (h0 : VRow w a0 n0 (fun j => .int .u8 (K0 j : Nat))) (h1 : VRow w a1 n1 (fun j => .int .u32 (K1 j : Nat))) (g0 : n0 + n1 ≤ 1048576) (g1 : n0 ≤ 524288) (g2 : n1 ≤ 65536) (g3 : 1 ≤ n1) (g4 : ¬ 1 ≤ q) :
    Calls Try.prog 3 #[.slice a0 n0 c0, .slice a1 n1 c1, .int .u32 q] w fun e w' => e = .returned (.bool true) ∧ Below w.heap.size w w' := by
  obtain rfl : q = 0 := by omega
  have HZ : Hid (zz2 n0 n1 = true) := decide_eq_true (by omega)
  have HZ7 := hide (zz7_any a0 a1 n0 c0 n1 c1 (0 : Nat) w hm0 hm1)
  have H0 := hide h0
  have H1 := hide h1
  have HA0 := hide ha0
  have HA1 := hide ha1
  clear h0 h1 ha0 ha1 hm0 hm1
  go_enter Try.func3, Try.ntmps3
  go_wp2_with fail
  refine (unhide HZ7).mono ?_
  rintro e w' ⟨rfl, rfl⟩
  rw [unhide HZ]
  clear HZ7 HZ
  go_wp2
  go_ret
  exact ⟨rfl, Below.refl _ _⟩

set_option maxRecDepth 100000 in
set_option maxHeartbeats 4000000 in
theorem le_g5 (hm0 : n0 ≤ maxLen) (hm1 : n1 ≤ maxLen) (ha0 : a0 = none → n0 = 0) (ha1 : a1 = none → n1 = 0) (h0 : VRow w a0 n0 (fun j => .int .u8 (K0 j : Nat))) (h1 : VRow w a1 n1 (fun j => .int .u32 (K1 j : Nat))) (g0 : n0 + n1 ≤ 1048576) (g1 : n0 ≤ 524288) (g2 : n1 ≤ 65536) (g3 : 1 ≤ n1) (g4 : 1 ≤ q) (g5 : ¬ q ≤ 16384) :
    Calls Try.prog 3 #[.slice a0 n0 c0, .slice a1 n1 c1, .int .u32 q] w fun e w' => e = .returned (.bool true) ∧ Below w.heap.size w w' := by
  have HZ : Hid (zz2 n0 n1 = true) := decide_eq_true (by omega)
  have HZ7 := hide (zz7_any a0 a1 n0 c0 n1 c1 q w hm0 hm1)
  have H0 := hide h0
  have H1 := hide h1
  have HA0 := hide ha0
  have HA1 := hide ha1
  clear h0 h1 ha0 ha1 hm0 hm1
  go_enter Try.func3, Try.ntmps3
  go_wp2_with fail
  refine (unhide HZ7).mono ?_
  rintro e w' ⟨rfl, rfl⟩
  rw [unhide HZ]
  clear HZ7 HZ
  go_wp2
  go_ret
  exact ⟨rfl, Below.refl _ _⟩

set_option maxRecDepth 100000 in
set_option maxHeartbeats 4000000 in
theorem le_all (hm0 : n0 ≤ maxLen) (hm1 : n1 ≤ maxLen) (ha0 : a0 = none → n0 = 0) (ha1 : a1 = none → n1 = 0) (h0 : VRow w a0 n0 (fun j => .int .u8 (K0 j : Nat))) (h1 : VRow w a1 n1 (fun j => .int .u32 (K1 j : Nat))) (g0 : n0 + n1 ≤ 1048576) (g1 : n0 ≤ 524288) (g2 : n1 ≤ 65536) (g3 : 1 ≤ n1) (g4 : 1 ≤ q) (g5 : q ≤ 16384) (HB : Hid (allB n1 K1 q = false)) :
    Calls Try.prog 3 #[.slice a0 n0 c0, .slice a1 n1 c1, .int .u32 q] w fun e w' => e = .returned (.bool true) ∧ Below w.heap.size w w' := by
  have HZ : Hid (zz2 n0 n1 = true) := decide_eq_true (by omega)
  have HZ7 := hide (zz7_any a0 a1 n0 c0 n1 c1 q w hm0 hm1)
  have H0 := hide h0
  have H1 := hide h1
  have HA0 := hide ha0
  have HA1 := hide ha1
  clear h0 h1 ha0 ha1 hm0 hm1
  go_enter Try.func3, Try.ntmps3
  go_wp2_with fail
  refine (unhide HZ7).mono ?_
  rintro e w' ⟨rfl, rfl⟩
  rw [unhide HZ]
  clear HZ7 HZ
  go_wp2_with fail
  refine (allBelow_any a1 n1 c1 K1 q w (by omega) (unhide H1)).mono ?_
  rintro e w' ⟨rfl, rfl⟩
  rw [unhide HB]
  go_wp2
  go_ret
  exact ⟨rfl, Below.refl _ _⟩

set_option maxRecDepth 100000 in
set_option maxHeartbeats 4000000 in
theorem le_main (hm0 : n0 ≤ maxLen) (hm1 : n1 ≤ maxLen) (ha0 : a0 = none → n0 = 0) (ha1 : a1 = none → n1 = 0) (h0 : VRow w a0 n0 (fun j => .int .u8 (K0 j : Nat))) (h1 : VRow w a1 n1 (fun j => .int .u32 (K1 j : Nat))) (g0 : n0 + n1 ≤ 1048576) (g1 : n0 ≤ 524288) (g2 : n1 ≤ 65536) (g3 : 1 ≤ n1) (g4 : 1 ≤ q) (g5 : q ≤ 16384) (HB : Hid (allB n1 K1 q = true)) :
    Calls Try.prog 3 #[.slice a0 n0 c0, .slice a1 n1 c1, .int .u32 q] w fun e w' => e = .returned (.bool true) ∧ Below w.heap.size w w' := by
  have HZ : Hid (zz2 n0 n1 = true) := decide_eq_true (by omega)
  have HZ7 := hide (zz7_any a0 a1 n0 c0 n1 c1 q w hm0 hm1)
  have H0 := hide h0
  have H1 := hide h1
  have HA0 := hide ha0
  have HA1 := hide ha1
  clear h0 h1 ha0 ha1 hm0 hm1
  go_enter Try.func3, Try.ntmps3
  go_wp2_with fail
  refine (unhide HZ7).mono ?_
  rintro e w' ⟨rfl, rfl⟩
  rw [unhide HZ]
  clear HZ7 HZ
  go_wp2_with fail
  refine (allBelow_any a1 n1 c1 K1 q w (by omega) (unhide H1)).mono ?_
  rintro e w' ⟨rfl, rfl⟩
  rw [unhide HB]
  have HV := hide (allB_of (unhide HB))
  have HQ : Hid (OkM q) := ⟨g4, g5⟩
  go_wp2_with fail
  refine (cloneB a0 n0 c0 K0 w (by omega) (unhide HA0) (unhide H0)).mono ?_
  intro e w1 hp
  obtain ⟨vb, rfl, L⟩ := (LI.start w).add hp
  have L1 := hide L
  clear hp L
  go_wp2_with fail
  refine (cloneB a0 n0 c0 K0 w1 (by omega) (unhide HA0) ((unhide H0).below (unhide L1).bel)).mono ?_
  intro e w2 hp
  obtain ⟨vo, rfl, L⟩ := (unhide L1).add hp
  have L2 := hide L
  clear hp L L1
  go_wp2_with fail
  refine (cloneW a1 n1 c1 K1 w2 (by omega) (unhide HA1) ((unhide H1).below (unhide L2).bel)).mono ?_
  intro e w3 hp
  obtain ⟨vv, rfl, L⟩ := (unhide L2).add hp
  have hOl := toL_length n0 K0
  have hVl := toL_length n1 K1
  generalize toL n0 K0 = O at L L2 hOl
  generalize toL n1 K1 = V at L HV hVl hp
  have hov := L.ownAt ⟨24, vv, c32 V⟩ (by simp)
  rw [show (⟨24, vv, c32 V⟩ : Rw).xs.length = V.length from c32_length V] at hov
  obtain ⟨gv, cv, hvv, -, -⟩ := hov.form (by omega)
  simp only at hvv
  subst hvv
  have L3 := hide L.swap
  clear hp L L2 hov HB H0 H1 HA0 HA1
  have hO1 : O.length ≤ 524288 := by omega
  have hV1 : 1 ≤ V.length := by omega
  have hV2 : V.length ≤ 65536 := by omega
  clear g0 g1 g2 g3 g4 g5 hOl hVl
  generalize hE : enc 16 V (List.replicate V.length q) = E
  have hEl : E.length = nb 16 (List.replicate V.length q) := by rw [← hE, enc_length _ _ _ (by simp)]
  have hE2 : E.length ≤ 131088 := by
    have h9 := nb_le 16 (List.replicate V.length q) (by simpa using hV1)
    simp only [List.length_replicate] at h9
    omega
  have HE := hide hE
  have HEl := hide hEl
  clear hE hEl
  go_wp2_with fail
  refine (zzEncode_any vo O gv cv V q w3 hV1 hV2 (by omega) (unhide HQ) (unhide HV) ((unhide L3).fam.sub (by simp))).mono ?_
  intro e w4 hp
  rw [unhide HE] at hp
  obtain ⟨vr, rfl, L⟩ := (unhide L3).enc hp
  have L4 := hide (L.nil 5)
  clear hp L L3
  go_wp2_with fail
  refine (zzEncode_any (.slice none 0 0) [] gv cv V q w4 hV1 hV2 (by simp) (unhide HQ) (unhide HV) ((unhide L4).fam.sub (by simp [c8]))).mono ?_
  intro e w5 hp
  rw [unhide HE, List.nil_append] at hp
  obtain ⟨va, rfl, L⟩ := (unhide L4).enc hp
  have L5 := hide L
  clear hp L L4
  go_wp2_with fail
  refine (uniform_any V.length 0 w5 (by omega)).mono ?_
  intro e w6 hp
  obtain ⟨vz, rfl, L⟩ := (unhide L5).add hp
  have hZl : (List.replicate V.length 0).length = V.length := by simp
  have hZ0 : ∀ x, x ∈ List.replicate V.length 0 → x < q := fun x hx => by
    rw [List.mem_replicate] at hx
    have h9 := (unhide HQ).1
    omega
  generalize List.replicate V.length 0 = Z at L hZl hZ0 hp
  have hov := L.ownAt ⟨24, vz, c32 Z⟩ (by simp)
  rw [show (⟨24, vz, c32 Z⟩ : Rw).xs.length = Z.length from c32_length Z] at hov
  obtain ⟨gz, cz, hvv, -, -⟩ := hov.form (by omega)
  simp only at hvv
  subst hvv
  have HZ0 := hide hZ0
  have HZl := hide hZl
  have hZ1 : 1 ≤ Z.length := by omega
  have hZ2 : Z.length ≤ 65536 := by omega
  have L6 := hide (L.nil 5)
  clear hp L L5 hov hZ0 hZl
  go_wp2_with fail
  refine (zzEncode_any (.slice none 0 0) [] gz cz Z q w6 hZ1 hZ2 (by simp) (unhide HQ) (unhide HZ0) ((unhide L6).fam.sub (by simp [c8]))).mono ?_
  intro e w7 hp
  rw [List.nil_append] at hp
  have hEz : (enc 16 Z (List.replicate Z.length q)).length = E.length := by rw [enc_length _ _ _ (by simp), unhide HEl, unhide HZl]
  generalize enc 16 Z (List.replicate Z.length q) = EZ at hp hEz
  obtain ⟨ve, rfl, L⟩ := (unhide L6).enc hp
  have o1 := L.ownAt ⟨5, ve, c8 EZ⟩ (by simp)
  have o2 := L.ownAt ⟨5, va, c8 E⟩ (by simp)
  have o3 := L.ownAt ⟨5, vr, c8 (O ++ E)⟩ (by simp)
  have o4 := L.ownAt ⟨5, vb, c8 O⟩ (by simp)
  simp only [c8_length, List.length_append, hEz] at o1 o2 o3 o4
  have HB := hide L.bel
  clear hp L L6 HZ0 HV HQ HE HEl hV1 hV2 HZl hZ1 hZ2 hEz
  obtain ⟨ae, ce, rfl, -⟩ := row_form o1
  obtain ⟨aa, ca, rfl, haa⟩ := row_form o2
  obtain ⟨ar, cr, rfl, har⟩ := row_form o3
  obtain ⟨ab, cb, rfl, hab⟩ := row_form o4
  have O2 := hide o2
  have O3 := hide o3
  have O4 := hide o4
  have HAA := hide haa
  have HAR := hide har
  have HAB := hide hab
  clear o1 o2 o3 o4 haa har hab
  go_wp2
  go_loopw [11] (fun i wr => ∃ k m : Nat, k ≤ O.length ∧ i = .int .i64 k ∧ wr = w7.drewN m) (fun i _ => O.length - (intOf i).toNat)
  case atStart => exact ⟨0, 0, Nat.zero_le _, rfl, rfl⟩
  case round =>
    obtain ⟨k, m, hk, rfl, rfl⟩ := hrel
    by_cases hlt : k < O.length
    · obtain ⟨gr, rfl⟩ := unhide HAR (by omega)
      obtain ⟨gb, rfl⟩ := unhide HAB (by omega)
      have hc0 := (unhide O3).cellAt k (by omega)
      have hc1 := (unhide O4).cellAt k (by omega)
      rw [c8_app_left hlt] at hc0
      rw [c8_get O hlt] at hc1
      generalize O.getD k 0 = x at hc0 hc1
      have hd0 : (w7.drewN m).cell? ⟨gr, k, none⟩ = some (.int .u8 (x : Nat)) := hc0
      have hd1 : (w7.drewN m).cell? ⟨gb, k, none⟩ = some (.int .u8 (x : Nat)) := hc1
      have hl1 : (k : Int) < (O.length : Int) := by omega
      have hl2 : (k : Int) < (O.length : Int) + (E.length : Int) := by omega
      clear hc0 hc1
      generalize hW : w7.drewN m = W at hd0 hd1 ⊢
      have HW := hide hW
      clear hW
      go_wp2
      go_quiet (fail)
      go_wp2
      go_roundw
      case rel => rw [← unhide HW]; exact ⟨k + 1, _, by omega, by go_num, World.drewN_drewN _ _ _⟩
      case measure => simp [intOf]; omega
    · have hk' : k = O.length := by omega
      subst hk'
      go_wp2
      go_loopw [12] (fun i wr => ∃ k m : Nat, k ≤ E.length ∧ i = .int .i64 k ∧ wr = w7.drewN m) (fun i _ => E.length - (intOf i).toNat)
      case atStart => exact ⟨0, m, Nat.zero_le _, rfl, rfl⟩
      case round =>
        obtain ⟨k, m, hk, rfl, rfl⟩ := hrel
        by_cases hlt : k < E.length
        · obtain ⟨gr, rfl⟩ := unhide HAR (by omega)
          obtain ⟨ga, rfl⟩ := unhide HAA (by omega)
          have hc0 := (unhide O3).cellAt (O.length + k) (by omega)
          have hc1 := (unhide O2).cellAt k (by omega)
          rw [c8_app_right hlt] at hc0
          rw [c8_get E hlt] at hc1
          generalize E.getD k 0 = x at hc0 hc1
          have hd0 : (w7.drewN m).cell? ⟨gr, O.length + k, none⟩ = some (.int .u8 (x : Nat)) := hc0
          have hd1 : (w7.drewN m).cell? ⟨ga, k, none⟩ = some (.int .u8 (x : Nat)) := hc1
          have hl1 : (k : Int) < (E.length : Int) := by omega
          have hl2 : (O.length : Int) + (k : Int) < (O.length : Int) + (E.length : Int) := by omega
          have hl3 : (0 : Int) ≤ (O.length : Int) + (k : Int) := by omega
          clear hc0 hc1
          generalize hW : w7.drewN m = W at hd0 hd1 ⊢
          have HW := hide hW
          clear hW
          go_wp2
          go_quiet (fail)
          go_wp2
          go_roundw
          case rel => rw [← unhide HW]; exact ⟨k + 1, _, by omega, by go_num, World.drewN_drewN _ _ _⟩
          case measure => simp [intOf]; omega
        · have hk' : k = E.length := by omega
          subst hk'
          go_wp2
          go_ret
          exact ⟨rfl, ⟨(unhide HB).os, (unhide HB).tape, (unhide HB).output, (unhide HB).size, (unhide HB).block⟩⟩

end

/-- The law holds. -/
theorem lawEncode (a0 a1 : Option Addr) (n0 c0 n1 c1 : Nat) (K0 K1 : Nat → Nat) (q : Nat) (w : World) (hm0 : n0 ≤ maxLen) (hm1 : n1 ≤ maxLen) (ha0 : a0 = none → n0 = 0) (ha1 : a1 = none → n1 = 0) (h0 : VRow w a0 n0 (fun j => .int .u8 (K0 j : Nat))) (h1 : VRow w a1 n1 (fun j => .int .u32 (K1 j : Nat))) :
    Calls Try.prog 3 #[.slice a0 n0 c0, .slice a1 n1 c1, .int .u32 q] w fun e w' => e = .returned (.bool true) ∧ Below w.heap.size w w' := by
  by_cases g0 : n0 + n1 ≤ 1048576
  · by_cases g1 : n0 ≤ 524288
    · by_cases g2 : n1 ≤ 65536
      · by_cases g3 : 1 ≤ n1
        · by_cases g4 : 1 ≤ q
          · by_cases g5 : q ≤ 16384
            · cases hb : allB n1 K1 q with
              | false => exact le_all a0 a1 n0 c0 n1 c1 K0 K1 q w hm0 hm1 ha0 ha1 h0 h1 g0 g1 g2 g3 g4 g5 hb
              | true => exact le_main a0 a1 n0 c0 n1 c1 K0 K1 q w hm0 hm1 ha0 ha1 h0 h1 g0 g1 g2 g3 g4 g5 hb
            · exact le_g5 a0 a1 n0 c0 n1 c1 K0 K1 q w hm0 hm1 ha0 ha1 h0 h1 g0 g1 g2 g3 g4 g5
          · exact le_g4 a0 a1 n0 c0 n1 c1 K0 K1 q w hm0 hm1 ha0 ha1 h0 h1 g0 g1 g2 g3 g4
        · exact le_g3 a0 a1 n0 c0 n1 c1 K0 K1 q w hm0 hm1 ha0 ha1 h0 h1 g0 g1 g2 g3
      · exact le_g2 a0 a1 n0 c0 n1 c1 K0 K1 q w hm0 hm1 ha0 ha1 h0 h1 g0 g1 g2
    · exact le_g1 a0 a1 n0 c0 n1 c1 K0 K1 q w hm0 hm1 ha0 ha1 h0 h1 g0 g1
  · exact le_zz a0 a1 n0 c0 n1 c1 K0 K1 q w hm0 hm1 ha0 ha1 h0 h1 g0

end Go.Proofs.Qxb6603826a
