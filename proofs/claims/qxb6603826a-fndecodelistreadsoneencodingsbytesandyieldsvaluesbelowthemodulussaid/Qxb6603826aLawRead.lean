/- The law: decodeList reads one encoding's bytes. -/
import Derived.Test.Qxb6603826aLawUnd
namespace Go.Proofs.Qxb6603826a
open Go.RowKit
set_option linter.unusedVariables false

theorem toL_const {n : Nat} {K : Nat → Nat} {m : Nat} (h : ∀ j, j < n → K j = m) : toL n K = List.replicate n m := by
  apply List.ext_getElem?
  intro j
  by_cases hj : j < n
  · simp [toL, hj, h j hj]
  · simp [toL, hj]

theorem own_form8 {w : World} {v : Value} {L : List Nat} (h : w.ownsRow 0 5 1 v L.length (c8 L)) : ∃ a c, v = .slice a L.length c ∧ L.length ≤ c ∧ (0 < L.length → ∃ g, a = some ⟨g, 0, none⟩) ∧
    ∀ N, N ≤ L.length → (∀ w' : World, (Instr.slice 22 (.slice a L.length c) none (some (.int .i64 (N : Nat))) none).run Try.prog w' = .ok (.slice a N c) w') ∧ ((∀ x, x ∈ L → x < 256) → BS w (.slice a N c) (L.take N)) := by
  rcases h.2 with ⟨hv, h0⟩ | ⟨g, cap, cur, hv, _, _, hle, _⟩
  · refine ⟨none, 0, by rw [h0]; exact hv, by omega, fun h => by omega, fun N hN => ⟨fun w' => ?_, fun hb => ⟨fun x hx => hb x (List.mem_of_mem_take hx), .inl ?_⟩⟩⟩
    · have hN0 : N = 0 := by omega
      subst hN0
      go_simp
    · have hN0 : N = 0 := by omega
      subst hN0
      exact ⟨rfl, by simp⟩
  · refine ⟨_, cap, hv, hle, fun _ => ⟨g, rfl⟩, fun N hN => ⟨fun w' => ?_, fun hb => ⟨fun x hx => hb x (List.mem_of_mem_take hx), .inr ⟨g, 0, cap, ?_, ?_, fun j hj => ?_⟩⟩⟩⟩
    · have h8 : (N : Int) ≤ (cap : Int) := by omega
      go_simp
    · rw [List.length_take, Nat.min_eq_left hN]
    · rw [List.length_take, Nat.min_eq_left hN]; omega
    · subst hv
      rw [List.length_take, Nat.min_eq_left hN] at hj
      have h9 := h.cellAt j (by omega)
      rw [c8_get L (by omega)] at h9
      rw [Nat.zero_add, h9]
      simp [List.getD, hj]

theorem own_take {w : World} {a : Option Addr} {c : Nat} {L : List Nat} {N : Nat} (h : w.ownsRow 0 5 1 (.slice a L.length c) L.length (c8 L)) (hN : N ≤ L.length) (hb : ∀ x, x ∈ L → x < 256) : BS w (.slice a N c) (L.take N) := by
  obtain ⟨a', c', he, _, _, hs⟩ := own_form8 h
  cases he
  exact (hs N hN).2 hb

theorem BS.nil_row {w : World} {v : Value} (h : BS w v []) : ∃ a c, v = .slice a 0 c := by
  obtain ⟨a, c, h, _⟩ := h.row
  exact ⟨a, c, h⟩

section
variable (a0 a1 : Option Addr) (n0 c0 n1 c1 : Nat) (K0 K1 : Nat → Nat) (w : World)

set_option maxRecDepth 100000 in
set_option maxHeartbeats 4000000 in
theorem lr_zz (hm0 : n0 ≤ maxLen) (hm1 : n1 ≤ maxLen) (ha0 : a0 = none → n0 = 0) (ha1 : a1 = none → n1 = 0) (h0 : VRow w a0 n0 (fun j => .int .u8 (K0 j : Nat))) (h1 : VRow w a1 n1 (fun j => .int .u32 (K1 j : Nat))) (hb0 : ∀ j, j < n0 → K0 j < 256) (g0 : ¬ n0 + n1 ≤ 1048576) :
    Calls Try.prog 5 #[.slice a0 n0 c0, .slice a1 n1 c1] w fun e w' => e = .returned (.bool true) ∧ Below w.heap.size w w' := by
  have HZ : Hid (zz2 n0 n1 = false) := decide_eq_false (by omega)
  have HZ7 := hide (zz17_any a0 a1 n0 c0 n1 c1 w hm0 hm1)
  have H0 := hide h0
  have H1 := hide h1
  have HA0 := hide ha0
  have HA1 := hide ha1
  have HB0 := hide hb0
  clear h0 h1 ha0 ha1 hm0 hm1 hb0
  go_enter Try.func5, Try.ntmps5
  go_wp2_with fail
  refine (unhide HZ7).mono ?_
  rintro e w' ⟨rfl, rfl⟩
  rw [unhide HZ]
  clear HZ7 HZ
  go_wp2
  go_ret
  exact ⟨rfl, Below.refl _ _⟩

set_option maxRecDepth 100000 in
set_option maxHeartbeats 4000000 in
theorem lr_g1 (hm0 : n0 ≤ maxLen) (hm1 : n1 ≤ maxLen) (ha0 : a0 = none → n0 = 0) (ha1 : a1 = none → n1 = 0) (h0 : VRow w a0 n0 (fun j => .int .u8 (K0 j : Nat))) (h1 : VRow w a1 n1 (fun j => .int .u32 (K1 j : Nat))) (hb0 : ∀ j, j < n0 → K0 j < 256) (g0 : n0 + n1 ≤ 1048576) (g1 : ¬ n0 ≤ 524288) :
    Calls Try.prog 5 #[.slice a0 n0 c0, .slice a1 n1 c1] w fun e w' => e = .returned (.bool true) ∧ Below w.heap.size w w' := by
  have HZ : Hid (zz2 n0 n1 = true) := decide_eq_true (by omega)
  have HZ7 := hide (zz17_any a0 a1 n0 c0 n1 c1 w hm0 hm1)
  have H0 := hide h0
  have H1 := hide h1
  have HA0 := hide ha0
  have HA1 := hide ha1
  have HB0 := hide hb0
  clear h0 h1 ha0 ha1 hm0 hm1 hb0
  go_enter Try.func5, Try.ntmps5
  go_wp2_with fail
  refine (unhide HZ7).mono ?_
  rintro e w' ⟨rfl, rfl⟩
  rw [unhide HZ]
  clear HZ7 HZ
  go_wp2
  go_ret
  exact ⟨rfl, Below.refl _ _⟩

set_option maxRecDepth 100000 in
set_option maxHeartbeats 4000000 in
theorem lr_g2 (hm0 : n0 ≤ maxLen) (hm1 : n1 ≤ maxLen) (ha0 : a0 = none → n0 = 0) (ha1 : a1 = none → n1 = 0) (h0 : VRow w a0 n0 (fun j => .int .u8 (K0 j : Nat))) (h1 : VRow w a1 n1 (fun j => .int .u32 (K1 j : Nat))) (hb0 : ∀ j, j < n0 → K0 j < 256) (g0 : n0 + n1 ≤ 1048576) (g1 : n0 ≤ 524288) (g2 : ¬ n1 ≤ 65536) :
    Calls Try.prog 5 #[.slice a0 n0 c0, .slice a1 n1 c1] w fun e w' => e = .returned (.bool true) ∧ Below w.heap.size w w' := by
  have HZ : Hid (zz2 n0 n1 = true) := decide_eq_true (by omega)
  have HZ7 := hide (zz17_any a0 a1 n0 c0 n1 c1 w hm0 hm1)
  have H0 := hide h0
  have H1 := hide h1
  have HA0 := hide ha0
  have HA1 := hide ha1
  have HB0 := hide hb0
  clear h0 h1 ha0 ha1 hm0 hm1 hb0
  go_enter Try.func5, Try.ntmps5
  go_wp2_with fail
  refine (unhide HZ7).mono ?_
  rintro e w' ⟨rfl, rfl⟩
  rw [unhide HZ]
  clear HZ7 HZ
  go_wp2
  go_ret
  exact ⟨rfl, Below.refl _ _⟩

set_option maxRecDepth 100000 in
set_option maxHeartbeats 4000000 in
theorem lr_g3 (hm0 : n0 ≤ maxLen) (hm1 : n1 ≤ maxLen) (ha0 : a0 = none → n0 = 0) (ha1 : a1 = none → n1 = 0) (h0 : VRow w a0 n0 (fun j => .int .u8 (K0 j : Nat))) (h1 : VRow w a1 n1 (fun j => .int .u32 (K1 j : Nat))) (hb0 : ∀ j, j < n0 → K0 j < 256) (g0 : n0 + n1 ≤ 1048576) (g1 : n0 ≤ 524288) (g2 : n1 ≤ 65536) (g3 : ¬ 1 ≤ n1) :
    Calls Try.prog 5 #[.slice a0 n0 c0, .slice a1 n1 c1] w fun e w' => e = .returned (.bool true) ∧ Below w.heap.size w w' := by
  obtain rfl : n1 = 0 := by omega
  have HZ : Hid (zz2 n0 0 = true) := decide_eq_true (by omega)
  have HZ7 := hide (zz17_any a0 a1 n0 c0 0 c1 w hm0 hm1)
  have H0 := hide h0
  have H1 := hide h1
  have HA0 := hide ha0
  have HA1 := hide ha1
  have HB0 := hide hb0
  clear h0 h1 ha0 ha1 hm0 hm1 hb0
  go_enter Try.func5, Try.ntmps5
  go_wp2_with fail
  refine (unhide HZ7).mono ?_
  rintro e w' ⟨rfl, rfl⟩
  rw [unhide HZ]
  clear HZ7 HZ
  go_wp2
  go_ret
  exact ⟨rfl, Below.refl _ _⟩

set_option maxRecDepth 100000 in
set_option maxHeartbeats 4000000 in
theorem lr_m (hm0 : n0 ≤ maxLen) (hm1 : n1 ≤ maxLen) (ha0 : a0 = none → n0 = 0) (ha1 : a1 = none → n1 = 0) (h0 : VRow w a0 n0 (fun j => .int .u8 (K0 j : Nat))) (h1 : VRow w a1 n1 (fun j => .int .u32 (K1 j : Nat))) (hb0 : ∀ j, j < n0 → K0 j < 256) (g0 : n0 + n1 ≤ 1048576) (g1 : n0 ≤ 524288) (g2 : n1 ≤ 65536) (g3 : 1 ≤ n1) (gm : ¬ (1 ≤ K1 0 ∧ K1 0 ≤ 16384)) :
    Calls Try.prog 5 #[.slice a0 n0 c0, .slice a1 n1 c1] w fun e w' => e = .returned (.bool true) ∧ Below w.heap.size w w' := by
  obtain ⟨b1, o1, rfl, hc⟩ : ∃ b o, a1 = some ⟨b, o, none⟩ ∧ ∀ j, j < n1 → w.cell? ⟨b, o + j, none⟩ = some (.int .u32 (K1 j : Nat)) := by
    rcases h1 with h | h
    · omega
    · exact h
  have hm := hc 0 (by omega)
  rw [Nat.add_zero] at hm
  generalize hK : K1 0 = m at hm gm
  have HC := hide hc
  have HK := hide hK
  clear hc hK
  by_cases gm1 : 1 ≤ m
  · have gm2 : ¬ m ≤ 16384 := fun h => gm ⟨gm1, h⟩
    clear gm
    have HZ : Hid (zz2 n0 n1 = true) := decide_eq_true (by omega)
    have HZ7 := hide (zz17_any a0 (some ⟨b1, o1, none⟩) n0 c0 n1 c1 w hm0 hm1)
    have H0 := hide h0
    have H1 := hide h1
    have HA0 := hide ha0
    have HA1 := hide ha1
    have HB0 := hide hb0
    clear h0 h1 ha0 ha1 hm0 hm1 hb0
    go_enter Try.func5, Try.ntmps5
    go_wp2_with fail
    refine (unhide HZ7).mono ?_
    rintro e w' ⟨rfl, rfl⟩
    rw [unhide HZ]
    clear HZ7 HZ
    go_wp2
    go_ret
    exact ⟨rfl, Below.refl _ _⟩
  · obtain rfl : m = 0 := by omega
    clear gm
    have HZ : Hid (zz2 n0 n1 = true) := decide_eq_true (by omega)
    have HZ7 := hide (zz17_any a0 (some ⟨b1, o1, none⟩) n0 c0 n1 c1 w hm0 hm1)
    have H0 := hide h0
    have H1 := hide h1
    have HA0 := hide ha0
    have HA1 := hide ha1
    have HB0 := hide hb0
    clear h0 h1 ha0 ha1 hm0 hm1 hb0
    go_enter Try.func5, Try.ntmps5
    go_wp2_with fail
    refine (unhide HZ7).mono ?_
    rintro e w' ⟨rfl, rfl⟩
    rw [unhide HZ]
    clear HZ7 HZ
    go_wp2
    go_ret
    exact ⟨rfl, Below.refl _ _⟩

set_option maxRecDepth 100000 in
set_option maxHeartbeats 4000000 in
theorem lr_main (hm0 : n0 ≤ maxLen) (hm1 : n1 ≤ maxLen) (ha0 : a0 = none → n0 = 0) (ha1 : a1 = none → n1 = 0) (h0 : VRow w a0 n0 (fun j => .int .u8 (K0 j : Nat))) (h1 : VRow w a1 n1 (fun j => .int .u32 (K1 j : Nat))) (hb0 : ∀ j, j < n0 → K0 j < 256) (g0 : n0 + n1 ≤ 1048576) (g1 : n0 ≤ 524288) (g2 : n1 ≤ 65536) (g3 : 1 ≤ n1) (gm : 1 ≤ K1 0 ∧ K1 0 ≤ 16384) :
    Calls Try.prog 5 #[.slice a0 n0 c0, .slice a1 n1 c1] w fun e w' => e = .returned (.bool true) ∧ Below w.heap.size w w' := by
  obtain ⟨b1, o1, rfl, hc⟩ : ∃ b o, a1 = some ⟨b, o, none⟩ ∧ ∀ j, j < n1 → w.cell? ⟨b, o + j, none⟩ = some (.int .u32 (K1 j : Nat)) := by
    rcases h1 with h | h
    · omega
    · exact h
  have hm := hc 0 (by omega)
  rw [Nat.add_zero] at hm
  generalize hK : K1 0 = m at hm gm
  have HC := hide hc
  have HK := hide hK
  clear hc hK
  obtain ⟨gm1, gm2⟩ := gm
  have HZ : Hid (zz2 n0 n1 = true) := decide_eq_true (by omega)
  have HZ7 := hide (zz17_any a0 (some ⟨b1, o1, none⟩) n0 c0 n1 c1 w hm0 hm1)
  have H0 := hide h0
  have H1 := hide h1
  have HA0 := hide ha0
  have HA1 := hide ha1
  have HB0 := hide hb0
  clear h0 h1 ha0 ha1 hm0 hm1 hb0
  go_enter Try.func5, Try.ntmps5
  go_wp2_with fail
  refine (unhide HZ7).mono ?_
  rintro e w' ⟨rfl, rfl⟩
  rw [unhide HZ]
  clear HZ7 HZ
  have HQ : Hid (OkM m) := ⟨gm1, gm2⟩
  go_wp2
  go_loop [6] (fun i => ∃ k : Nat, k ≤ n1 ∧ i = .int .i64 k ∧ Hid (∀ j, j < k → K1 j = m)) (fun i => n1 - (intOf i).toNat)
  case atStart => exact ⟨0, Nat.zero_le _, rfl, fun j hj => absurd hj (Nat.not_lt_zero _)⟩
  case round =>
    obtain ⟨k, hk, rfl, HA⟩ := hrel
    by_cases hlt : k < n1
    · have hc0 := unhide HC k hlt
      by_cases hq : K1 k = m
      · have HN : Hid (∀ j, j < k + 1 → K1 j = m) := fun j hj => by
          by_cases e : j = k
          · subst e; exact hq
          · exact unhide HA j (by omega)
        rw [hq] at hc0
        clear hq
        go_wp2
        go_round
        case rel => exact ⟨k + 1, by omega, by go_num, HN⟩
        case measure => simp [intOf]; omega
      · generalize K1 k = x at hc0 hq
        have hq' : ¬ (x : Int) = (m : Int) := by omega
        go_wp2
        go_ret
        exact ⟨rfl, Below.refl _ _⟩
    · have hk' : k = n1 := by omega
      subst hk'
      have htl := toL_const (unhide HA)
      have HTL := hide htl
      clear HA htl hlt
      go_wp2_with fail
      refine (uniform_any k 0 w (by omega)).mono ?_
      intro e w1 hp
      obtain ⟨vz, rfl, L⟩ := (LI.start w).add hp
      have hZl : (List.replicate k 0).length = k := by simp
      have hZ0 : ∀ x, x ∈ List.replicate k 0 → x < m := fun x hx => by
        rw [List.mem_replicate] at hx
        omega
      generalize List.replicate k 0 = Z at L hZl hZ0 hp
      have hov := L.ownAt ⟨24, vz, c32 Z⟩ (by simp)
      rw [show (⟨24, vz, c32 Z⟩ : Rw).xs.length = Z.length from c32_length Z] at hov
      obtain ⟨gz, cz, hvz, -, -⟩ := hov.form (by omega)
      simp only at hvz
      subst hvz
      have hcall := zzEncode_any (.slice none 0 0) [] gz cz Z m w1 (by omega) (by omega) (by simp) (unhide HQ) hZ0 ((L.nil 5).fam.sub (by simp [c8]))
      rw [hZl, List.nil_append] at hcall
      have hEz : (enc 16 Z (List.replicate k m)).length = nb 16 (List.replicate k m) := enc_length _ _ _ (by simp [hZl])
      have hNl := nb_le 16 (List.replicate k m) (by simpa using g3)
      rw [List.length_replicate] at hNl
      generalize enc 16 Z (List.replicate k m) = EZ at hcall hEz
      have HCALL := hide hcall
      have L1 := hide (L.nil 5)
      have hrl : (List.replicate k m).length = k := by simp
      have hok : ∀ x, x ∈ List.replicate k m → OkM x := fun x hx => by rw [List.mem_replicate] at hx; rw [hx.2]; exact unhide HQ
      have hmg : ∀ j, j < k → (List.replicate k m).getD j 0 = m := fun j hj => by simp [List.getD, hj]
      generalize hMM : List.replicate k m = MM at hEz hNl HTL hrl hok hmg
      generalize hN : nb 16 MM = N at hEz hNl
      have HMM := hide hMM
      have HN := hide hN
      have HEz := hide hEz
      have HRL := hide hrl
      have HOK := hide hok
      have HMG := hide hmg
      clear hp L hov hZ0 hcall hMM hN hEz hrl hok hmg
      rw [hZl]
      clear hZl
      go_wp2_with fail
      refine (unhide HCALL).mono ?_
      intro e w2 hp
      obtain ⟨ve, rfl, L⟩ := (unhide L1).enc hp
      have hoe := L.ownAt ⟨5, ve, c8 EZ⟩ (by simp)
      simp only [c8_length, unhide HEz] at hoe
      obtain ⟨ae, ce, rfl, -⟩ := row_form hoe
      have L2 := hide (LI.sub L (rows' := []) (by simp))
      clear hp L hoe HCALL L1 HEz
      by_cases hn0 : n0 < N
      · have hn0' : (n0 : Int) < (N : Int) := by omega
        go_wp2
        go_ret
        exact ⟨rfl, (unhide L2).bel⟩
      · obtain ⟨r, hr⟩ : ∃ r, n0 = N + r := ⟨n0 - N, by omega⟩
        subst hr
        have hn0' : ¬ (N : Int) + (r : Int) < (N : Int) := by omega
        clear hn0
        go_wp2_with fail
        refine (cloneB a0 (N + r) c0 K0 w2 (by omega) (unhide HA0) ((unhide H0).below (unhide L2).bel)).mono ?_
        intro e w3 hp
        obtain ⟨vb, rfl, L⟩ := (unhide L2).add hp
        have L3 := hide L
        clear hp L L2
        go_wp2_with fail
        refine (cloneW (some ⟨b1, o1, none⟩) k c1 K1 w3 (by omega) (unhide HA1) ((unhide H1).below (unhide L3).bel)).mono ?_
        intro e w4 hp
        obtain ⟨vm, rfl, L⟩ := (unhide L3).add hp
        rw [unhide HTL] at L
        have hBl := toL_length (N + r) K0
        have hBb : ∀ x, x ∈ toL (N + r) K0 → x < 256 := fun x hx => by
          obtain ⟨j, hj, rfl⟩ := toL_mem hx
          exact unhide HB0 j hj
        generalize toL (N + r) K0 = B at L hBl hBb L3
        have hom := L.ownAt ⟨24, vm, c32 MM⟩ (by simp)
        simp only [c32_length] at hom
        obtain ⟨gm, cm, hvm, -, -⟩ := hom.form (by have := unhide HRL; omega)
        subst hvm
        have hob := L.ownAt ⟨5, vb, c8 B⟩ (by simp)
        simp only [c8_length] at hob
        obtain ⟨ab, cb, rfl, hcb, hab, hsl⟩ := own_form8 hob
        obtain ⟨hsl1, hsl2⟩ := hsl N (by omega)
        have hbs := own_BS hob hBb
        have hd1 := zzDecode_any (.slice ab B.length cb) B gm cm MM w4 (by have := unhide HRL; omega) (by have := unhide HRL; omega) (unhide HOK) hom hbs (by rw [unhide HN]; omega)
        have hbw := dec_below 16 MM B (by have := unhide HRL; omega) (by have := unhide HRL; omega) (unhide HOK)
        have hre := dec_rest 16 MM B
        rw [unhide HN] at hre
        have hap := dec_append 16 MM (B.take N) (B.drop N) (by rw [unhide HN, List.length_take]; omega)
        rw [List.take_append_drop] at hap
        have hre2 := dec_rest 16 MM (B.take N)
        rw [unhide HN, List.drop_take_self] at hre2
        rw [hre] at hd1
        generalize (dec 16 MM B).1 = V at hd1 hbw hap
        have hRl : (B.drop N).length = r := by rw [List.length_drop]; omega
        have hRg : ∀ j, j < r → (B.drop N).getD j 0 = B.getD (N + j) 0 := fun j hj => by simp [List.getD]
        generalize B.drop N = RL at hd1 hRl hRg
        have hVl : V.length = k := by rw [hbw.1]; exact unhide HRL
        have hVm : ∀ j, j < k → V.getD j 0 < m := fun j hj => by
          have h9 := hbw.2 j (by omega)
          rw [unhide HMG j hj] at h9
          exact h9
        have hVx : ∀ x, x ∈ V → x < m := fun x hx => by
          obtain ⟨j, hj, rfl⟩ := List.getElem_of_mem hx
          have h9 := hVm j (by omega)
          simpa [List.getD, hj] using h9
        have hd3 := dec_enc 16 V MM [] (by have := unhide HRL; omega) (by have := unhide HRL; omega) (unhide HOK) hbw
        rw [List.append_nil] at hd3
        have hd4 := dec_rest 16 MM (enc 16 V MM)
        rw [unhide HN] at hd4
        have hE3 : (enc 16 V MM).length = N := by rw [enc_length _ _ _ hbw.1, unhide HN]
        rw [List.drop_of_length_le (by omega)] at hd4
        have hE4 := enc_lt 16 V MM
        rw [unhide HRL, hBl] at hd1
        have HD1 := hide hd1
        rw [hBl] at hsl1
        rw [hBl, unhide HRL] at L
        have L4 := hide L
        have HBB := hide hBb
        have HAB := hide hab
        have HBl := hide hBl
        have HAP := hide (And.intro hap hre2)
        have HVL := hide hVl
        have HVM := hide (And.intro hVm hVx)
        have HRL9 := hide (And.intro hRl hRg)
        have HD3 := hide (And.intro hd3 (And.intro hd4 (And.intro hE3 hE4)))
        clear hp L L3 hom hob hbs hd1 hbw hre hap hre2 hRl hRg hVm hVx hd3 hd4 hE3 hE4 hsl hsl2 hBb hab hcb HTL
        rw [hBl, unhide HRL]
        clear hBl hVl H0 H1 HA0 HA1 HB0 HC HK
        go_wp2_with fail
        refine (unhide HD1).mono ?_
        intro e w5 hp
        obtain ⟨vv, vrest, rfl, L, hrest⟩ := (unhide L4).dec hp
        have hov := L.ownAt ⟨24, vv, c32 V⟩ (by simp)
        simp only [c32_length] at hov
        rw [unhide HVL] at hov
        obtain ⟨gv, cv, hvv9, -, -⟩ := hov.form (by omega)
        subst hvv9
        have hvv : VRow w5 (some ⟨gv, 0, none⟩) k (fun j => .int .u32 (V.getD j 0 : Nat)) := by
          have h9 := hov
          rw [← unhide HVL] at h9
          have h8 := own_v32 h9
          rw [unhide HVL] at h8
          exact h8
        obtain ⟨ar, cr, rfl, hvr⟩ := hrest.row
        obtain ⟨hr1, hr2⟩ := unhide HRL9
        rw [hr1] at hvr
        have hal := allBelow_any (some ⟨gv, 0, none⟩) k cv (fun j => V.getD j 0) m w5 (by omega) hvv
        rw [allB_true (unhide HVM).1] at hal
        have HAL := hide hal
        have HVR := hide hvr
        have L5 := hide L
        have hob := L.ownAt ⟨5, .slice ab (N + r) cb, c8 B⟩ (by simp)
        simp only [c8_length] at hob
        rw [unhide HBl] at hob
        have HOB := hide hob
        rw [hr1]
        clear hp L hrest hov hvv hvr hr1 hr2 hal hob HD1 L4
        go_wp2_with fail
        refine (unhide HAL).mono ?_
        rintro e w' ⟨rfl, rfl⟩
        clear HAL
        go_wp2
        go_loopw [11] (fun i wr => ∃ j mm : Nat, j ≤ r ∧ i = .int .i64 j ∧ wr = w5.drewN mm) (fun i _ => r - (intOf i).toNat)
        case atStart => exact ⟨0, 0, Nat.zero_le _, rfl, rfl⟩
        case round =>
          obtain ⟨j, mm, hj, rfl, rfl⟩ := hrel
          by_cases hlt : j < r
          · obtain ⟨gr, orr, har, hcr⟩ : ∃ b o, ar = some ⟨b, o, none⟩ ∧ ∀ j, j < r → w5.cell? ⟨b, o + j, none⟩ = some (.int .u8 (RL.getD j 0 : Nat)) := by
              rcases unhide HVR with h | h
              · omega
              · exact h
            subst har
            obtain ⟨gb, hgb⟩ := unhide HAB (by have := unhide HBl; omega)
            subst hgb
            have hc0 := hcr j hlt
            have hc1 := (unhide HOB).cellAt (N + j) (by omega)
            rw [c8_get B (by have := unhide HBl; omega), ← (unhide HRL9).2 j hlt] at hc1
            generalize RL.getD j 0 = x at hc0 hc1
            have hd0 : (w5.drewN mm).cell? ⟨gr, orr + j, none⟩ = some (.int .u8 (x : Nat)) := hc0
            have hd1 : (w5.drewN mm).cell? ⟨gb, N + j, none⟩ = some (.int .u8 (x : Nat)) := hc1
            have hl1 : (j : Int) < (r : Int) := by omega
            have hl2 : (N : Int) + (j : Int) < (N : Int) + (r : Int) := by omega
            have hl3 : (0 : Int) ≤ (N : Int) + (j : Int) := by omega
            clear hc0 hc1 hcr
            generalize hW : w5.drewN mm = W at hd0 hd1 ⊢
            have HW := hide hW
            clear hW
            go_wp2
            go_quiet (fail)
            go_wp2
            go_roundw
            case rel => rw [← unhide HW]; exact ⟨j + 1, _, by omega, by go_num, World.drewN_drewN _ _ _⟩
            case measure => simp [intOf]; omega
          · have LW := hide ((unhide L5).drewN mm)
            have hj9 : ¬ (j : Int) < (r : Int) := by omega
            clear L5 HVR HOB
            generalize w5.drewN mm = W at LW ⊢
            have hom := (unhide LW).ownAt ⟨24, .slice (some ⟨gm, 0, none⟩) k cm, c32 MM⟩ (by simp)
            simp only [c32_length] at hom
            have hom9 := hom
            rw [show (Value.slice (some ⟨gm, 0, none⟩) k cm) = .slice (some ⟨gm, 0, none⟩) MM.length cm by rw [unhide HRL]] at hom9
            have hob := (unhide LW).ownAt ⟨5, .slice ab (N + r) cb, c8 B⟩ (by simp)
            simp only [c8_length] at hob
            rw [show (Value.slice ab (N + r) cb) = .slice ab B.length cb by rw [unhide HBl]] at hob
            have hbs := own_take (N := N) hob (by have := unhide HBl; omega) (unhide HBB)
            have hd2 := zzDecode_any (.slice ab N cb) (B.take N) gm cm MM W (by have := unhide HRL; omega) (by have := unhide HRL; omega) (unhide HOK) hom9 hbs (by rw [unhide HN, List.length_take]; have := unhide HBl; omega)
            rw [(unhide HAP).2, ← (unhide HAP).1, unhide HRL] at hd2
            have HD2 := hide hd2
            clear hom hom9 hob hbs hd2
            go_wp2_with fail
            refine (unhide HD2).mono ?_
            intro e w6 hp
            obtain ⟨v2, vr2, rfl, L, hrest⟩ := (unhide LW).dec hp
            obtain ⟨ar2, cr2, rfl⟩ := hrest.nil_row
            have ho2 := L.ownAt ⟨24, v2, c32 V⟩ (by simp)
            have hov := L.ownAt ⟨24, .slice (some ⟨gv, 0, none⟩) k cv, c32 V⟩ (by simp)
            simp only [c32_length] at ho2 hov
            obtain ⟨a2, c2, rfl, hv2⟩ := own_row32 ho2
            rw [show (Value.slice (some ⟨gv, 0, none⟩) k cv) = .slice (some ⟨gv, 0, none⟩) V.length cv by rw [unhide HVL]] at hov
            have hvv := own_v32 hov
            rw [unhide HVL] at hv2 hvv
            have HV2 := hide hv2
            have HVV := hide hvv
            rw [unhide HVL]
            have L6 := hide (L.sub (rows' := [⟨24, .slice (some ⟨gv, 0, none⟩) k cv, c32 V⟩, ⟨24, .slice (some ⟨gm, 0, none⟩) k cm, c32 MM⟩]) (by
              refine List.Sublist.cons _ (List.Sublist.cons_cons _ (List.Sublist.cons_cons _ (List.nil_sublist _)))))
            clear hp L hrest ho2 hov hv2 hvv LW HD2
            go_wp2_with fail
            refine (sameWords_eq a2 (some ⟨gv, 0, none⟩) k c2 cv (fun j => V.getD j 0) w6 (by omega) (unhide HV2) (unhide HVV)).mono ?_
            rintro e w7 ⟨rfl, m7, rfl⟩
            have L7 := hide (((unhide L6).drewN m7).nil 5)
            clear L6 HV2 HVV
            generalize w6.drewN m7 = W7 at L7 ⊢
            have hfam : Fam W7 [⟨5, .slice none 0 0, c8 []⟩, ⟨24, .slice (some ⟨gv, 0, none⟩) V.length cv, c32 V⟩] := by
              rw [unhide HVL]
              exact (unhide L7).fam.sub (by
                refine List.Sublist.cons_cons _ (List.Sublist.cons_cons _ (List.nil_sublist _)))
            have hce := zzEncode_any (.slice none 0 0) [] gv cv V m W7 (by have := unhide HVL; omega) (by have := unhide HVL; omega) (by simp) (unhide HQ) (unhide HVM).2 hfam
            rw [unhide HVL, unhide HMM, List.nil_append] at hce
            obtain ⟨x1, x2, x3, x4⟩ := unhide HD3
            generalize enc 16 V MM = E3 at hce x1 x2 x3 x4
            have HCE := hide hce
            clear hfam hce HD3
            go_wp2_with fail
            refine (unhide HCE).mono ?_
            intro e w8 hp
            obtain ⟨ve, rfl, L⟩ := (unhide L7).enc hp
            have hoe := L.ownAt ⟨5, ve, c8 E3⟩ (by simp)
            simp only [c8_length] at hoe
            have hbs := own_BS hoe x4
            have hom9 := L.ownAt ⟨24, .slice (some ⟨gm, 0, none⟩) k cm, c32 MM⟩ (by simp)
            simp only [c32_length] at hom9
            rw [show (Value.slice (some ⟨gm, 0, none⟩) k cm) = .slice (some ⟨gm, 0, none⟩) MM.length cm by rw [unhide HRL]] at hom9
            have hd3 := zzDecode_any ve E3 gm cm MM w8 (by have := unhide HRL; omega) (by have := unhide HRL; omega) (unhide HOK) hom9 hbs (by rw [unhide HN, x3]; exact Nat.le_refl _)
            rw [x1, x2, unhide HRL] at hd3
            rw [x3] at hoe
            obtain ⟨ae3, ce3, rfl, -⟩ := row_form hoe
            have HD3 := hide hd3
            have L8 := hide L
            clear hp L hoe hbs hom9 hd3 x1 x2 x3 x4 L7 HCE
            go_wp2_with fail
            refine (unhide HD3).mono ?_
            intro e w9 hp
            obtain ⟨v3, vr3, rfl, L, hrest⟩ := (unhide L8).dec hp
            obtain ⟨ar3, cr3, rfl⟩ := hrest.nil_row
            have ho2 := L.ownAt ⟨24, v3, c32 V⟩ (by simp)
            have hov := L.ownAt ⟨24, .slice (some ⟨gv, 0, none⟩) k cv, c32 V⟩ (by simp)
            simp only [c32_length] at ho2 hov
            obtain ⟨a3, c3, rfl, hv3⟩ := own_row32 ho2
            rw [show (Value.slice (some ⟨gv, 0, none⟩) k cv) = .slice (some ⟨gv, 0, none⟩) V.length cv by rw [unhide HVL]] at hov
            have hvv := own_v32 hov
            rw [unhide HVL] at hv3 hvv
            have HV3 := hide hv3
            have HVV := hide hvv
            have HBEL := hide L.bel
            rw [unhide HVL]
            clear hp L hrest ho2 hov hv3 hvv L8 HD3
            go_wp2_with fail
            refine (sameWords_eq a3 (some ⟨gv, 0, none⟩) k c3 cv (fun j => V.getD j 0) w9 (by omega) (unhide HV3) (unhide HVV)).mono ?_
            rintro e w10 ⟨rfl, m10, rfl⟩
            go_wp2
            go_ret
            exact ⟨rfl, ⟨(unhide HBEL).os, (unhide HBEL).tape, (unhide HBEL).output, (unhide HBEL).size, (unhide HBEL).block⟩⟩

end

/-- The law holds. -/
theorem lawReads (a0 a1 : Option Addr) (n0 c0 n1 c1 : Nat) (K0 K1 : Nat → Nat) (w : World) (hm0 : n0 ≤ maxLen) (hm1 : n1 ≤ maxLen) (ha0 : a0 = none → n0 = 0) (ha1 : a1 = none → n1 = 0) (h0 : VRow w a0 n0 (fun j => .int .u8 (K0 j : Nat))) (h1 : VRow w a1 n1 (fun j => .int .u32 (K1 j : Nat))) (hb0 : ∀ j, j < n0 → K0 j < 256) :
    Calls Try.prog 5 #[.slice a0 n0 c0, .slice a1 n1 c1] w fun e w' => e = .returned (.bool true) ∧ Below w.heap.size w w' := by
  by_cases g0 : n0 + n1 ≤ 1048576
  · by_cases g1 : n0 ≤ 524288
    · by_cases g2 : n1 ≤ 65536
      · by_cases g3 : 1 ≤ n1
        · by_cases gm : 1 ≤ K1 0 ∧ K1 0 ≤ 16384
          · exact lr_main a0 a1 n0 c0 n1 c1 K0 K1 w hm0 hm1 ha0 ha1 h0 h1 hb0 g0 g1 g2 g3 gm
          · exact lr_m a0 a1 n0 c0 n1 c1 K0 K1 w hm0 hm1 ha0 ha1 h0 h1 hb0 g0 g1 g2 g3 gm
        · exact lr_g3 a0 a1 n0 c0 n1 c1 K0 K1 w hm0 hm1 ha0 ha1 h0 h1 hb0 g0 g1 g2 g3
      · exact lr_g2 a0 a1 n0 c0 n1 c1 K0 K1 w hm0 hm1 ha0 ha1 h0 h1 hb0 g0 g1 g2
    · exact lr_g1 a0 a1 n0 c0 n1 c1 K0 K1 w hm0 hm1 ha0 ha1 h0 h1 hb0 g0 g1
  · exact lr_zz a0 a1 n0 c0 n1 c1 K0 K1 w hm0 hm1 ha0 ha1 h0 h1 hb0 g0

end Go.Proofs.Qxb6603826a
