/- decodeList. -/
import Derived.Test.Qxb6603826aDecInv
import Derived.Deep.QuietTactic
import Derived.BigQuiet
import Derived.BigRegion
import Derived.Deep.RegionHeld3
import Derived.Outline
namespace Go.Proofs.Qxb6603826a
open Go.RowKit
set_option linter.unusedVariables false
set_option linter.unusedSimpArgs false

theorem dinfo24 : (Try.prog.info? 24).map (fun i => (i.zero, i.size, i.bytes)) = some (some (.int .u32 0), 1, 4) := by kernel_rfl
theorem dinfo46 : (Try.prog.info? 46).map (fun i => (i.zero, i.size, i.bytes)) = some (some (.agg #[.int .u32 0, .int .u32 0]), 2, 8) := by kernel_rfl

/-- A row of u32 that reads M. -/
def MS (w : World) (g o : Nat) (M : List Nat) : Prop := ∀ j, j < M.length → w.cell? ⟨g, o + j, none⟩ = some (.int .u32 (M.getD j 0 : Nat))
theorem MS.below {w w' : World} {g o : Nat} {M : List Nat} (h : MS w g o M) (hb : Below w.heap.size w w') : MS w' g o M := fun j hj => by
  rw [hb.cell (World.block_lt_of_cell? w _ (h j hj))]
  exact h j hj

set_option maxRecDepth 100000 in
set_option maxHeartbeats 4000000 in
theorem dec_step (f : Nat) (IH : Hid (∀ (vb : Value) (B : List Nat) (gm om cm : Nat) (M : List Nat) (w0 w : World), 1 ≤ M.length → M.length ≤ 65536 → M.length ≤ 2 ^ f → (∀ x, x ∈ M → OkM x) → MS w gm om M → Below w0.heap.size w0 w → BS w0 vb B → nb f M ≤ B.length →
      Calls Try.prog 21 #[vb, .slice (some ⟨gm, om, none⟩) M.length cm] w (DPost w0 w (dec f M B).1 (dec f M B).2)))
    (vb : Value) (B : List Nat) (gm om cm : Nat) (M : List Nat) (w0 w : World) (h1 : 2 ≤ M.length) (h2 : M.length ≤ 65536) (h3 : M.length ≤ 2 ^ (f + 1)) (hM : ∀ x, x ∈ M → OkM x) (hS : MS w gm om M) (hw0 : Below w0.heap.size w0 w) (hB : BS w0 vb B) (hn : nb (f + 1) M ≤ B.length) :
    Calls Try.prog 21 #[vb, .slice (some ⟨gm, om, none⟩) M.length cm] w (DPost w0 w (dec (f + 1) M B).1 (dec (f + 1) M B).2) := by
  obtain ⟨i24, hi24, hz240, hz241, hz242⟩ := info_parts dinfo24
  obtain ⟨i46, hi46, hz460, hz461, hz462⟩ := info_parts dinfo46
  have HM := hide hM
  have HS := hide hS
  rw [dec, if_neg (by omega)]
  rw [nb, if_neg (by omega)] at hn
  have hd := DEq.start (M := M) (B := B) (by omega)
  have HN : Hid (nb f (mr M) ≤ (dl M B).2.length) := by
    show nb f (mr M) ≤ (dl M B).2.length
    rw [dl_rest, List.length_drop]
    omega
  have hLl := dl_length M B
  generalize (dl M B).1 = L at hd hLl ⊢
  generalize (dl M B).2 = Bf at hd HN ⊢
  have hml := mr_length M
  have hmf : (mr M).length ≤ 2 ^ f := by rw [hml]; rw [Nat.pow_succ] at h3; omega
  have hbw := dec_below f (mr M) Bf (by omega) hmf (mr_ok M hM)
  have hih : ∀ (vb : Value) (gm cm : Nat) (wr : World), MS wr gm 0 (mr M) → Below w0.heap.size w0 wr → BS w0 vb Bf → Calls Try.prog 21 #[vb, .slice (some ⟨gm, 0, none⟩) (mr M).length cm] wr (DPost w0 wr (dec f (mr M) Bf).1 (dec f (mr M) Bf).2) :=
    fun vb gm cm wr a b c => unhide IH vb Bf gm 0 cm (mr M) w0 wr (by omega) (by omega) hmf (mr_ok M hM) a b c (unhide HN)
  generalize (dec f (mr M) Bf).1 = UV at hbw hih ⊢
  generalize (dec f (mr M) Bf).2 = Br at hih ⊢
  have hub : UV.length = (mr M).length ∧ ∀ i, i < UV.length → UV.getD i 0 < 16384 := by
    refine ⟨hbw.1, fun i hi => ?_⟩
    have h8 := hbw.2 i hi
    have h9 := (mr_ok M hM ((mr M).getD i 0) (by
      simp only [List.getD, List.getElem?_eq_getElem (show i < (mr M).length by rw [← hbw.1]; exact hi), Option.getD_some]
      exact List.getElem_mem _)).2
    omega
  have hce : CEq M L UV 0 [] (cb M L UV) := rfl
  generalize cb M L UV = G at hce ⊢
  have HIH := hide hih
  have HUB := hide hub
  have HCE := hide hce
  have HML := hide hml
  clear hbw hih hub hce hmf hml IH HN h3
  have HLL := hide hLl
  have HD := hide hd
  have HB := hide hB
  have HW0 := hide hw0
  clear hw0
  clear hM hS hB hd hn hLl
  go_enter Try.func21, Try.ntmps21
  go_wp2_with (at_make; refine wpList_make_own _ rfl _ _ 44 rfl w.heap.size 46 i46 (.agg #[.int .u32 0, .int .u32 0]) 2 Try.underlying44 hi46 hz460 hz461 .i64 .i64 _ (M.length / 2) rfl rfl rfl (by rw [hz462]; omega) (by simp [maxLen]; omega) (Nat.le_refl _) ?_)
  intro w1 hown1 hgrow1
  have hst : DI w w1 (.slice (some ⟨w.heap.size, 0, none⟩) 0 (M.length / 2)) [] (.slice none 0 0) [] :=
    ⟨hown1, World.ownsRow_nil _ _ _ _, .inr (.inl rfl), (Below.refl _ _).grown hgrow1 (Nat.le_refl _) (fun j hj => by cases hj)⟩
  have HST := hide hst
  clear hst hown1 hgrow1
  go_wp2
  go_loopw [0, 9, 10, 11] (fun b p u i wr => ∃ (j k : Nat) (B' : List Nat) (P : List (Nat × Nat)) (U : List Nat), i = .int .i64 j ∧ j ≤ M.length ∧ Hid (j = 2 * k) ∧ Hid (BS w0 b B') ∧ Hid (DI w wr p P u U) ∧ Hid (DEq M k B' P U L Bf (mr M))) (fun _ _ _ i _ => M.length - (intOf i).toNat)
  case atStart => exact ⟨0, 0, B, [], [], rfl, Nat.zero_le _, rfl, HB, HST, HD⟩
  case round =>
    clear HST HB HD
    obtain ⟨j, k, B', P, U, rfl, hj, HJ, HBW, HDI, HDQ⟩ := hrel
    by_cases hlt : j + 1 < M.length
    · have hs := (unhide HS).below (unhide HDI).bel
      have hm0 := hs j (by omega)
      have hm1 := hs (j + 1) (by omega)
      have o0 : OkM (M.getD j 0) := unhide HM _ (by simp only [List.getD, List.getElem?_eq_getElem (show j < M.length by omega), Option.getD_some]; exact List.getElem_mem _)
      have o1 : OkM (M.getD (j + 1) 0) := unhide HM _ (by simp only [List.getD, List.getElem?_eq_getElem hlt, Option.getD_some]; exact List.getElem_mem _)
      have hj2 := unhide HJ
      have hroom := (unhide HDQ).room (m0 := M.getD j 0) (m1 := M.getD (j + 1) 0) (by omega) (by rw [hj2]) (by rw [hj2])
      have hnext := (unhide HDQ).pair (unhide HBW).1 (m0 := M.getD j 0) (m1 := M.getD (j + 1) 0) (by omega) (by rw [hj2]) (by rw [hj2])
      have hPl := (unhide HDQ).kp
      have hUl := (unhide HDQ).ku
      have hPl' : P.length ≤ 65536 := by omega
      have hUl' : U.length ≤ 65536 := by omega
      clear hs hPl hUl hj2
      generalize M.getD j 0 = m0 at hm0 o0 hroom hnext
      generalize M.getD (j + 1) 0 = m1 at hm1 o1 hroom hnext
      obtain ⟨hn1, hn2⟩ := pair_bound o0 o1
      have hq3 : (0 : Int) ≤ (m0 : Int) * (m1 : Int) := by rw [← Int.natCast_mul]; omega
      have hq4 : (m0 : Int) * (m1 : Int) ≤ 268435456 := by rw [← Int.natCast_mul]; omega
      unfold pk pn at hnext
      unfold pk at hroom
      have hie : IEq 2 (m0 * m1) 0 1 B' (fromB (B'.take (sk 16384 2 (m0 * m1)))) (B'.drop (sk 16384 2 (m0 * m1))) (256 ^ sk 16384 2 (m0 * m1)) (sn 16384 2 (m0 * m1)) := ⟨by simp, rfl, by simp, rfl, hroom⟩
      generalize fromB (B'.take (sk 16384 2 (m0 * m1))) = LV at hie hnext
      generalize B'.drop (sk 16384 2 (m0 * m1)) = BD at hie hnext
      generalize 256 ^ sk 16384 2 (m0 * m1) = SC at hie hnext
      generalize sn 16384 2 (m0 * m1) = NN at hie hnext
      have HNX := hide hnext
      have HIE := hide hie
      have HLB : Hid (LB w (wr.alloc (.cells #[.int .u32 0, .int .u32 1] 46)) wr.heap.size u9 u10 0 1) := LB.start (unhide HDI) 0 1
      have HDJ : Hid (DI w (wr.alloc (.cells #[.int .u32 0, .int .u32 1] 46)) u9 P u10 U) := (unhide HDI).alloc _
      have hk0 : (wr.alloc (.cells #[.int .u32 0, .int .u32 1] 46)).cell? ⟨gm, om + j, none⟩ = some (.int .u32 (m0 : Nat)) := by
        rw [((Below.refl wr.heap.size wr).alloc (Nat.le_refl _) _).cell (World.block_lt_of_cell? wr _ hm0)]; exact hm0
      have hk1 : (wr.alloc (.cells #[.int .u32 0, .int .u32 1] 46)).cell? ⟨gm, om + (j + 1), none⟩ = some (.int .u32 (m1 : Nat)) := by
        rw [((Below.refl wr.heap.size wr).alloc (Nat.le_refl _) _).cell (World.block_lt_of_cell? wr _ hm1)]; exact hm1
      clear hnext hroom o0 o1 HDQ hie hm0 hm1 HDI
      have hl1 : (j : Int) < (M.length : Int) := by omega
      have hl2 : (j : Int) + 1 < (M.length : Int) := by omega
      go_wp2
      generalize wr.alloc (.cells #[.int .u32 0, .int .u32 1] 46) = w2 at HLB HDJ hk0 hk1 ⊢
      generalize wr.heap.size = gl at HLB ⊢
      go_quiet (fail)
      go_wp2
      have hE13 : (m0 : Int) * (m1 : Int) = ((m0 * m1 : Nat) : Int) := by simp
      rw [hE13]
      clear hq3 hq4 hE13 hk0 hk1
      generalize m0 * m1 = nn at *
      go_loopw [0, 13] (fun b n wr => ∃ (i f nn v sc : Nat) (B2 : List Nat), n = .int .u32 nn ∧ nn ≤ 268435456 ∧ nn ≤ 16383 * 256 ^ f ∧ i + f = 2 ∧ Hid (sc = 256 ^ i ∧ v < sc) ∧ Hid (BS w0 b B2) ∧ Hid (DI w wr u9 P u10 U) ∧ Hid (LB w wr gl u9 u10 v sc) ∧ Hid (IEq f nn v sc B2 LV BD SC NN)) (fun _ n _ => (intOf n).toNat)
      case atStart => exact ⟨0, 2, nn, 0, 1, B', rfl, hn2, by omega, rfl, ⟨rfl, by omega⟩, HBW, (unhide HDJ).drewN _, (unhide HLB).drewN _, HIE⟩
      case round =>
        clear HDJ HLB HIE HBW
        obtain ⟨i, f, nn, v, sc, B2, rfl, hnn, hnf, hif, HV, HBW, HDI, HLB, HIE⟩ := hrel
        by_cases hT : 16384 ≤ nn
        · cases f with
          | zero => simp at hnf; omega
          | succ f =>
          obtain ⟨b, B3, rfl, hie⟩ := (unhide HIE).step hT
          obtain ⟨hb, g, o, vb1, hix, hc, hsl, hB3⟩ := (unhide HBW).uncons
          have hbel := (unhide HW0).trans ((unhide HDI).bel.mono (unhide HW0).size)
          rw [← hbel.cell (World.block_lt_of_cell? w0 _ hc)] at hc
          obtain ⟨hs1, hs2⟩ := unhide HV
          have hs3 : sc ≤ 256 := by
            rw [hs1]
            have : i ≤ 1 := by omega
            rcases (show i = 0 ∨ i = 1 by omega) with e | e <;> rw [e] <;> decide
          have hbs : b * sc ≤ 255 * sc := Nat.mul_le_mul_right _ (by omega)
          have hq1 : (0 : Int) ≤ (b : Int) * (sc : Int) := by rw [← Int.natCast_mul]; omega
          have hq2 : (b : Int) * (sc : Int) ≤ 65280 := by rw [← Int.natCast_mul]; omega
          have c0 := (unhide HLB).cell0
          have c1 := (unhide HLB).cell1
          have f0 := (unhide HLB).free 0
          have f1 := (unhide HLB).free 1
          have HIE2 := hide hie
          have HB3 := hide hB3
          have hv1 : v ≤ 255 := by omega
          have HV2 : Hid (sc * 256 = 256 ^ (i + 1) ∧ v + b * sc < sc * 256) := ⟨by rw [Nat.pow_succ, ← hs1], by omega⟩
          clear hie hB3 hbel hs1 hs2 hbs HBW HIE
          go_wp2
          go_region
          have hcast : (v : Int) + (b : Int) * (sc : Int) = ((v + b * sc : Nat) : Int) := by simp
          rw [hcast]
          have HL1 := hide ((unhide HLB).set0 (v + b * sc)).drew
          have HD1 := hide ((unhide HDI).setL (unhide HLB) 0 (.int .u32 ((v + b * sc : Nat) : Int))).drew
          clear hcast hq1 hq2 HLB HDI c0 c1 f0 f1 hc hix
          generalize v + b * sc = v' at HL1 HD1 HV2 HIE2 ⊢
          generalize (wr.setCell ⟨gl, 0, none⟩ (.int .u32 (v' : Int))).drew = w3 at HL1 HD1 ⊢
          have c1 := (unhide HL1).cell1
          have f1 := (unhide HL1).free 1
          go_wp2
          go_region
          have hcast : (sc : Int) * 256 = ((sc * 256 : Nat) : Int) := by simp
          rw [hcast]
          have HL2 := hide ((unhide HL1).set1 (sc * 256)).drew
          have HD2 := hide ((unhide HD1).setL (unhide HL1) 1 (.int .u32 ((sc * 256 : Nat) : Int))).drew
          clear hcast HL1 HD1 c1 f1 hsl
          generalize sc * 256 = sc' at HL2 HD2 HV2 HIE2 ⊢
          generalize (w3.setCell ⟨gl, 1, none⟩ (.int .u32 (sc' : Int))).drew = w4 at HL2 HD2 ⊢
          have hcf : cut nn ≤ 16383 * 256 ^ f := cut_le (by rw [Nat.pow_succ] at hnf; rw [Nat.mul_assoc]; exact hnf)
          have hcn : cut nn = (nn + 255) / 256 := rfl
          have HCF := hide hcf
          have HCN := hide hcn
          clear hcf hcn
          go_wp2
          go_roundw
          case rel => exact ⟨i + 1, f, cut nn, v', sc', B3, by rw [unhide HCN]; go_num, by rw [unhide HCN]; omega, unhide HCF, by omega, HV2, HB3, HD2, HL2, HIE2⟩
          case measure => simp [intOf]; omega
        · obtain ⟨rfl, rfl, rfl, rfl⟩ := (unhide HIE).stop (by omega)
          have c0 := (unhide HLB).cell0
          have c1 := (unhide HLB).cell1
          have op := (unhide HDI).op
          have hsz := (unhide HDI).bel.size
          have hT' : ¬ (16384 : Int) ≤ (nn : Int) := by omega
          clear HLB HIE HV
          go_wp2_with (at_builtin; refine wpList_append_lies _ (by rfl) _ _ 44 (by rfl) w.heap.size 46 i46 (.agg #[.int .u32 0, .int .u32 0]) 2 8 Try.underlying44 hi46 hz460 hz461 hz462 rfl (by omega) _ P.length (cp P) (by rfl) (op.alloc _) ⟨wr.heap.size, 0, none⟩ 1 1 [.int .u32 (v : Int), .int .u32 (sc : Int)] (by rfl) rfl (World.news_of_block (cs := #[.int .u32 (v : Int), .int .u32 (sc : Int)]) (t := 46) (fr := (0, 0)) (heap_alloc_new wr _)) (by simp [Value.oneCell']) (by omega) (by simp [maxLen]; omega) (by omega) (by simp; omega) (wr.heap.size + 1) (by simp) ?_)
          intro g cap w5 own1 gr1 hat1 hlt1
          have E1 := hide (((unhide HDI).alloc _).pushP own1 gr1 (by rcases hat1 with h | h; exact .inl h; exact .inr (by simp; omega)))
          clear own1 gr1 hat1 op HDI hsz c0 c1
          have ou := (unhide E1).ou
          have hsz := (unhide E1).bel.size
          go_wp2_with (at_builtin; refine wpList_append_lies _ (by rfl) _ _ 23 (by rfl) w.heap.size 24 i24 (.int .u32 0) 1 4 Try.underlying23 hi24 hz240 hz241 hz242 rfl (by omega) _ U.length (c32 U) (by rfl) (ou.alloc _) ⟨w5.heap.size, 0, none⟩ 1 1 [.int .u32 (nn : Int)] (by rfl) rfl (cell_one_new _ _ _) (by simp [Value.oneCell']) (by omega) (by simp [maxLen]; omega) (by omega) (by simp; omega) (w5.heap.size + 1) (by simp) ?_)
          intro g2 cap2 w6 own2 gr2 hat2 hlt2
          have E2 := hide (((unhide E1).alloc _).pushU own2 gr2 (by rcases hat2 with h | h; exact .inl h; exact .inr (by simp; omega)))
          clear own2 gr2 hat2 ou E1 hsz
          go_wp2
          go_roundw
          case rel => exact ⟨j + 2, k + 1, B2, P ++ [(v, sc)], U ++ [nn], by go_num, by omega, by have := unhide HJ; show j + 2 = 2 * (k + 1); omega, HBW, E2, HNX⟩
          case measure => simp [intOf]; omega
    · have hn' : ¬ (j : Int) + 1 < (M.length : Int) := by omega
      have hj2 := unhide HJ
      have hPl := (unhide HDQ).kp
      have hUl := (unhide HDQ).ku
      have hMl := unhide HML
      by_cases hodd : M.length % 2 = 1
      · obtain ⟨r1, r2, r3⟩ := (unhide HDQ).odd (by omega)
        have hjl : j = M.length - 1 := by omega
        have hm0 := ((unhide HS).below (unhide HDI).bel) j (by omega)
        rw [← hj2] at r3
        generalize M.getD j 0 = m0 at hm0 r3
        have hUl' : U.length ≤ 65536 := by omega
        have HSC := hide (unhide HDQ).s
        have HPU : Hid (P.length = k ∧ 2 * k + 1 = M.length ∧ UV.length = k + 1) := ⟨hPl, by omega, by have := (unhide HUB).1; omega⟩
        have hPp : 0 < P.length := by omega
        subst r1 r2
        have HR3 := hide r3
        have hul : U.length + 1 = (mr M).length := by omega
        have HUL := hide hul
        clear r3 HDQ hPl hUl hMl hj2 HJ hul
        have ou := (unhide HDI).ou
        have hsz := (unhide HDI).bel.size
        have hm1 : (M.length : Int) % 2 = 1 := by omega
        have hk1 : (M.length : Int) - 1 = (j : Int) := by omega
        have hk2 : (0 : Int) ≤ (j : Int) := by omega
        have hk3 : (j : Int) < (M.length : Int) := by omega
        clear hjl hlt hodd
        go_wp2_with (at_builtin; refine wpList_append_lies _ (by rfl) _ _ 23 (by rfl) w.heap.size 24 i24 (.int .u32 0) 1 4 Try.underlying23 hi24 hz240 hz241 hz242 rfl (by omega) _ U.length (c32 U) (by rfl) (ou.alloc _) ⟨wr.heap.size, 0, none⟩ 1 1 [.int .u32 (m0 : Int)] (by rfl) rfl (cell_one_new _ _ _) (by simp [Value.oneCell']) (by omega) (by simp [maxLen]; omega) (by omega) (by simp; omega) (wr.heap.size + 1) (by simp) ?_)
        intro g2 cap2 w6 own2 gr2 hat2 hlt2
        have E2 := hide (((unhide HDI).alloc _).pushU own2 gr2 (by rcases hat2 with h | h; exact .inl h; exact .inr (by simp; omega)))
        clear own2 gr2 hat2 ou HDI hsz hm0
        have hE2 := unhide E2
        rw [unhide HR3, unhide HUL] at hE2
        have E2 := hide hE2
        clear hE2 hk1 hk2 hk3
        rw [unhide HUL]

        obtain ⟨gp, cpp, hvp, -, -⟩ := (unhide E2).op.form hPp
        subst hvp
        go_wp2_with fail
        refine (unhide HIH u0 g2 cap2 w6 (fun i hi => by
          have h9 := (unhide E2).ou.cellAt i (by omega)
          rw [c32_get _ hi] at h9
          rw [Nat.zero_add]
          exact h9) ((unhide HW0).trans ((unhide E2).bel.mono (unhide HW0).size)) (unhide HBW)).mono ?_
        rintro e w5 ⟨vuv, vb2, rfl, own5, hb5, bel5⟩
        obtain ⟨hp1, hp2, hp3⟩ := unhide HPU
        obtain ⟨gu, cu, hvu, -, -⟩ := own5.form (by omega)
        subst hvu
        have OWN5 := hide own5
        have BEL5 := hide bel5
        have HB5 := hide hb5
        have hsz5 : w.heap.size ≤ w5.heap.size := Nat.le_trans (unhide E2).bel.size bel5.size
        clear own5 bel5 hb5 HIH hp1 hp2 hp3
        go_wp2_with (at_make; refine wpList_make_own _ rfl _ _ 23 rfl w.heap.size 24 i24 (.int .u32 0) 1 Try.underlying23 hi24 hz240 hz241 .i64 .i64 _ M.length rfl rfl rfl (by rw [hz242]; omega) (by simp [maxLen]; omega) hsz5 ?_)
        intro w7 hown7 hgrow7
        have HFI := hide (FI.start (unhide E2) (unhide BEL5) (unhide OWN5) hown7 hgrow7)
        clear hown7 hgrow7 hsz5 OWN5 BEL5 E2
        have hPP : P.length ≤ 65536 := by have := unhide HPU; omega
        go_wp2
        go_loopw [15, 125] (fun vv i wr => ∃ (k : Nat) (Vs : List Nat), i = .int .i64 k ∧ k ≤ P.length ∧ Hid (Vs.length = 2 * k) ∧ Hid (FI w wr (.slice (some ⟨gp, 0, none⟩) P.length cpp) P (.slice (some ⟨gu, 0, none⟩) UV.length cu) UV vv Vs) ∧ Hid (CEq M (P.map Prod.fst) UV k Vs G)) (fun _ i _ => P.length - (intOf i).toNat)
        case atStart => exact ⟨0, [], rfl, Nat.zero_le _, rfl, HFI, HCE⟩
        case round =>
          clear HFI HCE
          have hpu := unhide HPU
          clear HBW
          obtain ⟨i, Vs, rfl, hi, HVL, HFI, HCE⟩ := hrel
          by_cases hlt : i < P.length
          · obtain ⟨p0, p1⟩ := cp_get P hlt
            have hc0 := (unhide HFI).op.cellAt (i * 2) (by omega)
            have hc1 := (unhide HFI).op.cellAt (i * 2 + 1) (by omega)
            rw [p0] at hc0
            rw [p1] at hc1
            have HF2 := hide ((unhide HFI).alloc (.cells #[.int .u32 ((P.getD i (0, 0)).1 : Int), .int .u32 ((P.getD i (0, 0)).2 : Int)] 46))
            have hu0 := (unhide HF2).ou.cellAt i (by omega)
            rw [c32_get UV (by omega)] at hu0
            have hs := (unhide HS).below (unhide HF2).bel
            obtain ⟨t, ht⟩ : ∃ t, t = 2 * i := ⟨_, rfl⟩
            have hm0 := hs t (by omega)
            have hm1' := hs (t + 1) (by omega)
            have o0 : OkM (M.getD t 0) := unhide HM _ (by simp only [List.getD, List.getElem?_eq_getElem (show t < M.length by omega), Option.getD_some]; exact List.getElem_mem _)
            have o1 : OkM (M.getD (t + 1) 0) := unhide HM _ (by simp only [List.getD, List.getElem?_eq_getElem (show t + 1 < M.length by omega), Option.getD_some]; exact List.getElem_mem _)
            obtain ⟨hsc, hl9⟩ := unhide HSC i hlt
            rw [← ht] at hsc
            have hce := (unhide HCE).pair (m0 := M.getD t 0) (m1 := M.getD (t + 1) 0) (l := (P.getD i (0, 0)).1) (u := UV.getD i 0) (by omega) (by simpa using hlt) (by omega) (by rw [ht]) (by rw [ht]) (by simp [List.getD, hlt]) rfl
            rw [← hsc] at hce
            have hu1 := (unhide HUB).2 i (by omega)
            have hb0 := heap_alloc_new wr (.cells #[.int .u32 ((P.getD i (0, 0)).1 : Int), .int .u32 ((P.getD i (0, 0)).2 : Int)] 46)
            have hl0 := cell_of_row _ wr.heap.size 0 _ _ _ hb0
            have hl1 := cell_of_row _ wr.heap.size 1 _ _ _ hb0
            simp only [List.getElem?_toArray, List.getElem?_cons_zero, List.getElem?_cons_succ] at hl0 hl1
            have hs9 : (P.getD i (0, 0)).2 ≤ 65536 := by
              rw [hsc]
              have h9 := sk_le 16384 2 (M.getD t 0 * M.getD (t + 1) 0)
              have h8 : pk (M.getD t 0) (M.getD (t + 1) 0) ≤ 2 := h9
              exact Nat.le_trans (Nat.pow_le_pow_right (by decide) h8) (by decide)
            clear hs hsc hb0 p0 p1 HCE HFI
            generalize (P.getD i (0, 0)).1 = l at *
            generalize (P.getD i (0, 0)).2 = sc at *
            generalize UV.getD i 0 = u at *
            generalize M.getD t 0 = m0 at *
            generalize M.getD (t + 1) 0 = m1 at *
            have hsu : sc * u ≤ 65536 * 16384 := Nat.mul_le_mul hs9 (by omega)
            have hq1 : (0 : Int) ≤ (sc : Int) * (u : Int) := by rw [← Int.natCast_mul]; omega
            have hq2 : (sc : Int) * (u : Int) ≤ 1073741824 := by rw [← Int.natCast_mul]; omega
            have HCE2 := hide hce
            have hi1 : (i : Int) < (P.length : Int) := by omega
            have hi2 : (i : Int) < (UV.length : Int) := by omega
            have HT := hide ht
            have HPU2 := hide hpu
            have m0p : 1 ≤ m0 := o0.1
            have m1p : 1 ≤ m1 := o1.1
            have htm : t + 1 < M.length := by omega
            have hVl : Vs.length ≤ 131072 := by have := unhide HVL; omega
            clear hce hsu o0 o1 ht hpu
            have LGM := hide (Nat.lt_of_lt_of_le (World.block_lt_of_cell? w _ (unhide HS 0 (by omega))) (unhide HF2).bel.size)
            have NV : Hid (u15.ownBlock ≠ some gm) := fun e => by
              have h8 := ((unhide HF2).ov.lt gm e).1
              have h9 := World.block_lt_of_cell? w _ (unhide HS 0 (by omega))
              simp only at h9
              omega
            go_wp2
            generalize wr.alloc (.cells #[.int .u32 (l : Int), .int .u32 (sc : Int)] 46) = W2 at HF2 hu0 hm0 hm1' hl0 hl1 LGM ⊢
            generalize wr.heap.size = gl at hl0 hl1 ⊢
            go_quiet (fail)
            go_wp2
            have hcast : (l : Int) + (sc : Int) * (u : Int) = ((l + sc * u : Nat) : Int) := by simp
            rw [hcast]
            have HF3 := hide ((unhide HF2).drewN nq)
            have hn0 : (W2.drewN nq).cell? ⟨gm, om + t, none⟩ = some (.int .u32 (m0 : Nat)) := hm0
            have hn1 : (W2.drewN nq).cell? ⟨gm, om + (t + 1), none⟩ = some (.int .u32 (m1 : Nat)) := hm1'
            have LG3 : Hid (gm < (W2.drewN nq).heap.size) := unhide LGM
            have hx9 : l + sc * u ≤ 1073807360 := by omega
            clear hcast hq1 hq2 hl0 hl1 hu0 hm0 hm1' HF2 hu1 hs9 hl9 LGM hc0 hc1
            generalize l + sc * u = x at HCE2 hx9 ⊢
            generalize W2.drewN nq = W3 at HF3 hn0 hn1 LG3 ⊢
            have hz0 : ¬ (m0 : Int) = 0 := by omega
            have hz1 : ¬ (m1 : Int) = 0 := by omega
            have ht0 : (0 : Int) ≤ (t : Int) := by omega
            have ht9 : (0 : Int) ≤ (t : Int) + 1 := by omega
            have ht1 : (t : Int) + 1 < (M.length : Int) := by omega
            have ht2 : (t : Int) < (M.length : Int) := by omega
            have hw1 : IntKind.i64.wrap (2 * (i : Int)) = (t : Int) := by have := unhide HT; rw [IntKind.wrap_i64]; omega
            have hw2 : IntKind.i64.wrap ((t : Int) + 1) = (t : Int) + 1 := by rw [IntKind.wrap_i64]; omega
            have hd1 : (x : Int) / (m0 : Int) ≤ 1073807360 := by
              have h9 := Nat.le_trans (Nat.div_le_self x m0) hx9
              rw [← Int.natCast_ediv]
              generalize x / m0 = y at h9 ⊢
              omega
            have hd0 : (0 : Int) ≤ (x : Int) / (m0 : Int) := by rw [← Int.natCast_ediv]; exact Int.natCast_nonneg _
            have hy0 : ¬ m0 = 0 := by omega
            have hy1 : ¬ m1 = 0 := by omega
            have hq1 : IntKind.u32.wrap ((x : Int) / (m0 : Int)) = (x : Int) / (m0 : Int) := by
              rw [IntKind.wrap_u32]
              exact Int.emod_eq_of_lt hd0 (by omega)
            have hq3 : (x : Int) / (m0 : Int) % 4294967296 = (x : Int) / (m0 : Int) := Int.emod_eq_of_lt hd0 (by omega)
            have hq2 : IntKind.u32.wrap ((x : Int).tdiv (m0 : Int)) = (x : Int) / (m0 : Int) := by
              rw [Int.tdiv_eq_ediv_of_nonneg (by omega)]
              exact hq1
            have hq4 : (x : Int).tmod (m0 : Int) = (x : Int) % (m0 : Int) := Int.tmod_eq_emod_of_nonneg (by omega)
            have hq5 : ((x : Int) / (m0 : Int)).tmod (m1 : Int) = (x : Int) / (m0 : Int) % (m1 : Int) := Int.tmod_eq_emod_of_nonneg hd0
            clear hd0 hd1
            go_region_held3 (fun w' => w'.cell? ⟨gm, om + t, none⟩ = some (.int .u32 m0) ∧ w'.cell? ⟨gm, om + (t + 1), none⟩ = some (.int .u32 m1))
              (first
                | go_keep
                | (go_split_ands
                   have lgm := unhide LG3
                   refine ⟨?_, ?_⟩
                   · (rw [gr1.cell_far _ (by simp; omega) (Ne.symm (unhide NV))]; assumption)
                   · (rw [gr1.cell_far _ (by simp; omega) (Ne.symm (unhide NV))]; assumption)))
              ((refine step_append_lies _ (by rfl) _ _ 23 (by rfl) w.heap.size 24 i24 (.int .u32 0) 1 4 Try.underlying23 hi24 hz240 hz241 hz242 rfl (by omega) u15 Vs.length (c32 Vs) (by rfl) (FI.ov (by repeat (first | exact unhide HF3 | apply FI.alloc | apply FI.drew | apply FI.drewN))) ⟨_, 0, none⟩ 2 2 [.int .u32 ((x : Int) % (m0 : Int)), .int .u32 ((x : Int) / (m0 : Int) % (m1 : Int))] (by rfl) rfl (World.news_of_block (cs := #[.int .u32 ((x : Int) % (m0 : Int)), .int .u32 ((x : Int) / (m0 : Int) % (m1 : Int))]) (t := 24) (fr := (0, 0)) (by simp only [dheap_drew, dheap_alloc, Array.size_push]; exact dblk _ _)) (by simp [Value.oneCell']) (by omega) (by simp [maxLen]; omega) (by omega) (by have h9 := (unhide HF3).bel.size; simp; omega) _ rfl ?_
                intro g cap w8 own1 gr1 hat1 hlt1
                have HF4 := hide (FI.push (w := w) (news := [x % m0, x / m0 % m1]) (by repeat (first | exact unhide HF3 | apply FI.alloc | apply FI.drew | apply FI.drewN)) own1 gr1 (by rcases hat1 with h | h; exact .inl h; exact .inr (Nat.le_of_eq h.symm)))))
            clear own1 gr1 hat1 hlt1 HF3 hn0 hn1
            go_wp2
            go_roundw
            case rel => exact ⟨i + 1, Vs ++ [x % m0, x / m0 % m1], by go_num, by omega, by have := unhide HVL; show (Vs ++ [x % m0, x / m0 % m1]).length = _; simp; omega, HF4, HCE2⟩
            case measure => simp [intOf]; omega
          · have hi' : i = P.length := by omega
            subst hi'
            have hg := (unhide HCE).odd (by omega) (by omega)
            have hu0 := (unhide HFI).ou.cellAt P.length (by omega)
            rw [c32_get UV (by omega)] at hu0
            generalize UV.getD P.length 0 = u at hu0 hg
            have HG := hide hg
            have hVl : Vs.length ≤ 131072 := by have := unhide HVL; omega
            have ov := (unhide HFI).ov
            have hsz := (unhide HFI).bel.size
            have hk1 : (UV.length : Int) - 1 = (P.length : Int) := by omega
            have hk2 : (0 : Int) ≤ (P.length : Int) := by omega
            have hk3 : (P.length : Int) < (UV.length : Int) := by omega
            clear hg HCE hpu HPU HVL hlt
            go_wp2_with (at_builtin; refine wpList_append_lies _ (by rfl) _ _ 23 (by rfl) w.heap.size 24 i24 (.int .u32 0) 1 4 Try.underlying23 hi24 hz240 hz241 hz242 rfl (by omega) _ Vs.length (c32 Vs) (by rfl) (ov.alloc _) ⟨wr.heap.size, 0, none⟩ 1 1 [.int .u32 (u : Int)] (by rfl) rfl (cell_one_new _ _ _) (by simp [Value.oneCell']) (by omega) (by simp [maxLen]; omega) (by omega) (by simp; omega) (wr.heap.size + 1) (by simp) ?_)
            intro g cap w8 own1 gr1 hat1 hlt1
            have hF4 := FI.push (w := w) (news := [u]) ((unhide HFI).alloc _) own1 gr1 (by rcases hat1 with h | h; exact .inl h; exact .inr (by simp; omega))
            rw [unhide HG] at hF4
            have HF4 := hide hF4
            clear own1 gr1 hat1 ov HFI hsz hF4
            go_wp2
            go_ret2
            exact ⟨_, _, rfl, (unhide HF4).ov, unhide HB5, (unhide HF4).bel⟩
      · obtain ⟨r1, r2, r3⟩ := (unhide HDQ).even (by omega)
        have HSC := hide (unhide HDQ).s
        have HPU : Hid (P.length = k ∧ 2 * k = M.length ∧ UV.length = k) := ⟨hPl, by omega, by have := (unhide HUB).1; omega⟩
        have hPp : 0 < P.length := by omega
        have hUp : 0 < U.length := by omega
        subst r1 r2
        obtain ⟨g2, cap2, hvu, -, -⟩ := (unhide HDI).ou.form hUp
        subst hvu
        have hul : U.length = (mr M).length := by omega
        have hE2 := unhide HDI
        rw [r3] at hE2
        have E2 := hide hE2
        rw [r3]
        have hm1 : (M.length : Int) % 2 = 0 := by omega
        clear r3 HDQ hPl hUl hMl hj2 HJ hul hUp hE2 HDI hlt hodd
        generalize hw6 : wr = w6 at *
        clear hw6

        obtain ⟨gp, cpp, hvp, -, -⟩ := (unhide E2).op.form hPp
        subst hvp
        go_wp2_with fail
        refine (unhide HIH u0 g2 cap2 w6 (fun i hi => by
          have h9 := (unhide E2).ou.cellAt i (by omega)
          rw [c32_get _ hi] at h9
          rw [Nat.zero_add]
          exact h9) ((unhide HW0).trans ((unhide E2).bel.mono (unhide HW0).size)) (unhide HBW)).mono ?_
        rintro e w5 ⟨vuv, vb2, rfl, own5, hb5, bel5⟩
        obtain ⟨hp1, hp2, hp3⟩ := unhide HPU
        obtain ⟨gu, cu, hvu, -, -⟩ := own5.form (by omega)
        subst hvu
        have OWN5 := hide own5
        have BEL5 := hide bel5
        have HB5 := hide hb5
        have hsz5 : w.heap.size ≤ w5.heap.size := Nat.le_trans (unhide E2).bel.size bel5.size
        clear own5 bel5 hb5 HIH hp1 hp2 hp3
        go_wp2_with (at_make; refine wpList_make_own _ rfl _ _ 23 rfl w.heap.size 24 i24 (.int .u32 0) 1 Try.underlying23 hi24 hz240 hz241 .i64 .i64 _ M.length rfl rfl rfl (by rw [hz242]; omega) (by simp [maxLen]; omega) hsz5 ?_)
        intro w7 hown7 hgrow7
        have HFI := hide (FI.start (unhide E2) (unhide BEL5) (unhide OWN5) hown7 hgrow7)
        clear hown7 hgrow7 hsz5 OWN5 BEL5 E2
        have hPP : P.length ≤ 65536 := by have := unhide HPU; omega
        go_wp2
        go_loopw [15, 125] (fun vv i wr => ∃ (k : Nat) (Vs : List Nat), i = .int .i64 k ∧ k ≤ P.length ∧ Hid (Vs.length = 2 * k) ∧ Hid (FI w wr (.slice (some ⟨gp, 0, none⟩) P.length cpp) P (.slice (some ⟨gu, 0, none⟩) UV.length cu) UV vv Vs) ∧ Hid (CEq M (P.map Prod.fst) UV k Vs G)) (fun _ i _ => P.length - (intOf i).toNat)
        case atStart => exact ⟨0, [], rfl, Nat.zero_le _, rfl, HFI, HCE⟩
        case round =>
          clear HFI HCE
          have hpu := unhide HPU
          clear HBW
          obtain ⟨i, Vs, rfl, hi, HVL, HFI, HCE⟩ := hrel
          by_cases hlt : i < P.length
          · obtain ⟨p0, p1⟩ := cp_get P hlt
            have hc0 := (unhide HFI).op.cellAt (i * 2) (by omega)
            have hc1 := (unhide HFI).op.cellAt (i * 2 + 1) (by omega)
            rw [p0] at hc0
            rw [p1] at hc1
            have HF2 := hide ((unhide HFI).alloc (.cells #[.int .u32 ((P.getD i (0, 0)).1 : Int), .int .u32 ((P.getD i (0, 0)).2 : Int)] 46))
            have hu0 := (unhide HF2).ou.cellAt i (by omega)
            rw [c32_get UV (by omega)] at hu0
            have hs := (unhide HS).below (unhide HF2).bel
            obtain ⟨t, ht⟩ : ∃ t, t = 2 * i := ⟨_, rfl⟩
            have hm0 := hs t (by omega)
            have hm1' := hs (t + 1) (by omega)
            have o0 : OkM (M.getD t 0) := unhide HM _ (by simp only [List.getD, List.getElem?_eq_getElem (show t < M.length by omega), Option.getD_some]; exact List.getElem_mem _)
            have o1 : OkM (M.getD (t + 1) 0) := unhide HM _ (by simp only [List.getD, List.getElem?_eq_getElem (show t + 1 < M.length by omega), Option.getD_some]; exact List.getElem_mem _)
            obtain ⟨hsc, hl9⟩ := unhide HSC i hlt
            rw [← ht] at hsc
            have hce := (unhide HCE).pair (m0 := M.getD t 0) (m1 := M.getD (t + 1) 0) (l := (P.getD i (0, 0)).1) (u := UV.getD i 0) (by omega) (by simpa using hlt) (by omega) (by rw [ht]) (by rw [ht]) (by simp [List.getD, hlt]) rfl
            rw [← hsc] at hce
            have hu1 := (unhide HUB).2 i (by omega)
            have hb0 := heap_alloc_new wr (.cells #[.int .u32 ((P.getD i (0, 0)).1 : Int), .int .u32 ((P.getD i (0, 0)).2 : Int)] 46)
            have hl0 := cell_of_row _ wr.heap.size 0 _ _ _ hb0
            have hl1 := cell_of_row _ wr.heap.size 1 _ _ _ hb0
            simp only [List.getElem?_toArray, List.getElem?_cons_zero, List.getElem?_cons_succ] at hl0 hl1
            have hs9 : (P.getD i (0, 0)).2 ≤ 65536 := by
              rw [hsc]
              have h9 := sk_le 16384 2 (M.getD t 0 * M.getD (t + 1) 0)
              have h8 : pk (M.getD t 0) (M.getD (t + 1) 0) ≤ 2 := h9
              exact Nat.le_trans (Nat.pow_le_pow_right (by decide) h8) (by decide)
            clear hs hsc hb0 p0 p1 HCE HFI
            generalize (P.getD i (0, 0)).1 = l at *
            generalize (P.getD i (0, 0)).2 = sc at *
            generalize UV.getD i 0 = u at *
            generalize M.getD t 0 = m0 at *
            generalize M.getD (t + 1) 0 = m1 at *
            have hsu : sc * u ≤ 65536 * 16384 := Nat.mul_le_mul hs9 (by omega)
            have hq1 : (0 : Int) ≤ (sc : Int) * (u : Int) := by rw [← Int.natCast_mul]; omega
            have hq2 : (sc : Int) * (u : Int) ≤ 1073741824 := by rw [← Int.natCast_mul]; omega
            have HCE2 := hide hce
            have hi1 : (i : Int) < (P.length : Int) := by omega
            have hi2 : (i : Int) < (UV.length : Int) := by omega
            have HT := hide ht
            have HPU2 := hide hpu
            have m0p : 1 ≤ m0 := o0.1
            have m1p : 1 ≤ m1 := o1.1
            have htm : t + 1 < M.length := by omega
            have hVl : Vs.length ≤ 131072 := by have := unhide HVL; omega
            clear hce hsu o0 o1 ht hpu
            have LGM := hide (Nat.lt_of_lt_of_le (World.block_lt_of_cell? w _ (unhide HS 0 (by omega))) (unhide HF2).bel.size)
            have NV : Hid (u15.ownBlock ≠ some gm) := fun e => by
              have h8 := ((unhide HF2).ov.lt gm e).1
              have h9 := World.block_lt_of_cell? w _ (unhide HS 0 (by omega))
              simp only at h9
              omega
            go_wp2
            generalize wr.alloc (.cells #[.int .u32 (l : Int), .int .u32 (sc : Int)] 46) = W2 at HF2 hu0 hm0 hm1' hl0 hl1 LGM ⊢
            generalize wr.heap.size = gl at hl0 hl1 ⊢
            go_quiet (fail)
            go_wp2
            have hcast : (l : Int) + (sc : Int) * (u : Int) = ((l + sc * u : Nat) : Int) := by simp
            rw [hcast]
            have HF3 := hide ((unhide HF2).drewN nq)
            have hn0 : (W2.drewN nq).cell? ⟨gm, om + t, none⟩ = some (.int .u32 (m0 : Nat)) := hm0
            have hn1 : (W2.drewN nq).cell? ⟨gm, om + (t + 1), none⟩ = some (.int .u32 (m1 : Nat)) := hm1'
            have LG3 : Hid (gm < (W2.drewN nq).heap.size) := unhide LGM
            have hx9 : l + sc * u ≤ 1073807360 := by omega
            clear hcast hq1 hq2 hl0 hl1 hu0 hm0 hm1' HF2 hu1 hs9 hl9 LGM hc0 hc1
            generalize l + sc * u = x at HCE2 hx9 ⊢
            generalize W2.drewN nq = W3 at HF3 hn0 hn1 LG3 ⊢
            have hz0 : ¬ (m0 : Int) = 0 := by omega
            have hz1 : ¬ (m1 : Int) = 0 := by omega
            have ht0 : (0 : Int) ≤ (t : Int) := by omega
            have ht9 : (0 : Int) ≤ (t : Int) + 1 := by omega
            have ht1 : (t : Int) + 1 < (M.length : Int) := by omega
            have ht2 : (t : Int) < (M.length : Int) := by omega
            have hw1 : IntKind.i64.wrap (2 * (i : Int)) = (t : Int) := by have := unhide HT; rw [IntKind.wrap_i64]; omega
            have hw2 : IntKind.i64.wrap ((t : Int) + 1) = (t : Int) + 1 := by rw [IntKind.wrap_i64]; omega
            have hd1 : (x : Int) / (m0 : Int) ≤ 1073807360 := by
              have h9 := Nat.le_trans (Nat.div_le_self x m0) hx9
              rw [← Int.natCast_ediv]
              generalize x / m0 = y at h9 ⊢
              omega
            have hd0 : (0 : Int) ≤ (x : Int) / (m0 : Int) := by rw [← Int.natCast_ediv]; exact Int.natCast_nonneg _
            have hy0 : ¬ m0 = 0 := by omega
            have hy1 : ¬ m1 = 0 := by omega
            have hq1 : IntKind.u32.wrap ((x : Int) / (m0 : Int)) = (x : Int) / (m0 : Int) := by
              rw [IntKind.wrap_u32]
              exact Int.emod_eq_of_lt hd0 (by omega)
            have hq3 : (x : Int) / (m0 : Int) % 4294967296 = (x : Int) / (m0 : Int) := Int.emod_eq_of_lt hd0 (by omega)
            have hq2 : IntKind.u32.wrap ((x : Int).tdiv (m0 : Int)) = (x : Int) / (m0 : Int) := by
              rw [Int.tdiv_eq_ediv_of_nonneg (by omega)]
              exact hq1
            have hq4 : (x : Int).tmod (m0 : Int) = (x : Int) % (m0 : Int) := Int.tmod_eq_emod_of_nonneg (by omega)
            have hq5 : ((x : Int) / (m0 : Int)).tmod (m1 : Int) = (x : Int) / (m0 : Int) % (m1 : Int) := Int.tmod_eq_emod_of_nonneg hd0
            clear hd0 hd1
            go_region_held3 (fun w' => w'.cell? ⟨gm, om + t, none⟩ = some (.int .u32 m0) ∧ w'.cell? ⟨gm, om + (t + 1), none⟩ = some (.int .u32 m1))
              (first
                | go_keep
                | (go_split_ands
                   have lgm := unhide LG3
                   refine ⟨?_, ?_⟩
                   · (rw [gr1.cell_far _ (by simp; omega) (Ne.symm (unhide NV))]; assumption)
                   · (rw [gr1.cell_far _ (by simp; omega) (Ne.symm (unhide NV))]; assumption)))
              ((refine step_append_lies _ (by rfl) _ _ 23 (by rfl) w.heap.size 24 i24 (.int .u32 0) 1 4 Try.underlying23 hi24 hz240 hz241 hz242 rfl (by omega) u15 Vs.length (c32 Vs) (by rfl) (FI.ov (by repeat (first | exact unhide HF3 | apply FI.alloc | apply FI.drew | apply FI.drewN))) ⟨_, 0, none⟩ 2 2 [.int .u32 ((x : Int) % (m0 : Int)), .int .u32 ((x : Int) / (m0 : Int) % (m1 : Int))] (by rfl) rfl (World.news_of_block (cs := #[.int .u32 ((x : Int) % (m0 : Int)), .int .u32 ((x : Int) / (m0 : Int) % (m1 : Int))]) (t := 24) (fr := (0, 0)) (by simp only [dheap_drew, dheap_alloc, Array.size_push]; exact dblk _ _)) (by simp [Value.oneCell']) (by omega) (by simp [maxLen]; omega) (by omega) (by have h9 := (unhide HF3).bel.size; simp; omega) _ rfl ?_
                intro g cap w8 own1 gr1 hat1 hlt1
                have HF4 := hide (FI.push (w := w) (news := [x % m0, x / m0 % m1]) (by repeat (first | exact unhide HF3 | apply FI.alloc | apply FI.drew | apply FI.drewN)) own1 gr1 (by rcases hat1 with h | h; exact .inl h; exact .inr (Nat.le_of_eq h.symm)))))
            clear own1 gr1 hat1 hlt1 HF3 hn0 hn1
            go_wp2
            go_roundw
            case rel => exact ⟨i + 1, Vs ++ [x % m0, x / m0 % m1], by go_num, by omega, by have := unhide HVL; show (Vs ++ [x % m0, x / m0 % m1]).length = _; simp; omega, HF4, HCE2⟩
            case measure => simp [intOf]; omega
          · have hi' : i = P.length := by omega
            subst hi'
            have hg := (unhide HCE).even (by omega)
            subst hg
            clear HCE hpu HPU HVL hlt
            go_wp2
            go_ret2
            exact ⟨_, _, rfl, (unhide HFI).ov, unhide HB5, (unhide HFI).bel⟩

end Go.Proofs.Qxb6603826a
