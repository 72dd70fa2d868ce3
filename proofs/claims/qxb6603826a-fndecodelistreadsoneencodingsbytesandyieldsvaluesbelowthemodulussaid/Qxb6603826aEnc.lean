/- encode. -/
import Derived.Test.Qxb6603826aEncInv
import Derived.Deep.QuietTactic
import Derived.BigQuiet
import Derived.Deep.RegionHeld3
import Derived.Outline
namespace Go.Proofs.Qxb6603826a
open Go.RowKit
set_option linter.unusedVariables false
set_option linter.unusedSimpArgs false

def lenOfV : Value → Nat | .slice _ n _ => n | _ => 0

theorem info5 : (Try.prog.info? 5).map (fun i => (i.zero, i.size, i.bytes)) = some (some (.int .u8 0), 1, 1) := by kernel_rfl
theorem info24 : (Try.prog.info? 24).map (fun i => (i.zero, i.size, i.bytes)) = some (some (.int .u32 0), 1, 4) := by kernel_rfl

theorem replicate_below {V : List Nat} {m : Nat} (h : ∀ x, x ∈ V → x < m) : Below2 V (List.replicate V.length m) := by
  refine ⟨by simp, fun j hj => ?_⟩
  simp only [List.getD, List.getElem?_replicate, hj, if_true, Option.getD_some, List.getElem?_eq_getElem hj]
  exact h _ (List.getElem_mem hj)

/-- What encode leaves. -/
def EPost (w : World) (vo0 : Value) (R : List Nat) (e : Ending) (w' : World) : Prop :=
  ∃ vo, e = .returned vo ∧ w'.ownsRow 0 5 1 vo (c8 R).length (c8 R) ∧ w.grownBy w' vo0.ownBlock ∧ ∀ j, vo.ownBlock = some j → w.heap.size ≤ j ∨ vo0.ownBlock = some j

theorem heap_drew9 (w : World) : w.drew.heap = w.heap := rfl
theorem heap_alloc9 (w : World) (o : Obj) : (w.alloc o).heap = w.heap.push o := rfl
theorem blkC (h : Array Obj) (A : Obj) : (h.push A)[h.size]? = some A := by simp
theorem blkB (h : Array Obj) (A B : Obj) : ((h.push A).push B)[h.size]? = some A := by
  rw [Array.getElem?_push, if_neg (by simp)]; simp
theorem blkA (h : Array Obj) (A B : Obj) : ((h.push A).push B)[h.size + 1]? = some B := by
  rw [Array.getElem?_push, if_pos (by simp)]

theorem enc_one {f : Nat} {V M : List Nat} (h : V.length = 1) : enc f V M = bts (fk (M.getD 0 0)) (V.getD 0 0) := by
  have e : enc f V M = bts (fk (M.headD 0)) (V.headD 0) := by
    cases f with
    | zero => rfl
    | succ f => rw [enc, if_pos (by omega)]
  rw [e]
  cases V <;> cases M <;> rfl

set_option maxHeartbeats 4000000 in
set_option maxRecDepth 100000 in
theorem encode_any (vo0 : Value) (O0 : List Nat) (gv cv : Nat) (V : List Nat) (m : Nat) (w : World) (h1 : 1 ≤ V.length) (h2 : V.length ≤ 65536) (hO : O0.length ≤ 1048576) (hm : OkM m) (hV : ∀ x, x ∈ V → x < m)
    (hf : Fam w [⟨5, vo0, c8 O0⟩, ⟨24, .slice (some ⟨gv, 0, none⟩) V.length cv, c32 V⟩]) :
    Calls Try.prog 20 #[vo0, .slice (some ⟨gv, 0, none⟩) V.length cv, .int .u32 m] w (EPost w vo0 (O0 ++ enc 16 V (List.replicate V.length m))) := by
  obtain ⟨i5, hi5, hz50, hz51, hz52⟩ := info_parts info5
  obtain ⟨i24, hi24, hz240, hz241, hz242⟩ := info_parts info24
  have hmk := make23 V.length (by omega)
  have F := hide hf
  have HV := hide hV
  have HMO := hide hm
  clear hf hV
  go_enter Try.func20, Try.ntmps20
  go_wp2
  go_loopw [21] (fun i wr => ∃ k : Nat, k ≤ V.length ∧ i = .int .i64 k ∧ Hid (Filled wr w.heap.size 24 V.length k (fun _ => .int .u32 m)) ∧ Hid (Below w.heap.size w wr)) (fun i _ => V.length - (intOf i).toNat)
  case atStart => exact ⟨0, Nat.zero_le _, rfl, Filled.start w 24 V.length _ _ (size_madeCells _ _), (Below.refl _ _).alloc (Nat.le_refl _) _⟩
  case round =>
    obtain ⟨k, hk, rfl, HF, HB⟩ := hrel
    clear hmk
    by_cases hlt : k < V.length
    · obtain ⟨v, hv⟩ := (unhide HF).cell hlt
      have hfr := (unhide HF).free k
      have HST := hide ((unhide HF).step hlt)
      go_wp2
      go_roundw
      case rel => exact ⟨k + 1, by omega, by go_num, HST, (unhide HB).setCell (Nat.le_refl _) _⟩
      case measure => simp [intOf]; omega
    · have hk' : k = V.length := by omega
      subst hk'
      have hown := (unhide HF).owned (by simp [maxLen]; omega)
      have hc : (List.range V.length).map (fun _ => Value.int .u32 (m : Int)) = c32 (List.replicate V.length m) := by simp [c32, List.map_const']
      have hl : (c32 (List.replicate V.length m)).length = V.length := by simp [c32]
      have hE : EI w wr vo0.ownBlock vo0 O0 (.slice (some ⟨gv, 0, none⟩) V.length cv) V (.slice (some ⟨w.heap.size, 0, none⟩) V.length V.length) (List.replicate V.length m) (.slice none 0 0) [] (.slice none 0 0) [] := by
        have h9 := EI.start (M := List.replicate V.length m) (g := w.heap.size) (c := V.length) (unhide F) (unhide HB) (Nat.le_refl _) (by rw [hl, ← hc]; exact hown)
        rw [hl] at h9
        exact h9
      have hB := replicate_below (unhide HV)
      have hMok : ∀ x, x ∈ List.replicate V.length m → OkM x := fun x hx => by rw [List.mem_replicate] at hx; rw [hx.2]; exact unhide HMO
      have hML : (List.replicate V.length m).length = V.length := by simp
      have hGL : (O0 ++ enc 16 V (List.replicate V.length m)).length ≤ 1179664 := by
        rw [List.length_append, enc_length _ _ _ (by simp)]
        have h9 := nb_le 16 (List.replicate V.length m) (by simpa using h1)
        simp only [List.length_replicate] at h9
        omega
      generalize hM0 : List.replicate V.length m = M0 at hE hB hMok hML hGL ⊢
      generalize hG : O0 ++ enc 16 V M0 = G at hGL ⊢
      have E := hide hE
      have B2 := hide hB
      have MO := hide hMok
      have HG := hide hG
      have HG0 : Hid (O0 ++ enc 16 V (List.replicate V.length m) = G) := by
        show O0 ++ enc 16 V (List.replicate V.length m) = G
        rw [hM0]
        exact hG
      clear hE hB hMok hG hM0 hown hc hl HF HB F HV
      go_wp2
      go_loopw [0, 1, 7] (fun o v mm wr => ∃ (f : Nat) (vo : Value) (O : List Nat) (gv cv : Nat) (V : List Nat) (gm cm : Nat) (M : List Nat), o = vo ∧ v = .slice (some ⟨gv, 0, none⟩) V.length cv ∧ mm = .slice (some ⟨gm, 0, none⟩) V.length cm ∧ M.length = V.length ∧ 1 ≤ V.length ∧ V.length ≤ 65536 ∧ V.length ≤ 2 ^ f ∧
          Hid (EI w wr vo0.ownBlock vo O (.slice (some ⟨gv, 0, none⟩) V.length cv) V (.slice (some ⟨gm, 0, none⟩) V.length cm) M (.slice none 0 0) [] (.slice none 0 0) []) ∧ Hid (Below2 V M) ∧ Hid (∀ x, x ∈ M → OkM x) ∧ Hid (O ++ enc f V M = G)) (fun _ v _ _ => lenOfV v)
      case atStart => exact ⟨16, vo0, O0, gv, cv, V, _, _, M0, rfl, rfl, rfl, hML, h1, h2, by simpa using h2, E, B2, MO, HG⟩
      case round =>
        clear hML E B2 MO HG hO
        clear h1 h2
        obtain ⟨f, vo, O, gv, cv, V, gm, cm, M, rfl, rfl, rfl, hml, h1, h2, h3, E, B2, MO, HG⟩ := hrel
        by_cases hlen : 1 < V.length
        · cases f with
          | zero => simp at h3; omega
          | succ f =>
          have hg1 := unhide HG
          rw [enc, if_neg (by omega), ← List.append_assoc] at hg1
          have HR : Hid (RoundEq V M 0 O [] [] (O ++ (er V M).1) (er V M).2.1 (er V M).2.2) := ⟨rfl, rfl, rfl⟩
          have HG1 := hide hg1
          clear hg1 HG
          obtain ⟨z1, z2, z3⟩ := er_mod V M hml.symm
          rw [mr_length, hml] at z3
          have z4 := er_below V M (unhide B2)
          have z5 := mr_ok M (unhide MO)
          rw [← z1] at z4 z5
          have hGf : (V.length + 1) / 2 ≤ 2 ^ f := by rw [Nat.pow_succ] at h3; omega
          clear z1 z2
          generalize hG1 : O ++ (er V M).1 = G1 at HR HG1
          generalize hG2 : (er V M).2.1 = G2 at HR HG1 z3 z4
          generalize hG3 : (er V M).2.2 = G3 at HR HG1 z4 z5
          have HEnd : Hid (G2.length = (V.length + 1) / 2 ∧ Below2 G2 G3 ∧ (∀ x, x ∈ G3 → OkM x) ∧ (V.length + 1) / 2 ≤ 2 ^ f) := ⟨z3, z4, z5, hGf⟩
          clear z3 z4 z5 hGf hG2 hG3
          have hGG : G1.length ≤ 1179664 := by
            have h9 := congrArg List.length (unhide HG1)
            rw [List.length_append] at h9
            omega
          go_wp2
          rw [show decide (1 < (V.length : Int)) = true from decide_eq_true (by omega)]
          go_loopw [0, 9, 10, 11] (fun o x y i wr => ∃ (j k : Nat) (vo : Value) (O : List Nat) (vx : Value) (X : List Nat) (vy : Value) (Y : List Nat), o = vo ∧ x = vx ∧ y = vy ∧ i = .int .i64 j ∧ j ≤ V.length ∧ Hid (j = 2 * k ∧ X.length = k ∧ Y.length = k) ∧
              Hid (EI w wr vo0.ownBlock vo O (.slice (some ⟨gv, 0, none⟩) V.length cv) V (.slice (some ⟨gm, 0, none⟩) V.length cm) M vx X vy Y) ∧ Hid (RoundEq V M k O X Y G1 G2 G3)) (fun _ _ _ i _ => V.length - (intOf i).toNat)
          case atStart => exact ⟨0, 0, _, O, _, [], _, [], rfl, rfl, rfl, rfl, Nat.zero_le _, ⟨rfl, rfl, rfl⟩, E, HR⟩
          case round =>
            clear E HR hG1
            clear O
            obtain ⟨j, k, vo, O, vx, X, vy, Y, rfl, rfl, rfl, rfl, hj, HJ, E, HR⟩ := hrel
            by_cases hlt : j + 1 < V.length
            · obtain ⟨hj2, hX, hY⟩ := unhide HJ
              have hv0 := (unhide E).ownV.cellAt j (by omega)
              have hv1 := (unhide E).ownV.cellAt (j + 1) (by omega)
              have hm0 := (unhide E).ownM
              rw [hml] at hm0
              have hm1 := hm0.cellAt (j + 1) (by omega)
              have hm0 := hm0.cellAt j (by omega)
              rw [c32_get V (by omega)] at hv0 hv1
              rw [c32_get M (by omega)] at hm0 hm1
              have b0 := (unhide B2).2 j (by omega)
              have b1 := (unhide B2).2 (j + 1) (by omega)
              have o0 : OkM (M.getD j 0) := unhide MO _ (by simp only [List.getD, List.getElem?_eq_getElem (show j < M.length by omega), Option.getD_some]; exact List.getElem_mem _)
              have o1 : OkM (M.getD (j + 1) 0) := unhide MO _ (by simp only [List.getD, List.getElem?_eq_getElem (show j + 1 < M.length by omega), Option.getD_some]; exact List.getElem_mem _)
              have hR := (unhide HR).pair hml (by omega) (v0 := V.getD j 0) (v1 := V.getD (j + 1) 0) (m0 := M.getD j 0) (m1 := M.getD (j + 1) 0) (by rw [hj2]) (by rw [hj2]) (by rw [hj2]) (by rw [hj2])
              unfold pk pn at hR
              have hXl : X.length ≤ 65536 := by omega
              have hYl : Y.length ≤ 65536 := by omega
              clear hj2 hX hY
              generalize V.getD j 0 = v0 at hv0 b0 hR
              generalize V.getD (j + 1) 0 = v1 at hv1 b1 hR
              generalize M.getD j 0 = m0 at hm0 b0 o0 hR
              generalize M.getD (j + 1) 0 = m1 at hm1 b1 o1 hR
              have hp := pair_lt b0 b1
              obtain ⟨hn1, hn2⟩ := pair_bound o0 o1
              have hq1 : (0 : Int) ≤ (m0 : Int) * (v1 : Int) := by rw [← Int.natCast_mul]; omega
              have hq2 : (v0 : Int) + (m0 : Int) * (v1 : Int) ≤ 268435456 := by rw [← Int.natCast_mul]; omega
              have hq3 : (0 : Int) ≤ (m0 : Int) * (m1 : Int) := by rw [← Int.natCast_mul]; omega
              have hq4 : (m0 : Int) * (m1 : Int) ≤ 268435456 := by rw [← Int.natCast_mul]; omega
              have HRR := hide hR
              have O0K := hide o0
              have O1K := hide o1
              have HP := hide hp
              clear hR o0 o1 hp
              have hl1 : (j : Int) < (V.length : Int) := by omega
              have hl2 : (j : Int) + 1 < (V.length : Int) := by omega
              go_wp2
              go_quiet (fail)
              go_wp2
              have hOl : O.length ≤ G1.length := by
                have h9 := congrArg List.length (unhide HR).o
                rw [List.length_append] at h9
                omega
              have hE12 : (v0 : Int) + (m0 : Int) * (v1 : Int) = ((v0 + m0 * v1 : Nat) : Int) := by simp
              have hE13 : (m0 : Int) * (m1 : Int) = ((m0 * m1 : Nat) : Int) := by simp
              rw [hE12, hE13]
              clear hq1 hq2 hq3 hq4 hE12 hE13
              generalize hvv : v0 + m0 * v1 = vv at *
              generalize hnn : m0 * m1 = nn at *
              have HVV := hide hvv
              have HNN := hide hnn
              clear hvv hnn
              have hOg : (O ++ bts (sk 16384 2 nn) vv).length ≤ 1179666 := by
                rw [List.length_append, bts_length]
                have := sk_le 16384 2 nn
                omega
              generalize hog : O ++ bts (sk 16384 2 nn) vv = Og at hOg HRR
              have HO1 := hide hog
              clear hog
              generalize hvg : vv / 256 ^ sk 16384 2 nn = vg at HRR
              generalize hng : sn 16384 2 nn = ng at HRR
              have HO2 := hide (And.intro hvg hng)
              clear hvg hng hv0 hv1 hm0 hm1 b0 b1
              go_loopw [0, 12, 13] (fun o x y wr => ∃ (f n v : Nat) (vo : Value) (O : List Nat), o = vo ∧ x = .int .u32 v ∧ y = .int .u32 n ∧ n ≤ 268435456 ∧ v ≤ 268435456 ∧ n ≤ 16383 * 256 ^ f ∧
                  Hid (EI w wr vo0.ownBlock vo O (.slice (some ⟨gv, 0, none⟩) V.length cv) V (.slice (some ⟨gm, 0, none⟩) V.length cm) M u9 X u10 Y) ∧ Hid (O ++ bts (sk 16384 f n) v = Og) ∧ Hid (v / 256 ^ sk 16384 f n = vg ∧ sn 16384 f n = ng)) (fun _ _ y _ => (intOf y).toNat)
              case atStart => exact ⟨2, nn, vv, _, O, rfl, rfl, rfl, by omega, by have := unhide HP; omega, by omega, (unhide E).drewN _, HO1, HO2⟩
              case round =>
                clear E HO1 HO2 hOl
                clear HR
                obtain ⟨f, n, v, vo, O, rfl, rfl, rfl, hn, hv, hnf, E, HO1, HO2⟩ := hrel
                by_cases hT : 16384 ≤ n
                · cases f with
                  | zero => simp at hnf; omega
                  | succ f =>
                  have hOl : O.length ≤ 1179666 := by
                    have h9 := congrArg List.length (unhide HO1)
                    rw [List.length_append] at h9
                    omega
                  have ho := (unhide E).ownO
                  go_wp2_with (at_builtin; refine wpList_append_lies _ (by rfl) _ _ 22 (by rfl) 0 5 i5 (.int .u8 0) 1 1 Try.underlying22 hi5 hz50 hz51 hz52 rfl (by omega) _ O.length (c8 O) (by rfl) (ho.alloc _) ⟨wr.heap.size, 0, none⟩ 1 1 [.int .u8 ((v : Int) % 256)] (by rfl) rfl (cell_one_new _ _ _) (by simp [Value.oneCell']) (by omega) (by simp [maxLen]; omega) (by omega) (Nat.zero_le _) (wr.heap.size + 1) (by simp) ?_)
                  intro g cap w1 own1 gr1 hat1 hlt1
                  have e8 : (v : Int) % 256 = ((v % 256 : Nat) : Int) := by omega
                  rw [e8] at own1
                  have E1 := hide (((unhide E).alloc _).pushO own1 gr1 (by rcases hat1 with h | h; exact .inl h; exact .inr (by simp; omega)))
                  obtain ⟨s1, s2, s3, s4⟩ := shed_step (T := 16384) (f := f) (v := v) hT
                  have HN1 : Hid ((O ++ [v % 256]) ++ bts (sk 16384 f (cut n)) (v / 256) = Og) := by
                    show (O ++ [v % 256]) ++ bts (sk 16384 f (cut n)) (v / 256) = Og
                    rw [← unhide HO1, s3, List.append_assoc]
                    rfl
                  have HN2 : Hid (v / 256 / 256 ^ sk 16384 f (cut n) = vg ∧ sn 16384 f (cut n) = ng) := by
                    show v / 256 / 256 ^ sk 16384 f (cut n) = vg ∧ sn 16384 f (cut n) = ng
                    rw [← s4, ← s2]
                    exact unhide HO2
                  have hcf : cut n ≤ 16383 * 256 ^ f := cut_le (by rw [Nat.pow_succ] at hnf; rw [Nat.mul_assoc]; exact hnf)
                  have hcn : cut n = (n + 255) / 256 := rfl
                  have HCF := hide hcf
                  have HCN := hide hcn
                  clear s1 s2 s3 s4 own1 gr1 hat1 ho e8 hcf hcn
                  go_wp2
                  go_roundw
                  case rel => exact ⟨f, cut n, v / 256, _, O ++ [v % 256], rfl, by go_num, by rw [unhide HCN]; go_num, by rw [unhide HCN]; omega, by omega, unhide HCF, E1, HN1, HN2⟩
                  case measure => simp [intOf]; omega
                · obtain ⟨s1, s2⟩ := shed_stop (T := 16384) (f := f) (v := v) (n := n) (by omega)
                  have q1 := unhide HO1
                  have q2 := unhide HO2
                  rw [s1] at q1 q2
                  rw [s2] at q2
                  simp only [bts, List.append_nil, Nat.pow_zero, Nat.div_one] at q1 q2
                  obtain ⟨q2, q3⟩ := q2
                  subst q1 q2 q3
                  clear s1 s2 HO1 HO2
                  have ox := (unhide E).ownX
                  go_wp2_with (at_builtin; refine wpList_append_lies _ (by rfl) _ _ 23 (by rfl) 0 24 i24 (.int .u32 0) 1 4 Try.underlying23 hi24 hz240 hz241 hz242 rfl (by omega) _ X.length (c32 X) (by rfl) (ox.alloc _) ⟨wr.heap.size, 0, none⟩ 1 1 [.int .u32 (v : Int)] (by rfl) rfl (cell_one_new _ _ _) (by simp [Value.oneCell']) (by omega) (by simp [maxLen]; omega) (by omega) (Nat.zero_le _) (wr.heap.size + 1) (by simp) ?_)
                  intro g cap w1 own1 gr1 hat1 hlt1
                  have E1 := hide (((unhide E).alloc _).pushX own1 gr1 (by rcases hat1 with h | h; exact .inl h; exact .inr (by simp; omega)))
                  clear own1 gr1 hat1 ox E
                  have oy := (unhide E1).ownY
                  go_wp2_with (at_builtin; refine wpList_append_lies _ (by rfl) _ _ 23 (by rfl) 0 24 i24 (.int .u32 0) 1 4 Try.underlying23 hi24 hz240 hz241 hz242 rfl (by omega) _ Y.length (c32 Y) (by rfl) (oy.alloc _) ⟨w1.heap.size, 0, none⟩ 1 1 [.int .u32 (n : Int)] (by rfl) rfl (cell_one_new _ _ _) (by simp [Value.oneCell']) (by omega) (by simp [maxLen]; omega) (by omega) (Nat.zero_le _) (w1.heap.size + 1) (by simp) ?_)
                  intro g2 cap2 w2 own2 gr2 hat2 hlt2
                  have E2 := hide (((unhide E1).alloc _).pushY own2 gr2 (by rcases hat2 with h | h; exact .inl h; exact .inr (by simp; omega)))
                  clear own2 gr2 hat2 oy E1
                  go_wp2
                  go_roundw
                  case rel => exact ⟨j + 2, k + 1, _, O, _, X ++ [v], _, Y ++ [n], rfl, rfl, rfl, by go_num, by omega, ⟨by have := (unhide HJ).1; omega, by have := (unhide HJ).2.1; simp; omega, by have := (unhide HJ).2.2; simp; omega⟩, E2, HRR⟩
                  case measure => simp [intOf]; omega
            · have hn : ¬ (j : Int) + 1 < (V.length : Int) := by omega
              obtain ⟨hj2, hX, hY⟩ := unhide HJ
              by_cases hodd : V.length % 2 = 1
              · obtain ⟨r1, r2, r3⟩ := (unhide HR).odd hml (by omega)
                have hjl : j = V.length - 1 := by omega
                have hv0 := (unhide E).ownV.cellAt j (by omega)
                have hm0 := (unhide E).ownM
                rw [hml] at hm0
                have hm0 := hm0.cellAt j (by omega)
                rw [c32_get V (by omega)] at hv0
                rw [c32_get M (by omega)] at hm0
                rw [← hj2] at r2 r3
                have hXl : X.length ≤ 65536 := by omega
                have hYl : Y.length ≤ 65536 := by omega
                clear hj2 hX hY HJ HR
                generalize V.getD j 0 = v0 at hv0 r2
                generalize M.getD j 0 = m0 at hm0 r3
                have HR3 := hide (And.intro r1 (And.intro r2 r3))
                clear r1 r2 r3
                have lx : ∀ i, u9.ownBlock = some i → i < wr.heap.size := fun i hi => (unhide E).fam.lt (r := ⟨24, u9, c32 X⟩) (by simp) hi
                have ly : ∀ i, u10.ownBlock = some i → i < wr.heap.size := fun i hi => (unhide E).fam.lt (r := ⟨24, u10, c32 Y⟩) (by simp) hi
                have lgv : gv < wr.heap.size := (unhide E).fam.lt (r := ⟨24, .slice (some ⟨gv, 0, none⟩) V.length cv, c32 V⟩) (by simp) rfl
                have lgm : gm < wr.heap.size := (unhide E).fam.lt (r := ⟨24, .slice (some ⟨gm, 0, none⟩) V.length cm, c32 M⟩) (by simp) rfl
                obtain ⟨nxv, nxm, nyv, nym⟩ := (unhide E).far
                have LX := hide lx
                have LY := hide ly
                have LV := hide lgv
                have LM := hide lgm
                have NXV := hide nxv
                have NXM := hide nxm
                have NYV := hide nyv
                have NYM := hide nym
                clear lx ly lgv lgm nxv nxm nyv nym
                have hm1 : (V.length : Int) % 2 = 1 := by omega
                clear hn hlt hj hodd
                go_wp2_with fail
                have hk1 : IntKind.i64.wrap ((V.length : Int) - 1) = (j : Int) := by rw [IntKind.wrap_i64]; omega
                have hk2 : (0 : Int) ≤ (j : Int) := by omega
                have hk3 : (j : Int) < (V.length : Int) := by omega
                clear hjl
                go_region_held3 (fun w' => w'.cell? ⟨gv, j, none⟩ = some (.int .u32 v0) ∧ w'.cell? ⟨gm, j, none⟩ = some (.int .u32 m0))
                  (first
                    | go_keep
                    | (go_split_ands
                       have lgv := unhide LV
                       have lgm := unhide LM
                       have s1 := gr1.size
                       refine ⟨?_, ?_⟩
                       · (rw [gr2.cell_far _ (by simp at s1 ⊢; omega) (Ne.symm (unhide NYV))]; assumption)
                       · (rw [gr2.cell_far _ (by simp at s1 ⊢; omega) (Ne.symm (unhide NYM))]; assumption))
                    | (go_split_ands
                       have lgv := unhide LV
                       have lgm := unhide LM
                       refine ⟨?_, ?_⟩
                       · (rw [gr1.cell_far _ (by simp; omega) (Ne.symm (unhide NXV))]; assumption)
                       · (rw [gr1.cell_far _ (by simp; omega) (Ne.symm (unhide NXM))]; assumption)))
                  ((first
                    | (refine step_append_lies _ (by rfl) _ _ 23 (by rfl) 0 24 i24 (.int .u32 0) 1 4 Try.underlying23 hi24 hz240 hz241 hz242 rfl (by omega) u9 X.length (c32 X) (by rfl) (EI.ownX (by repeat (first | exact unhide E | apply EI.alloc | apply EI.drew | apply EI.drewN))) ⟨_, 0, none⟩ 1 1 [.int .u32 (v0 : Int)] (by rfl) rfl (World.news_of_block (cs := #[.int .u32 (v0 : Int)]) (t := 24) (fr := (0, 0)) (by simp only [heap_drew9, heap_alloc9, Array.size_push]; first | exact blkC _ _ | exact blkA _ _ _ | exact blkB _ _ _)) (by simp [Value.oneCell']) (by omega) (by simp [maxLen]; omega) (by omega) (Nat.zero_le _) _ rfl ?_
                       intro g cap w1 own1 gr1 hat1 hlt1
                       have E1 := hide (EI.pushX (w := w) (by repeat (first | exact unhide E | apply EI.alloc | apply EI.drew | apply EI.drewN)) own1 gr1 (by rcases hat1 with h | h; exact .inl h; exact .inr (Nat.le_of_eq h.symm))))
                    | (refine step_append_lies _ (by rfl) _ _ 23 (by rfl) 0 24 i24 (.int .u32 0) 1 4 Try.underlying23 hi24 hz240 hz241 hz242 rfl (by omega) u10 Y.length (c32 Y) (by rfl) (EI.ownY (by repeat (first | exact unhide E1 | apply EI.alloc | apply EI.drew | apply EI.drewN))) ⟨_, 0, none⟩ 1 1 [.int .u32 (m0 : Int)] (by rfl) rfl (World.news_of_block (cs := #[.int .u32 (m0 : Int)]) (t := 24) (fr := (0, 0)) (by first | (simp only [heap_drew9, heap_alloc9, Array.size_push]; first | exact blkC _ _ | exact blkA _ _ _ | exact blkB _ _ _) | (rw [gr1.block _ (by simp; try omega) (fun e => by have h9 := unhide LX _ e.symm; first | omega | (simp at h9; done) | (simp at h9; omega))]; simp only [heap_drew9, heap_alloc9, Array.size_push]; first | exact blkC _ _ | exact blkA _ _ _ | exact blkB _ _ _))) (by simp [Value.oneCell']) (by omega) (by simp [maxLen]; omega) (by omega) (Nat.zero_le _) _ rfl ?_
                       intro g2 cap2 w2 own2 gr2 hat2 hlt2
                       have E2 := hide (EI.pushY (w := w) (by repeat (first | exact unhide E1 | apply EI.alloc | apply EI.drew | apply EI.drewN)) own2 gr2 (by rcases hat2 with h | h; exact .inl h; exact .inr (Nat.le_of_eq h.symm))))))
                all_goals
                  obtain ⟨r1, r2, r3⟩ := unhide HR3
                  obtain ⟨e1, e2, e3, e4⟩ := unhide HEnd
                  have hx1 : X.length + 1 = G2.length := by rw [← r2]; simp
                  have hy1 : Y.length + 1 = G2.length := by rw [e2.1, ← r3]; simp
                  have ET := (unhide E2).turn
                  rw [r1, r2, r3, hx1, hy1] at ET
                  rw [hx1, hy1]
                  have ET := hide ET
                  clear own1 gr1 hat1 hlt1 own2 gr2 hat2 hlt2 E1 E2 r1 r2 r3 hx1 hy1 e1 e2 e3 e4 hv0 hm0 hk1 HR3 E
                  go_wp2
                  go_roundw
                  case rel =>
                    obtain ⟨e1, e2, e3, e4⟩ := unhide HEnd
                    exact ⟨f, _, G1, g, cap, G2, g2, cap2, G3, rfl, rfl, rfl, e2.1.symm, by omega, by omega, by omega, ET, e2, e3, HG1⟩
                  case measure =>
                    obtain ⟨e1, e2, e3, e4⟩ := unhide HEnd
                    simp only [lenOfV]
                    omega
              · obtain ⟨r1, r2, r3⟩ := (unhide HR).even hml (by omega)
                have hX1 : 0 < X.length := by omega
                have hY1 : 0 < Y.length := by omega
                obtain ⟨gx, cx, hvx, -, -⟩ := (unhide E).ownX.form hX1
                obtain ⟨gy, cy, hvy, -, -⟩ := (unhide E).ownY.form hY1
                subst hvx hvy r1 r2 r3
                have ET := (unhide E).turn
                rw [hY, ← hX] at ET
                rw [hY, ← hX]
                have ET := hide ET
                have hm0 : (V.length : Int) % 2 = 0 := by omega
                clear hX1 hY1 hj2 hY E HR hodd hlt HJ
                have HXk := hide hX
                clear hX
                go_wp2
                go_roundw
                case rel =>
                  obtain ⟨e1, e2, e3, e4⟩ := unhide HEnd
                  exact ⟨f, _, O, gx, cx, X, gy, cy, Y, rfl, rfl, rfl, e2.1.symm, by omega, by omega, by omega, ET, e2, e3, HG1⟩
                case measure =>
                  obtain ⟨e1, e2, e3, e4⟩ := unhide HEnd
                  simp only [lenOfV]
                  omega
        · have hV1 : V.length = 1 := by omega
          have hg1 := unhide HG
          rw [enc_one hV1] at hg1
          have hv0 := (unhide E).ownV.cellAt 0 (by omega)
          have hm0 := (unhide E).ownM
          rw [hml] at hm0
          have hm0 := hm0.cellAt 0 (by omega)
          rw [c32_get V (by omega)] at hv0
          rw [c32_get M (by omega)] at hm0
          have b0 := (unhide B2).2 0 (by omega)
          obtain ⟨o1, o2⟩ : OkM (M.getD 0 0) := unhide MO _ (by simp only [List.getD, List.getElem?_eq_getElem (show 0 < M.length by omega), Option.getD_some]; exact List.getElem_mem _)
          generalize V.getD 0 0 = v0 at hv0 b0 hg1
          generalize M.getD 0 0 = m0 at hm0 b0 o1 o2 hg1
          unfold fk at hg1
          have HG1 := hide hg1
          clear hg1 HG B2 MO
          have hl1 : (0 : Int) < (V.length : Int) := by omega
          have hl2 : ¬ (1 : Int) < (V.length : Int) := by omega
          go_wp2
          go_quiet (fail)
          go_wp2
          go_loopw [0, 14, 15] (fun o x y wr => ∃ (f n v : Nat) (vo : Value) (O : List Nat), o = vo ∧ x = .int .u32 v ∧ y = .int .u32 n ∧ n ≤ 16384 ∧ v ≤ 16384 ∧ n ≤ 256 ^ f ∧
              Hid (EI w wr vo0.ownBlock vo O (.slice (some ⟨gv, 0, none⟩) V.length cv) V (.slice (some ⟨gm, 0, none⟩) V.length cm) M (.slice none 0 0) [] (.slice none 0 0) []) ∧ Hid (O ++ bts (sk 2 f n) v = G)) (fun _ _ y _ => (intOf y).toNat)
          case atStart => exact ⟨2, m0, v0, _, O, rfl, rfl, rfl, by omega, by omega, by omega, (unhide E).drewN _, HG1⟩
          case round =>
            clear E HG1 hv0 hm0 b0 o1 o2
            clear O
            obtain ⟨f, n, v, vo, O, rfl, rfl, rfl, hn, hv, hnf, E, HO1⟩ := hrel
            by_cases hT : 2 ≤ n
            · cases f with
              | zero => simp at hnf; omega
              | succ f =>
              have hOl : O.length ≤ 1179664 := by
                have h9 := congrArg List.length (unhide HO1)
                rw [List.length_append] at h9
                omega
              have ho := (unhide E).ownO
              have hT' : (1 : Int) < (n : Int) := by omega
              go_wp2_with (at_builtin; refine wpList_append_lies _ (by rfl) _ _ 22 (by rfl) 0 5 i5 (.int .u8 0) 1 1 Try.underlying22 hi5 hz50 hz51 hz52 rfl (by omega) _ O.length (c8 O) (by rfl) (ho.alloc _) ⟨wr.heap.size, 0, none⟩ 1 1 [.int .u8 ((v : Int) % 256)] (by rfl) rfl (cell_one_new _ _ _) (by simp [Value.oneCell']) (by omega) (by simp [maxLen]; omega) (by omega) (Nat.zero_le _) (wr.heap.size + 1) (by simp) ?_)
              intro g cap w1 own1 gr1 hat1 hlt1
              have e8 : (v : Int) % 256 = ((v % 256 : Nat) : Int) := by omega
              rw [e8] at own1
              have E1 := hide (((unhide E).alloc _).pushO own1 gr1 (by rcases hat1 with h | h; exact .inl h; exact .inr (by simp; omega)))
              obtain ⟨s1, s2, s3, s4⟩ := shed_step (T := 2) (f := f) (v := v) hT
              have HN1 : Hid ((O ++ [v % 256]) ++ bts (sk 2 f (cut n)) (v / 256) = G) := by
                show (O ++ [v % 256]) ++ bts (sk 2 f (cut n)) (v / 256) = G
                rw [← unhide HO1, s3, List.append_assoc]
                rfl
              have hcf : cut n ≤ 256 ^ f := cut_le (by rw [Nat.pow_succ] at hnf; exact hnf)
              have hcn : cut n = (n + 255) / 256 := rfl
              have HCF := hide hcf
              have HCN := hide hcn
              clear s1 s2 s3 s4 own1 gr1 hat1 ho e8 hcf hcn
              go_wp2
              go_roundw
              case rel => exact ⟨f, cut n, v / 256, _, O ++ [v % 256], rfl, by go_num, by rw [unhide HCN]; go_num, by rw [unhide HCN]; omega, by omega, unhide HCF, E1, HN1⟩
              case measure => simp [intOf]; omega
            · obtain ⟨s1, s2⟩ := shed_stop (T := 2) (f := f) (v := v) (n := n) (by omega)
              have q1 := unhide HO1
              rw [s1] at q1
              simp only [bts, List.append_nil] at q1
              subst q1
              clear s1 s2 HO1
              have hT' : ¬ (1 : Int) < (n : Int) := by omega
              go_wp2
              go_ret
              have hR : EPost w vo0 O (.returned u0) wr := ⟨u0, rfl, (unhide E).fam.own ⟨5, u0, c8 O⟩ (by simp), (unhide E).gr, (unhide E).ho⟩
              rw [← unhide HG0] at hR
              exact hR

end Go.Proofs.Qxb6603826a
