/- union. -/
import Derived.Test.Qxb6603766aExt
import Derived.WalkSmall
namespace Go.Proofs.Qxb6603766a
open Go.RowKit
set_option linter.unusedVariables false

def listOf (A : Nat → Int × Int) (n : Nat) : List (Int × Int) := (List.range n).map A
theorem listOf_length (A : Nat → Int × Int) (n : Nat) : (listOf A n).length = n := by simp [listOf]
theorem listOf_drop (A : Nat → Int × Int) (n i : Nat) (h : i < n) : (listOf A n).drop i = A i :: (listOf A n).drop (i + 1) := by
  rw [List.drop_eq_getElem_cons (by simpa [listOf] using h)]
  simp [listOf]
theorem listOf_drop_all (A : Nat → Int × Int) (n i : Nat) (h : n ≤ i) : (listOf A n).drop i = [] := List.drop_of_length_le (by rw [listOf_length]; exact h)

theorem ext_Ok {us : List (Int × Int)} {sp : Int × Int} (h : ∀ p, p ∈ us → Ok p) (hs : Ok sp) : ∀ p, p ∈ ext us sp → Ok p := by
  rcases snoc_cases us with rfl | ⟨i, q, rfl⟩
  · intro p hp
    rw [ext_nil, List.mem_singleton] at hp
    subst hp
    exact hs
  · have hq := h q (by simp)
    by_cases hle : sp.1 ≤ q.2 + 1
    · intro p hp
      rw [ext_join i q sp hle] at hp
      rcases List.mem_append.1 hp with hp | hp
      · exact h p (by simp [hp])
      · rw [List.mem_singleton] at hp
        subst hp
        obtain ⟨a, b, c⟩ := hq
        obtain ⟨a', b', c'⟩ := hs
        exact ⟨a, by simp only; omega, by simp only; omega⟩
    · intro p hp
      rw [ext_next i q sp hle] at hp
      rcases List.mem_append.1 hp with hp | hp
      · exact h p hp
      · rw [List.mem_singleton] at hp
        subst hp
        exact hs

theorem ext_len (us : List (Int × Int)) (sp : Int × Int) : (ext us sp).length ≤ us.length + 1 := by
  rcases snoc_cases us with rfl | ⟨i, q, rfl⟩
  · simp [ext_nil]
  · by_cases hle : sp.1 ≤ q.2 + 1
    · rw [ext_join i q sp hle]; simp
    · rw [ext_next i q sp hle]; simp

/-- The union under way: us is what has been made, 'rest' what is still to be taken, k how many have been. -/
structure UInv (w wr : World) (cap : Nat) (us : List (Int × Int)) (k : Nat) (rest goal : List (Int × Int)) : Prop where
  own : wr.ownsRow w.heap.size 56 2 (.slice (some ⟨w.heap.size, 0, none⟩) us.length cap) us.length (spCells us)
  bel : Below w.heap.size w wr
  len : us.length ≤ k
  fold : rest.foldl ext us = goal
  ok : ∀ p, p ∈ us → Ok p

theorem UInv.step {w wr w1 w2 : World} {cap : Nat} {us : List (Int × Int)} {k : Nat} {sp : Int × Int} {rest goal : List (Int × Int)} (h : UInv w wr cap us k (sp :: rest) goal) (hs : Ok sp) (hb : Below w.heap.size w w1)
    (ho : w2.ownsRow w.heap.size 56 2 (.slice (some ⟨w.heap.size, 0, none⟩) (ext us sp).length cap) (ext us sp).length (spCells (ext us sp))) (hg : w1.grownBy w2 (some w.heap.size)) : UInv w w2 cap (ext us sp) (k + 1) rest goal :=
  ⟨ho, hb.grown hg hb.size (fun j hj => by cases hj; exact Nat.le_refl _), by have := ext_len us sp; have := h.len; omega, h.fold, ext_Ok h.ok hs⟩

set_option maxHeartbeats 1000000 in
theorem union_any (ga la gb lb : Nat) (A B : Nat → Int × Int) (w : World) (hla : la ≤ 524288) (hlb : lb ≤ 524288) (hA : SRow w ga la A) (hB : SRow w gb lb B) (oA : ∀ j, j < la → Ok (A j)) (oB : ∀ j, j < lb → Ok (B j)) :
    Calls Try.prog 19 #[.slice (some ⟨ga, 0, none⟩) la la, .slice (some ⟨gb, 0, none⟩) lb lb] w fun e w' => ∃ c, e = .returned (.slice (some ⟨w.heap.size, 0, none⟩) (uni (listOf A la) (listOf B lb)).length c) ∧
      w'.ownsRow w.heap.size 56 2 (.slice (some ⟨w.heap.size, 0, none⟩) (uni (listOf A la) (listOf B lb)).length c) (uni (listOf A la) (listOf B lb)).length (spCells (uni (listOf A la) (listOf B lb))) ∧ Below w.heap.size w w' := by
  obtain ⟨i0, hi, hz0, hz1, hz2⟩ := info_parts info56
  have HA := hide hA
  have HB := hide hB
  have OA := hide oA
  have OB := hide oB
  clear hA hB oA oB
  generalize hU : uni (listOf A la) (listOf B lb) = U
  have HU := hide hU
  clear hU
  go_enter Try.func19, Try.ntmps19
  go_wp2_with (at_make; refine wpList_make_own _ rfl _ _ 37 rfl w.heap.size 56 i0 (.agg #[.int .i32 0, .int .i32 0]) 2 Try.underlying37 hi hz0 hz1 .i64 .i64 _ (la + lb) rfl rfl rfl (by rw [hz2]; omega) (by simp [maxLen]; omega) (Nat.le_refl _) ?_)
  intro w1 hown1 hgrow1
  have hstart : UInv w w1 (la + lb) [] 0 (mg ((listOf A la).drop 0) ((listOf B lb).drop 0)) U := ⟨hown1, (Below.refl _ _).grown hgrow1 (Nat.le_refl _) (fun j hj => by cases hj), Nat.le_refl _, unhide HU, by simp⟩
  have HST := hide hstart
  clear hstart hown1 hgrow1 hi hz0 hz1 hz2
  go_wp2
  go_loopw [5, 6, 7] (fun u i j wr => ∃ (a b : Nat) (us : List (Int × Int)), a ≤ la ∧ b ≤ lb ∧ i = .int .i64 a ∧ j = .int .i64 b ∧ u = .slice (some ⟨w.heap.size, 0, none⟩) us.length (la + lb) ∧
      Hid (UInv w wr (la + lb) us (a + b) (mg ((listOf A la).drop a) ((listOf B lb).drop b)) U)) (fun _ i j _ => (la - (intOf i).toNat) + (lb - (intOf j).toNat))
  case atStart => exact ⟨0, 0, [], Nat.zero_le _, Nat.zero_le _, rfl, rfl, rfl, HST⟩
  case round =>
    obtain ⟨a, b, us, ha, hb, rfl, rfl, rfl, HI⟩ := hrel
    clear HST
    have hlen := (unhide HI).len
    have hbel := (unhide HI).bel
    by_cases hlt : a < la ∧ b < lb
    · obtain ⟨hlt1, hlt2⟩ := hlt
      obtain ⟨c1, c2⟩ := unhide HA a hlt1
      obtain ⟨c3, c4⟩ := unhide HB b hlt2
      rw [← hbel.cell (World.block_lt_of_cell? w _ c1)] at c1
      rw [← hbel.cell (World.block_lt_of_cell? w _ c2)] at c2
      rw [← hbel.cell (World.block_lt_of_cell? w _ c3)] at c3
      rw [← hbel.cell (World.block_lt_of_cell? w _ c4)] at c4
      have o1 := unhide OA a hlt1
      have o2 := unhide OB b hlt2
      have hinv := unhide HI
      rw [listOf_drop A la a hlt1, listOf_drop B lb b hlt2] at hinv
      have hl1 : (a : Int) < (la : Int) := by omega
      have hl2 : (b : Int) < (lb : Int) := by omega
      have BEL := hide hbel
      clear hbel
      by_cases hle : (A a).1 ≤ (B b).1
      · rw [mg_fst _ _ hle] at hinv
        rw [← listOf_drop B lb b hlt2] at hinv
        generalize A a = x at c1 c2 o1 hinv hle
        generalize B b = y at c3 c4 o2 hle
        obtain ⟨x1, x2⟩ := x
        obtain ⟨y1, y2⟩ := y
        simp only at c1 c2 c3 c4 hle
        have HINV := hide hinv
        have O1 := hide o1
        clear hinv o1 o2
        go_wp2
        go_quiet (fail)
        go_wp2_with fail
        refine (extend_any w.heap.size w.heap.size (la + lb) us (x1, x2) (wr.drewN nq) (unhide HINV).ok (unhide O1) (by omega) (by omega) (unhide HINV).own).mono ?_
        rintro e w2 ⟨rfl, own2, gr2⟩
        have hnew := (unhide HINV).step (unhide O1) (below_drewN (unhide BEL) nq) own2 gr2
        have HN := hide hnew
        clear hnew own2 gr2
        go_wp2
        go_roundw
        case rel => exact ⟨a + 1, b, _, by omega, by omega, by go_num, rfl, rfl, by have h9 := unhide HN; rw [show a + b + 1 = a + 1 + b from by omega] at h9; exact h9⟩
        case measure => simp [intOf]; omega
      · rw [mg_snd _ _ hle] at hinv
        rw [← listOf_drop A la a hlt1] at hinv
        have hle' : decide ((A a).1 ≤ (B b).1) = false := by rw [decide_eq_false_iff_not]; exact hle
        clear hle
        generalize A a = y at c1 c2 o1 hle'
        generalize B b = x at c3 c4 o2 hinv hle'
        obtain ⟨x1, x2⟩ := x
        obtain ⟨y1, y2⟩ := y
        simp only at c1 c2 c3 c4 hle'
        have HINV := hide hinv
        have O1 := hide o2
        clear hinv o1 o2
        go_wp2
        go_quiet (fail)
        go_wp2_with fail
        refine (extend_any w.heap.size w.heap.size (la + lb) us (x1, x2) (wr.drewN nq) (unhide HINV).ok (unhide O1) (by omega) (by omega) (unhide HINV).own).mono ?_
        rintro e w2 ⟨rfl, own2, gr2⟩
        have hnew := (unhide HINV).step (unhide O1) (below_drewN (unhide BEL) nq) own2 gr2
        have HN := hide hnew
        clear hnew own2 gr2
        go_wp2
        go_roundw
        case rel => exact ⟨a, b + 1, _, by omega, by omega, rfl, by go_num, rfl, by have h9 := unhide HN; rw [show a + b + 1 = a + (b + 1) from by omega] at h9; exact h9⟩
        case measure => simp [intOf]; omega
    · have hmg : mg ((listOf A la).drop a) ((listOf B lb).drop b) = (listOf A la).drop a ++ (listOf B lb).drop b := by
        by_cases h1 : a < la
        · rw [listOf_drop_all B lb b (by omega), mg_nil_r, List.append_nil]
        · rw [listOf_drop_all A la a (by omega), mg_nil_l, List.nil_append]
      have hinv0 := unhide HI
      rw [hmg] at hinv0
      have HI0 := hide hinv0
      clear hinv0 hmg hbel
      have hsplit : (a < la ∧ b = lb) ∨ (a = la ∧ b < lb) ∨ (a = la ∧ b = lb) := by omega
      clear hlt HI
      rcases hsplit with ⟨h1, rfl⟩ | ⟨rfl, h2⟩ | ⟨rfl, rfl⟩
      · have hn1 : ¬ la = a := by omega
        go_wp2
        go_loopw [5, 59] (fun u i wr => ∃ (t : Nat) (us : List (Int × Int)), t ≤ la - a ∧ i = .int .i64 t ∧ u = .slice (some ⟨w.heap.size, 0, none⟩) us.length (la + b) ∧
            Hid (UInv w wr (la + b) us (a + b + t) ((listOf A la).drop (a + t) ++ (listOf B b).drop b) U)) (fun _ i _ => la - a - (intOf i).toNat)
        case atStart => exact ⟨0, us, Nat.zero_le _, rfl, rfl, HI0⟩
        case round =>
          clear HI0 hlen
          obtain ⟨t, us, ht, rfl, rfl, HI⟩ := hrel
          have hlen := (unhide HI).len
          have hbel := (unhide HI).bel
          by_cases hlt : t < la - a
          · obtain ⟨c1, c2⟩ := unhide HA (a + t) (by omega)
            rw [← hbel.cell (World.block_lt_of_cell? w _ c1)] at c1
            rw [← hbel.cell (World.block_lt_of_cell? w _ c2)] at c2
            have o1 := unhide OA (a + t) (by omega)
            have hinv := unhide HI
            rw [listOf_drop A la (a + t) (by omega), List.cons_append] at hinv
            have BEL := hide hbel
            clear hbel
            generalize A (a + t) = x at c1 c2 o1 hinv
            obtain ⟨x1, x2⟩ := x
            simp only at c1 c2
            rw [show (a + t) * 2 = a * 2 + t * 2 from by omega] at c1 c2
            have HINV := hide hinv
            have O1 := hide o1
            clear hinv o1
            go_wp2_with fail
            refine (extend_any w.heap.size w.heap.size (la + b) us (x1, x2) _ (unhide HINV).ok (unhide O1) (by omega) (by omega) ((unhide HINV).own.alloc _)).mono ?_
            rintro e w2 ⟨rfl, own2, gr2⟩
            have hnew := (unhide HINV).step (unhide O1) ((unhide BEL).alloc (unhide BEL).size _) own2 gr2
            have HN := hide hnew
            clear hnew own2 gr2
            go_wp2
            go_roundw
            case rel => exact ⟨t + 1, _, by omega, by go_num, rfl, by have h9 := unhide HN; rw [show a + b + t + 1 = a + b + (t + 1) from by omega, show a + t + 1 = a + (t + 1) from by omega] at h9; exact h9⟩
            case measure => simp [intOf]; omega
          · have ht' : t = la - a := by omega
            have hinv0 := unhide HI
            rw [listOf_drop_all A la (a + t) (by omega), List.nil_append, show a + b + t = la + b from by omega] at hinv0
            have HI0 := hide hinv0
            clear hinv0 HI hbel ht'
            have hlen := (unhide HI0).len
            go_wp2
            go_loopw [5, 71] (fun u i wr => ∃ (t : Nat) (us : List (Int × Int)), t ≤ b - b ∧ i = .int .i64 t ∧ u = .slice (some ⟨w.heap.size, 0, none⟩) us.length (la + b) ∧
                Hid (UInv w wr (la + b) us (la + b + t) ((listOf B b).drop (b + t)) U)) (fun _ i _ => b - b - (intOf i).toNat)
            case atStart => exact ⟨0, us, Nat.zero_le _, rfl, rfl, HI0⟩
            case round =>
              clear HI0 hlen
              obtain ⟨t, us, ht, rfl, rfl, HI⟩ := hrel
              have hlen := (unhide HI).len
              have hbel := (unhide HI).bel
              by_cases hlt : t < b - b
              · exact absurd hlt (by omega)
              · have hfin := unhide HI
                rw [listOf_drop_all B b (b + t) (by omega)] at hfin
                have e9 : us = U := hfin.fold
                subst e9
                clear hbel HI
                go_wp2
                go_ret
                exact ⟨_, rfl, hfin.own, hfin.bel⟩
      · have hn1 : ¬ lb = b := by omega
        go_wp2
        go_loopw [5, 59] (fun u i wr => ∃ (t : Nat) (us : List (Int × Int)), t ≤ a - a ∧ i = .int .i64 t ∧ u = .slice (some ⟨w.heap.size, 0, none⟩) us.length (a + lb) ∧
            Hid (UInv w wr (a + lb) us (a + b + t) ((listOf A a).drop (a + t) ++ (listOf B lb).drop b) U)) (fun _ i _ => a - a - (intOf i).toNat)
        case atStart => exact ⟨0, us, Nat.zero_le _, rfl, rfl, HI0⟩
        case round =>
          clear HI0 hlen
          obtain ⟨t, us, ht, rfl, rfl, HI⟩ := hrel
          have hlen := (unhide HI).len
          have hbel := (unhide HI).bel
          by_cases hlt : t < a - a
          · exact absurd hlt (by omega)
          · have ht' : t = a - a := by omega
            have hinv0 := unhide HI
            rw [listOf_drop_all A a (a + t) (by omega), List.nil_append, show a + b + t = a + b from by omega] at hinv0
            have HI0 := hide hinv0
            clear hinv0 HI hbel ht'
            have hlen := (unhide HI0).len
            go_wp2
            go_loopw [5, 71] (fun u i wr => ∃ (t : Nat) (us : List (Int × Int)), t ≤ lb - b ∧ i = .int .i64 t ∧ u = .slice (some ⟨w.heap.size, 0, none⟩) us.length (a + lb) ∧
                Hid (UInv w wr (a + lb) us (a + b + t) ((listOf B lb).drop (b + t)) U)) (fun _ i _ => lb - b - (intOf i).toNat)
            case atStart => exact ⟨0, us, Nat.zero_le _, rfl, rfl, HI0⟩
            case round =>
              clear HI0 hlen
              obtain ⟨t, us, ht, rfl, rfl, HI⟩ := hrel
              have hlen := (unhide HI).len
              have hbel := (unhide HI).bel
              by_cases hlt : t < lb - b
              · obtain ⟨c1, c2⟩ := unhide HB (b + t) (by omega)
                rw [← hbel.cell (World.block_lt_of_cell? w _ c1)] at c1
                rw [← hbel.cell (World.block_lt_of_cell? w _ c2)] at c2
                have o1 := unhide OB (b + t) (by omega)
                have hinv := unhide HI
                rw [listOf_drop B lb (b + t) (by omega)] at hinv
                have BEL := hide hbel
                clear hbel
                generalize B (b + t) = x at c1 c2 o1 hinv
                obtain ⟨x1, x2⟩ := x
                simp only at c1 c2
                rw [show (b + t) * 2 = b * 2 + t * 2 from by omega] at c1 c2
                have HINV := hide hinv
                have O1 := hide o1
                clear hinv o1
                go_wp2_with fail
                refine (extend_any w.heap.size w.heap.size (a + lb) us (x1, x2) _ (unhide HINV).ok (unhide O1) (by omega) (by omega) ((unhide HINV).own.alloc _)).mono ?_
                rintro e w2 ⟨rfl, own2, gr2⟩
                have hnew := (unhide HINV).step (unhide O1) ((unhide BEL).alloc (unhide BEL).size _) own2 gr2
                have HN := hide hnew
                clear hnew own2 gr2
                go_wp2
                go_roundw
                case rel => exact ⟨t + 1, _, by omega, by go_num, rfl, by have h9 := unhide HN; rw [show a + b + t + 1 = a + b + (t + 1) from by omega, show b + t + 1 = b + (t + 1) from by omega] at h9; exact h9⟩
                case measure => simp [intOf]; omega
              · have hfin := unhide HI
                rw [listOf_drop_all B lb (b + t) (by omega)] at hfin
                have e9 : us = U := hfin.fold
                subst e9
                clear hbel HI
                go_wp2
                go_ret
                exact ⟨_, rfl, hfin.own, hfin.bel⟩
      · go_wp2
        go_loopw [5, 59] (fun u i wr => ∃ (t : Nat) (us : List (Int × Int)), t ≤ a - a ∧ i = .int .i64 t ∧ u = .slice (some ⟨w.heap.size, 0, none⟩) us.length (a + b) ∧
            Hid (UInv w wr (a + b) us (a + b + t) ((listOf A a).drop (a + t) ++ (listOf B b).drop b) U)) (fun _ i _ => a - a - (intOf i).toNat)
        case atStart => exact ⟨0, us, Nat.zero_le _, rfl, rfl, HI0⟩
        case round =>
          clear HI0 hlen
          obtain ⟨t, us, ht, rfl, rfl, HI⟩ := hrel
          have hlen := (unhide HI).len
          have hbel := (unhide HI).bel
          by_cases hlt : t < a - a
          · exact absurd hlt (by omega)
          · have ht' : t = a - a := by omega
            have hinv0 := unhide HI
            rw [listOf_drop_all A a (a + t) (by omega), List.nil_append, show a + b + t = a + b from by omega] at hinv0
            have HI0 := hide hinv0
            clear hinv0 HI hbel ht'
            have hlen := (unhide HI0).len
            go_wp2
            go_loopw [5, 71] (fun u i wr => ∃ (t : Nat) (us : List (Int × Int)), t ≤ b - b ∧ i = .int .i64 t ∧ u = .slice (some ⟨w.heap.size, 0, none⟩) us.length (a + b) ∧
                Hid (UInv w wr (a + b) us (a + b + t) ((listOf B b).drop (b + t)) U)) (fun _ i _ => b - b - (intOf i).toNat)
            case atStart => exact ⟨0, us, Nat.zero_le _, rfl, rfl, HI0⟩
            case round =>
              clear HI0 hlen
              obtain ⟨t, us, ht, rfl, rfl, HI⟩ := hrel
              have hlen := (unhide HI).len
              have hbel := (unhide HI).bel
              by_cases hlt : t < b - b
              · exact absurd hlt (by omega)
              · have hfin := unhide HI
                rw [listOf_drop_all B b (b + t) (by omega)] at hfin
                have e9 : us = U := hfin.fold
                subst e9
                clear hbel HI
                go_wp2
                go_ret
                exact ⟨_, rfl, hfin.own, hfin.bel⟩

end Go.Proofs.Qxb6603766a
