/- ZZUnion; patB1SameSet where the two are the same; zzBytes. -/
import Derived.Test.Qxb6603766aUnion
namespace Go.Proofs.Qxb6603766a
open Go.RowKit
set_option linter.unusedVariables false

def nth (us : List (Int × Int)) (j : Nat) : Int × Int := us.getD j (0, 0)
theorem listOf_nth (us : List (Int × Int)) : listOf (nth us) us.length = us := by
  apply List.ext_getElem
  · simp [listOf]
  · intro i h1 h2
    simp [listOf, nth, List.getD, h2]
theorem nth_mem {us : List (Int × Int)} {j : Nat} (h : j < us.length) : nth us j ∈ us := by
  simp only [nth, List.getD, List.getElem?_eq_getElem h, Option.getD_some]
  exact List.getElem_mem h

/-- Two rows of numbers show the lows and the highs of us. -/
def Row2 (w : World) (a a' : Option Addr) (us : List (Int × Int)) : Prop := VRow w a us.length (fun j => .int .i32 (nth us j).1) ∧ VRow w a' us.length (fun j => .int .i32 (nth us j).2)
theorem Row2.below {w w' : World} {a a' : Option Addr} {us : List (Int × Int)} (h : Row2 w a a' us) (hb : Below w.heap.size w w') : Row2 w' a a' us := ⟨h.1.below hb, h.2.below hb⟩
theorem Row2.drewN {w : World} {a a' : Option Addr} {us : List (Int × Int)} (h : Row2 w a a' us) (m : Nat) : Row2 (w.drewN m) a a' us := h

theorem spCells_get (us : List (Int × Int)) : ∀ j, j < us.length → (spCells us)[j * 2]? = some (.int .i32 (nth us j).1) ∧ (spCells us)[j * 2 + 1]? = some (.int .i32 (nth us j).2) := by
  induction us with
  | nil => intro j hj; simp at hj
  | cons p us ih =>
    intro j hj
    have e : spCells (p :: us) = .int .i32 p.1 :: .int .i32 p.2 :: spCells us := by simp [spCells]
    rw [e]
    cases j with
    | zero => simp [nth]
    | succ j =>
      have := ih j (by simpa using hj)
      rw [show (j + 1) * 2 = j * 2 + 1 + 1 by omega]
      simpa [nth] using this

theorem srow_of_own {w : World} {base g c : Nat} {us : List (Int × Int)} (h : w.ownsRow base 56 2 (.slice (some ⟨g, 0, none⟩) us.length c) us.length (spCells us)) : SRow w g us.length (nth us) := by
  intro j hj
  rw [h.cellAt _ (by omega), h.cellAt _ (by omega)]
  exact spCells_get us j hj

/-- What ZZUnion leaves. -/
def UPost (w : World) (us : List (Int × Int)) (e : Ending) (w' : World) : Prop :=
  ∃ g g', e = .returned (.tuple #[.slice (some ⟨g, 0, none⟩) us.length us.length, .slice (some ⟨g', 0, none⟩) us.length us.length]) ∧ Row2 w' (some ⟨g, 0, none⟩) (some ⟨g', 0, none⟩) us ∧ Below w.heap.size w w'

set_option maxHeartbeats 400000 in
theorem zzUnion_any (a a' b b' : Option Addr) (c1 c2 c3 c4 : Nat) (xs ys : List (Int × Int)) (w : World) (hx : xs.length ≤ 524288) (hy : ys.length ≤ 524288) (ox : ∀ p, p ∈ xs → Ok p) (oy : ∀ p, p ∈ ys → Ok p) (hu : (uni xs ys).length ≤ 1048576)
    (h1 : Row2 w a a' xs) (h2 : Row2 w b b' ys) :
    Calls Try.prog 10 #[.slice a xs.length c1, .slice a' xs.length c2, .slice b ys.length c3, .slice b' ys.length c4] w (UPost w (uni xs ys)) := by
  have H1 := hide h1
  have H2 := hide h2
  have OX := hide ox
  have OY := hide oy
  clear h1 h2 ox oy
  go_enter Try.func10, Try.ntmps10
  go_wp2_with fail
  refine (zzSet_any a a' xs.length c1 c2 (fun j => (nth xs j).1) (fun j => (nth xs j).2) w (by omega) (unhide H1).1 (unhide H1).2).mono ?_
  rintro e w1 ⟨g1, rfl, s1, b1⟩
  have S1 := hide s1
  have B1 := hide b1
  clear s1 b1
  go_wp2_with fail
  refine (zzSet_any b b' ys.length c3 c4 (fun j => (nth ys j).1) (fun j => (nth ys j).2) w1 (by omega) ((unhide H2).1.below (unhide B1)) ((unhide H2).2.below (unhide B1))).mono ?_
  rintro e w2 ⟨g2, rfl, s2, b2⟩
  have S2 := hide s2
  have B2 := hide b2
  clear s2 b2
  go_wp2_with fail
  refine (union_any g1 xs.length g2 ys.length (nth xs) (nth ys) w2 hx hy ((unhide S1).below (unhide B2)) (unhide S2) (fun j hj => unhide OX _ (nth_mem hj)) (fun j hj => unhide OY _ (nth_mem hj))).mono ?_
  rw [listOf_nth, listOf_nth]
  rintro e w3 ⟨c, rfl, own3, b3⟩
  have S3 := hide (srow_of_own own3)
  have hlt : w2.heap.size < w3.heap.size := (own3.lt w2.heap.size rfl).2
  have B3 := hide b3
  clear own3 b3
  generalize uni xs ys = us at *
  go_wp2_with fail
  refine (zzSpans_any w2.heap.size us.length c (nth us) w3 hu hlt (unhide S3)).mono ?_
  rintro e w4 ⟨rfl, r1, r2, b4⟩
  have hb : Below w.heap.size w w4 := by
    have b12 := (unhide B1).trans ((unhide B2).mono (unhide B1).size)
    have b13 := b12.trans ((unhide B3).mono b12.size)
    exact b13.trans (b4.mono b13.size)
  have R := hide (show Row2 w4 (some ⟨w3.heap.size, 0, none⟩) (some ⟨w3.heap.size + 1, 0, none⟩) us from ⟨r1, r2⟩)
  clear r1 r2 b4 S3 B3
  go_wp2
  go_ret2
  exact ⟨_, _, rfl, unhide R, hb⟩

set_option maxHeartbeats 400000 in
theorem sameSet_zero (a a' b b' : Option Addr) (c1 c2 c3 c4 : Nat) (w : World) :
    Calls Try.prog 13 #[.slice a 0 c1, .slice a' 0 c2, .slice b 0 c3, .slice b' 0 c4] w fun e w' => e = .returned (.bool true) ∧ ∃ m, w' = w.drewN m := by
  go_enter Try.func13, Try.ntmps13
  go_wp2
  refine wp_loop_rounds 1 ?_
  rw [rounds_succ]
  go_wp2
  go_ret
  exact ⟨rfl, 0, rfl⟩

set_option maxHeartbeats 800000 in
theorem sameSet_pos (g1 o1 g2 o2 g3 o3 g4 o4 : Nat) (c1 c2 c3 c4 n : Nat) (L H : Nat → Int) (w : World) (hn : n ≤ 1048576)
    (h1 : ∀ j, j < n → w.cell? ⟨g1, o1 + j, none⟩ = some (.int .i32 (L j))) (h2 : ∀ j, j < n → w.cell? ⟨g2, o2 + j, none⟩ = some (.int .i32 (H j)))
    (h3 : ∀ j, j < n → w.cell? ⟨g3, o3 + j, none⟩ = some (.int .i32 (L j))) (h4 : ∀ j, j < n → w.cell? ⟨g4, o4 + j, none⟩ = some (.int .i32 (H j))) :
    Calls Try.prog 13 #[.slice (some ⟨g1, o1, none⟩) n c1, .slice (some ⟨g2, o2, none⟩) n c2, .slice (some ⟨g3, o3, none⟩) n c3, .slice (some ⟨g4, o4, none⟩) n c4] w fun e w' => e = .returned (.bool true) ∧ ∃ m, w' = w.drewN m := by
  have H1 := hide h1
  have H2 := hide h2
  have H3 := hide h3
  have H4 := hide h4
  clear h1 h2 h3 h4
  go_enter Try.func13, Try.ntmps13
  go_wp2
  go_loopw [9] (fun i wr => ∃ k m : Nat, k ≤ n ∧ i = .int .i64 k ∧ wr = w.drewN m) (fun i _ => n - (intOf i).toNat)
  case atStart => exact ⟨0, 0, Nat.zero_le _, rfl, rfl⟩
  case round =>
    obtain ⟨k, m, hk, rfl, rfl⟩ := hrel
    by_cases hlt : k < n
    · have c1 := unhide H1 k hlt
      have c2 := unhide H2 k hlt
      have c3 := unhide H3 k hlt
      have c4 := unhide H4 k hlt
      generalize L k = x at c1 c3
      generalize H k = y at c2 c4
      have hlt' : (k : Int) < (n : Int) := by omega
      have hx : (x != x) = false := by simp
      have hy : (y != y) = false := by simp
      go_wp2
      go_quiet (fail)
      go_wp2
      go_roundw
      case rel => exact ⟨k + 1, _, by omega, by go_num, rfl⟩
      case measure => simp [intOf]; omega
    · go_wp2
      go_ret
      exact ⟨rfl, _, rfl⟩

theorem sameSet_any (a a' b b' : Option Addr) (c1 c2 c3 c4 : Nat) (us : List (Int × Int)) (w : World) (hn : us.length ≤ 1048576) (h1 : Row2 w a a' us) (h2 : Row2 w b b' us) :
    Calls Try.prog 13 #[.slice a us.length c1, .slice a' us.length c2, .slice b us.length c3, .slice b' us.length c4] w fun e w' => e = .returned (.bool true) ∧ ∃ m, w' = w.drewN m := by
  obtain ⟨h1, h1'⟩ := h1
  obtain ⟨h2, h2'⟩ := h2
  by_cases h0 : us.length = 0
  · rw [h0]
    exact sameSet_zero a a' b b' c1 c2 c3 c4 w
  · rcases h1 with h | ⟨g1, o1, rfl, k1⟩
    · exact absurd h h0
    rcases h1' with h | ⟨g2, o2, rfl, k2⟩
    · exact absurd h h0
    rcases h2 with h | ⟨g3, o3, rfl, k3⟩
    · exact absurd h h0
    rcases h2' with h | ⟨g4, o4, rfl, k4⟩
    · exact absurd h h0
    exact sameSet_pos g1 o1 g2 o2 g3 o3 g4 o4 c1 c2 c3 c4 us.length _ _ w hn k1 k2 k3 k4

end Go.Proofs.Qxb6603766a
