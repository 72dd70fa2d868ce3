/- What both laws share: valid rows as lists; zzBytes. -/
import Derived.Test.Qxb6603766aValid
namespace Go.Proofs.Qxb6603766a
open Go.RowKit
set_option linter.unusedVariables false

theorem vs_lt {n : Nat} {L H : Nat → Int} (h : VS n L H) {i : Nat} : ∀ j, i < j → j < n → H i + 1 < L j
  | 0, h1, _ => absurd h1 (Nat.not_lt_zero _)
  | j + 1, h1, h2 => by
    have hj := (h (j + 1) h2).2.2.2 (by omega)
    simp only [Nat.add_sub_cancel] at hj
    by_cases e : i = j
    · subst e; exact hj
    · have h3 := vs_lt h (i := i) j (by omega) (by omega)
      have h4 := h j (by omega)
      omega

theorem vs_valid {n : Nat} {L H : Nat → Int} (h : VS n L H) : Valid (listOf (fun j => (L j, H j)) n) := by
  constructor
  · rw [List.pairwise_iff_getElem]
    intro i j hi hj hij
    have hj' : j < n := by simpa [listOf] using hj
    simpa [listOf] using vs_lt h j hij hj'
  · intro p hp
    simp only [listOf, List.mem_map, List.mem_range] at hp
    obtain ⟨j, hj, rfl⟩ := hp
    have := h j hj
    exact ⟨this.1, this.2.1, this.2.2.1⟩

theorem valid_vs {us : List (Int × Int)} (h : Valid us) : VS us.length (fun j => (nth us j).1) (fun j => (nth us j).2) := by
  intro j hj
  obtain ⟨h1, h2, h3⟩ := h.2 _ (nth_mem hj)
  refine ⟨h1, h2, h3, fun h0 => ?_⟩
  have := List.pairwise_iff_getElem.1 h.1 (j - 1) j (by omega) hj (by omega)
  simpa [nth, List.getD, hj, show j - 1 < us.length by omega] using this

theorem nth_listOf (A : Nat → Int × Int) {n j : Nat} (h : j < n) : nth (listOf A n) j = A j := by simp [nth, listOf, List.getD, h]

theorem vrow_congr {w : World} {a : Option Addr} {n : Nat} {F G : Nat → Value} (h : VRow w a n F) (e : ∀ i, i < n → F i = G i) : VRow w a n G := by
  rcases h with h | ⟨b, o, h, hc⟩
  · exact .inl h
  · exact .inr ⟨b, o, h, fun j hj => by rw [hc j hj, e j hj]⟩

theorem row2_of {w : World} {a a' : Option Addr} {n : Nat} {L H : Nat → Int} (h : VRow w a n (fun j => .int .i32 (L j))) (h' : VRow w a' n (fun j => .int .i32 (H j))) : Row2 w a a' (listOf (fun j => (L j, H j)) n) := by
  unfold Row2
  rw [listOf_length]
  exact ⟨vrow_congr h (fun i hi => by rw [nth_listOf _ hi]), vrow_congr h' (fun i hi => by rw [nth_listOf _ hi])⟩

theorem row2_nil (w : World) (a a' : Option Addr) : Row2 w a a' [] := ⟨.inl rfl, .inl rfl⟩

/-- patB1ValidSet, whatever two rows. -/
theorem validSet_any (a a' : Option Addr) (n n' c c' : Nat) (L H : Nat → Int) (w : World) (hn : n ≤ 1048576) (hn' : n' ≤ 1048576) (h : VRow w a n (fun j => .int .i32 (L j))) (h' : VRow w a' n' (fun j => .int .i32 (H j))) :
    Calls Try.prog 8 #[.slice a n c, .slice a' n' c'] w (VPost w (n = n' ∧ VS n L H)) := by
  by_cases e : n = n'
  · subst e
    have key : Calls Try.prog 8 #[.slice a n c, .slice a' n c'] w (VPost w (VS n L H)) := by
      rcases h with rfl | ⟨b, o, rfl, hc⟩
      · exact validSet_zero a a' c c' w L H
      · rcases h' with rfl | ⟨b', o', rfl, hc'⟩
        · exact validSet_zero _ a' c c' w L H
        · exact validSet_pos b o b' o' n c c' L H w hn hc hc'
    exact key.mono fun e w' ⟨b, h1, h2, h3⟩ => ⟨b, h1, by rw [h2]; simp, h3⟩
  · exact validSet_ne a a' n n' c c' w _ hn hn' e (fun hp => e hp.1)

theorem validSet_yes (a a' : Option Addr) (c c' : Nat) (us : List (Int × Int)) (w : World) (hn : us.length ≤ 1048576) (hv : Valid us) (h : Row2 w a a' us) :
    Calls Try.prog 8 #[.slice a us.length c, .slice a' us.length c'] w fun e w' => e = .returned (.bool true) ∧ ∃ m, w' = w.drewN m :=
  (validSet_any a a' us.length us.length c c' _ _ w hn hn h.1 h.2).mono fun e w' ⟨b, h1, h2, h3⟩ => ⟨by rw [h1, h2.2 ⟨rfl, valid_vs hv⟩], h3⟩

def BPost (w : World) (e : Ending) (w' : World) : Prop := ∃ b : Bool, e = .returned (.bool b) ∧ w = w'

set_option maxHeartbeats 800000 in
theorem zzBytes4_any (a0 : Option Addr) (n0 c0 : Nat) (a1 : Option Addr) (n1 c1 : Nat) (a2 : Option Addr) (n2 c2 : Nat) (a3 : Option Addr) (n3 c3 : Nat) (w : World) (m0 : n0 ≤ maxLen) (m1 : n1 ≤ maxLen) (m2 : n2 ≤ maxLen) (m3 : n3 ≤ maxLen) :
    Calls Try.prog 12 #[.slice a0 n0 c0, .slice a1 n1 c1, .slice a2 n2 c2, .slice a3 n3 c3] w (BPost w) := by
  unfold maxLen at m0 m1 m2 m3
  go_enter Try.func12, Try.ntmps12
  go_wp2
  all_goals
    go_ret
    exact ⟨_, rfl, rfl⟩

set_option maxHeartbeats 800000 in
theorem zzBytes3_any (a0 : Option Addr) (n0 c0 : Nat) (a1 : Option Addr) (n1 c1 : Nat) (a2 : Option Addr) (n2 c2 : Nat) (a3 : Option Addr) (n3 c3 : Nat) (w : World) (m0 : n0 ≤ maxLen) (m1 : n1 ≤ maxLen) (m2 : n2 ≤ maxLen) (m3 : n3 ≤ maxLen) :
    Calls Try.prog 7 #[.slice a0 n0 c0, .slice a1 n1 c1, .slice a2 n2 c2, .slice a3 n3 c3] w (BPost w) := by
  unfold maxLen at m0 m1 m2 m3
  go_enter Try.func7, Try.ntmps7
  go_wp2
  all_goals
    go_ret
    exact ⟨_, rfl, rfl⟩

/-- The four arguments, as the walk is told of them. -/
structure Told (w : World) (a0 : Option Addr) (n0 : Nat) (a1 : Option Addr) (n1 : Nat) (a2 : Option Addr) (n2 : Nat) (a3 : Option Addr) (n3 : Nat) (L0 L1 L2 L3 : Nat → Int) : Prop where
  m0 : n0 ≤ maxLen
  m1 : n1 ≤ maxLen
  m2 : n2 ≤ maxLen
  m3 : n3 ≤ maxLen
  e0 : a0 = none → n0 = 0
  e1 : a1 = none → n1 = 0
  e2 : a2 = none → n2 = 0
  e3 : a3 = none → n3 = 0
  h0 : VRow w a0 n0 (fun j => .int .i32 (L0 j))
  h1 : VRow w a1 n1 (fun j => .int .i32 (L1 j))
  h2 : VRow w a2 n2 (fun j => .int .i32 (L2 j))
  h3 : VRow w a3 n3 (fun j => .int .i32 (L3 j))

end Go.Proofs.Qxb6603766a
