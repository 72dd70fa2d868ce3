/- (set).extend. -/
import Derived.Test.Qxb6603766aSet
import Derived.Test.Qxb6603766aPlain
import Derived.Deep.QuietTactic
import Derived.BigQuiet
namespace Go.Proofs.Qxb6603766a
open Go.RowKit
set_option linter.unusedVariables false

def spCells (us : List (Int × Int)) : List Value := us.flatMap fun p => [.int .i32 p.1, .int .i32 p.2]
theorem spCells_length (us : List (Int × Int)) : (spCells us).length = us.length * 2 := by
  induction us with
  | nil => rfl
  | cons p us ih => simp [spCells] at ih ⊢; omega
theorem spCells_snoc (us : List (Int × Int)) (q : Int × Int) : spCells (us ++ [q]) = spCells us ++ [.int .i32 q.1, .int .i32 q.2] := by simp [spCells]

/-- What 'extend' leaves where it joins the last span. -/
def JoinW (w : World) (g off : Nat) (p q v : Int) (w' : World) : Prop := ∃ d, w' = ((w.alloc (.cells #[.int .i32 p, .int .i32 q] 56)).setCell ⟨g, off, none⟩ (.int .i32 v)).drewN d

set_option maxHeartbeats 400000 in
theorem extend_join (g m cap : Nat) (h p q : Int) (w : World) (hm : m ≤ 1048576) (hh0 : 0 ≤ h) (hh : h ≤ 1114111) (hp0 : 0 ≤ p) (hq : q ≤ 1114111) (hle : p ≤ h + 1) (hg : g < w.heap.size)
    (hc : w.cell? ⟨g, m * 2 + 1, none⟩ = some (.int .i32 h)) (hf : w.frozen? ⟨g, m * 2 + 1, none⟩ = false) :
    Calls Try.prog 23 #[.slice (some ⟨g, 0, none⟩) (m + 1) cap, .agg #[.int .i32 p, .int .i32 q]] w fun e w' => e = .returned (.slice (some ⟨g, 0, none⟩) (m + 1) cap) ∧ JoinW w g (m * 2 + 1) p q (max h q) w' := by
  have hc' : ∀ o, (w.alloc o).cell? ⟨g, m * 2 + 1, none⟩ = some (.int .i32 h) := fun o => by
    rw [World.cell?_of_block (w := w)]
    · exact hc
    · exact Below.heap_alloc _ _ _ hg
  have hf' : ∀ o, (w.alloc o).frozen? ⟨g, m * 2 + 1, none⟩ = false := fun o => by
    rw [World.frozen?_of_block (w := w)]
    · exact hf
    · exact Below.heap_alloc _ _ _ hg
  clear hc hf hg
  have hgt : decide ((0 : Int) < (m : Int) + 1) = true := by rw [decide_eq_true_iff]; omega
  by_cases hhq : h < q
  · rw [Int.max_eq_right (Int.le_of_lt hhq)]
    go_enter Try.func23, Try.ntmps23
    go_wp2
    go_quiet (fail)
    go_wp2
    go_region
    all_goals
      go_wp2
      go_ret
      exact ⟨rfl, _, rfl⟩
  · rw [Int.max_eq_left (by omega)]
    go_enter Try.func23, Try.ntmps23
    go_wp2
    go_quiet (fail)
    go_wp2
    go_region
    all_goals
      go_wp2
      go_ret
      exact ⟨rfl, _, rfl⟩

/-- What 'extend' leaves where it appends. -/
def NextW (base : Nat) (w : World) (g k cap : Nat) (xs : List Value) (p q : Int) (w' : World) : Prop :=
  w'.ownsRow base 56 2 (.slice (some ⟨g, 0, none⟩) (k + 1) cap) (k + 1) (xs ++ [.int .i32 p, .int .i32 q]) ∧ w.grownBy w' (some g)

theorem two_new (w : World) (u v : Value) (t : TypeId) : ∀ j x, [u, v][j]? = some x → (w.alloc (.cells #[u, v] t)).cell? ((⟨w.heap.size, 0, none⟩ : Addr).add j) = some x := by
  intro j x hj
  rw [Addr.add_lit, Nat.zero_add, cell_of_row (w.alloc (.cells #[u, v] t)) w.heap.size j #[u, v] t (0, 0) (heap_alloc_new w _)]
  simpa using hj

theorem grown_two {w w' : World} {o o' : Obj} {n : Nat} {row : Option Nat} (h : (((w.alloc o).drewN n).alloc o').grownBy w' row) : w.grownBy w' row := by
  have h1 := h.size
  refine ⟨h.os, h.tape, h.output, by simp at h1; omega, fun k hk hne => ?_⟩
  rw [h.block k (by simp; omega) hne]
  rw [Below.heap_alloc _ _ _ (by simp; omega)]
  exact Below.heap_alloc w _ _ hk

set_option maxHeartbeats 400000 in
theorem extend_first (base g cap : Nat) (p q : Int) (w : World) (hcap : 1 ≤ cap) (hown : w.ownsRow base 56 2 (.slice (some ⟨g, 0, none⟩) 0 cap) 0 []) :
    Calls Try.prog 23 #[.slice (some ⟨g, 0, none⟩) 0 cap, .agg #[.int .i32 p, .int .i32 q]] w fun e w' => e = .returned (.slice (some ⟨g, 0, none⟩) 1 cap) ∧ NextW base w g 0 cap [] p q w' := by
  obtain ⟨i0, hi, hz0, hz1, hz2⟩ := info_parts info56
  go_enter Try.func23, Try.ntmps23
  go_wp2
  go_quiet (fail)
  have hc1 := two_new ((w.alloc (.cells #[.int .i32 p, .int .i32 q] 56)).drewN nq) (.int .i32 p) (.int .i32 q) 56
  simp only [World.heap_drewN, World.size_alloc] at hc1
  have C1 := hide hc1
  clear hc1
  go_wp2_with (at_builtin; refine wpList_append_fits _ rfl _ _ 37 rfl base 56 i0 2 Try.underlying37 hi hz1 g 0 cap [] rfl ((hown.alloc _).alloc _) ⟨w.heap.size + 1, 0, none⟩ 1 1 [.int .i32 p, .int .i32 q] rfl rfl (unhide C1) (by simp [Value.oneCell']) (by omega) ?_)
  intro w1 hown1 hgrow1
  have hgr := grown_two hgrow1
  clear hgrow1 hown C1
  go_wp2
  go_ret
  exact ⟨rfl, hown1, hgr⟩

set_option maxHeartbeats 400000 in
theorem extend_next (base g m cap : Nat) (xs : List Value) (h p q : Int) (w : World) (hm : m ≤ 1048576) (hh0 : 0 ≤ h) (hh : h ≤ 1114111) (hle : h + 1 < p) (hg : g < w.heap.size)
    (hc : w.cell? ⟨g, m * 2 + 1, none⟩ = some (.int .i32 h)) (hcap : m + 2 ≤ cap) (hown : w.ownsRow base 56 2 (.slice (some ⟨g, 0, none⟩) (m + 1) cap) (m + 1) xs) :
    Calls Try.prog 23 #[.slice (some ⟨g, 0, none⟩) (m + 1) cap, .agg #[.int .i32 p, .int .i32 q]] w fun e w' => e = .returned (.slice (some ⟨g, 0, none⟩) (m + 1 + 1) cap) ∧ NextW base w g (m + 1) cap xs p q w' := by
  obtain ⟨i0, hi, hz0, hz1, hz2⟩ := info_parts info56
  have hc' : ∀ o, (w.alloc o).cell? ⟨g, m * 2 + 1, none⟩ = some (.int .i32 h) := fun o => by
    rw [World.cell?_of_block (w := w)]
    · exact hc
    · exact Below.heap_alloc _ _ _ hg
  clear hc hg
  have hgt : decide ((0 : Int) < (m : Int) + 1) = true := by rw [decide_eq_true_iff]; omega
  have hdl : decide (p ≤ h + 1) = false := by rw [decide_eq_false_iff_not]; omega
  go_enter Try.func23, Try.ntmps23
  go_wp2
  go_quiet (fail)
  have hc1 := two_new ((w.alloc (.cells #[.int .i32 p, .int .i32 q] 56)).drewN nq) (.int .i32 p) (.int .i32 q) 56
  simp only [World.heap_drewN, World.size_alloc] at hc1
  have C1 := hide hc1
  clear hc1
  go_wp2_with (at_builtin; refine wpList_append_fits _ rfl _ _ 37 rfl base 56 i0 2 Try.underlying37 hi hz1 g (m + 1) cap xs rfl ((hown.alloc _).alloc _) ⟨w.heap.size + 1, 0, none⟩ 1 1 [.int .i32 p, .int .i32 q] rfl rfl (unhide C1) (by simp [Value.oneCell']) (by omega) ?_)
  intro w1 hown1 hgrow1
  have hgr := grown_two hgrow1
  clear hgrow1 hown C1
  go_wp2
  go_ret
  exact ⟨rfl, hown1, hgr⟩

/-- 'extend', whatever the owned set. -/
theorem extend_any (base g cap : Nat) (us : List (Int × Int)) (sp : Int × Int) (w : World) (hv : ∀ p, p ∈ us → Ok p) (hs : Ok sp) (hlen : us.length ≤ 1048576) (hcap : us.length + 1 ≤ cap)
    (hown : w.ownsRow base 56 2 (.slice (some ⟨g, 0, none⟩) us.length cap) us.length (spCells us)) :
    Calls Try.prog 23 #[.slice (some ⟨g, 0, none⟩) us.length cap, .agg #[.int .i32 sp.1, .int .i32 sp.2]] w fun e w' => e = .returned (.slice (some ⟨g, 0, none⟩) (ext us sp).length cap) ∧
      w'.ownsRow base 56 2 (.slice (some ⟨g, 0, none⟩) (ext us sp).length cap) (ext us sp).length (spCells (ext us sp)) ∧ w.grownBy w' (some g) := by
  have hg : g < w.heap.size := (hown.lt g rfl).2
  rcases snoc_cases us with rfl | ⟨i, ⟨l, h⟩, rfl⟩
  · exact (extend_first base g cap sp.1 sp.2 w (by simpa using hcap) hown).mono fun e w' ⟨h1, h2, h3⟩ => ⟨by rw [h1, ext_nil]; rfl, by rw [ext_nil]; exact h2, h3⟩
  · obtain ⟨o1, o2, o3⟩ := hv (l, h) (by simp)
    obtain ⟨s1, s2, s3⟩ := hs
    have hl : (i ++ [(l, h)]).length = i.length + 1 := by simp
    rw [hl] at hown hlen hcap ⊢
    have hcell : w.cell? ⟨g, i.length * 2 + 1, none⟩ = some (.int .i32 h) := by
      rw [hown.cellAt _ (by omega), spCells_snoc, List.getElem?_append_right (by rw [spCells_length]; omega), spCells_length]
      simp [show i.length * 2 + 1 - i.length * 2 = 1 by omega]
    by_cases hle : sp.1 ≤ h + 1
    · refine (extend_join g i.length cap h sp.1 sp.2 w (by omega) (by simp at o1 o2; omega) o3 s1 s3 hle hg hcell (hown.frozenAt _)).mono fun e w' ⟨h1, d, h2⟩ => ?_
      rw [ext_join i (l, h) sp hle]
      have hst := (hown.alloc (.cells #[.int .i32 sp.1, .int .i32 sp.2] 56)).stored (i.length * 2 + 1) (.int .i32 (max h sp.2))
      have e1 : (spCells (i ++ [(l, h)])).set (i.length * 2 + 1) (.int .i32 (max h sp.2)) = spCells (i ++ [(l, max h sp.2)]) := by
        rw [spCells_snoc, spCells_snoc, List.set_append_right _ _ (by rw [spCells_length]; omega), spCells_length]
        simp [show i.length * 2 + 1 - i.length * 2 = 1 by omega]
      rw [e1] at hst
      subst h2
      refine ⟨by rw [h1]; simp, by rw [show (i ++ [(l, max h sp.2)]).length = i.length + 1 from by simp]; exact hst.1, ?_⟩
      have hgr := hst.2
      refine ⟨hgr.os, hgr.tape, hgr.output, by simp, fun k hk hne => ?_⟩
      exact (hgr.block k (by simp; omega) hne).trans (Below.heap_alloc w _ _ hk)
    · refine (extend_next base g i.length cap _ h sp.1 sp.2 w (by omega) (by simp at o1 o2; omega) o3 (by omega) hg hcell (by omega) hown).mono fun e w' ⟨h1, h2, h3⟩ => ?_
      rw [ext_next i (l, h) sp hle]
      refine ⟨by rw [h1]; simp, ?_, h3⟩
      rw [spCells_snoc (i ++ [(l, h)]) sp]
      simpa using h2

end Go.Proofs.Qxb6603766a
