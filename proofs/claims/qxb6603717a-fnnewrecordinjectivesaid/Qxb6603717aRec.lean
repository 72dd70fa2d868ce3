import Derived.Test.Qxb6603717aProg
import Derived.Test.Qxb6603717aLaws
import Derived.WalkSpells
namespace Go.Proofs.Qxb6603717a
open Go.RowKit

theorem info5 : (Try.prog.info? 5).map (fun i => (i.zero, i.size, i.bytes)) = some (some (.int .u8 0), 1, 1) := by kernel_rfl

/-- The cells of a record's start. -/
def recTail (k : Int) (g : ByteArray) : List Value := if k = 1 then [] else .int .u8 ((g.size : Int) % 256) :: Lib.strCells g
def recCells (k : Int) (g : ByteArray) : List Value := List.replicate 4 (.int .u8 0) ++ [.int .u8 k] ++ recTail k g

set_option maxHeartbeats 400000 in
theorem newRecord_commit (g : ByteArray) (s : Nat) (w : World) (hg : g.size ≤ 65536) (hs : s ≤ 65536) :
    Calls Try.prog 24 #[.int .u8 1, .string g, .int .i64 s] w fun e w' => e = .returned (.slice (some ⟨w.heap.size, 0, none⟩) 5 (6 + g.size + s)) ∧
      w'.ownsRow w.heap.size 5 1 (.slice (some ⟨w.heap.size, 0, none⟩) 5 (6 + g.size + s)) 5 (recCells 1 g) ∧ Below w.heap.size w w' := by
  obtain ⟨i0, hi, hz0, hz1, hz2⟩ := info_parts info5
  go_enter Try.func24, Try.ntmps24
  go_wp2_with (at_make; refine wpList_make_len _ rfl _ _ 23 rfl w.heap.size 5 i0 (.int .u8 0) Try.underlying23 hi hz0 hz1 hz2 rfl .i64 .i64 _ _ 4 (6 + g.size + s) rfl rfl rfl (by omega) (by omega) (by omega) (by omega) ?_)
  intro w1 hown1 hgrow1
  have hz1w := hgrow1.size
  have hb1 : Below w.heap.size w w1 := (Below.refl _ _).grown hgrow1 (Nat.le_refl _) (by intro k hk; cases hk)
  clear hgrow1
  go_wp2_with (at_builtin; refine wpList_append_fits _ rfl _ _ 23 rfl w.heap.size 5 i0 1 Try.underlying23 hi hz1 w.heap.size 4 (6 + g.size + s) _ rfl (hown1.alloc _) ⟨w1.heap.size, 0, none⟩ 1 1 [.int .u8 1] rfl rfl (cell_one_new _ _ _) (by simp [Value.oneCell']) (by omega) ?_)
  intro w2 hown2 hgrow2
  have hb2 : Below w.heap.size w w2 := (hb1.alloc hz1w _).grown hgrow2 (by simp; omega) (by intro k hk; cases hk; exact Nat.le_refl _)
  clear hown1 hb1 hgrow2
  go_wp2
  go_ret
  exact ⟨rfl, hown2, hb2⟩

set_option maxHeartbeats 400000 in
theorem newRecord_other (k : Int) (g : ByteArray) (s : Nat) (w : World) (hk : (k == 1) = false) (hg : g.size ≤ 65536) (hs : s ≤ 65536) :
    Calls Try.prog 24 #[.int .u8 k, .string g, .int .i64 s] w fun e w' => e = .returned (.slice (some ⟨w.heap.size, 0, none⟩) (6 + g.size) (6 + g.size + s)) ∧
      w'.ownsRow w.heap.size 5 1 (.slice (some ⟨w.heap.size, 0, none⟩) (6 + g.size) (6 + g.size + s)) (6 + g.size) (recCells k g) ∧ Below w.heap.size w w' := by
  obtain ⟨i0, hi, hz0, hz1, hz2⟩ := info_parts info5
  go_enter Try.func24, Try.ntmps24
  go_wp2_with (at_make; refine wpList_make_len _ rfl _ _ 23 rfl w.heap.size 5 i0 (.int .u8 0) Try.underlying23 hi hz0 hz1 hz2 rfl .i64 .i64 _ _ 4 (6 + g.size + s) rfl rfl rfl (by omega) (by omega) (by omega) (by omega) ?_)
  intro w1 hown1 hgrow1
  have hz1w := hgrow1.size
  have hb1 : Below w.heap.size w w1 := (Below.refl _ _).grown hgrow1 (Nat.le_refl _) (by intro k hk; cases hk)
  clear hgrow1
  go_wp2_with (at_builtin; refine wpList_append_fits _ rfl _ _ 23 rfl w.heap.size 5 i0 1 Try.underlying23 hi hz1 w.heap.size 4 (6 + g.size + s) _ rfl (hown1.alloc _) ⟨w1.heap.size, 0, none⟩ 1 1 [.int .u8 k] rfl rfl (cell_one_new _ _ _) (by simp [Value.oneCell']) (by omega) ?_)
  intro w2 hown2 hgrow2
  have hz2w := hgrow2.size
  have hb2 : Below w.heap.size w w2 := (hb1.alloc hz1w _).grown hgrow2 (by simp; omega) (by intro k hk; cases hk; exact Nat.le_refl _)
  clear hown1 hb1 hgrow2
  simp only [World.size_alloc] at hz2w
  go_wp2_with (at_builtin; refine wpList_append_fits _ rfl _ _ 23 rfl w.heap.size 5 i0 1 Try.underlying23 hi hz1 w.heap.size 5 (6 + g.size + s) _ rfl (hown2.alloc _) ⟨w2.heap.size, 0, none⟩ 1 1 [.int .u8 ((g.size : Int) % 256)] rfl rfl (cell_one_new _ _ _) (by simp [Value.oneCell']) (by omega) ?_)
  intro w3 hown3 hgrow3
  have hz3w := hgrow3.size
  have hb3 : Below w.heap.size w w3 := (hb2.alloc (by omega) _).grown hgrow3 (by simp; omega) (by intro k hk; cases hk; exact Nat.le_refl _)
  clear hown2 hb2 hgrow3
  simp only [World.size_alloc] at hz3w
  go_wp2_with (at_builtin; refine wpList_append_fits_string _ rfl _ _ 23 9 rfl w.heap.size 5 i0 Try.underlying23 Try.underlying9 hi hz1 w.heap.size 6 (6 + g.size + s) _ rfl hown3 g rfl (by omega) ?_)
  intro w4 hown4 hgrow4
  have hb4 : Below w.heap.size w w4 := hb3.grown hgrow4 (by omega) (by intro k hk; cases hk; exact Nat.le_refl _)
  clear hown3 hb3 hgrow4
  have hcells : recCells k g = List.replicate 4 (.int .u8 0) ++ [.int .u8 k] ++ [.int .u8 ((g.size : Int) % 256)] ++ Lib.strCells g := by
    have hk' : ¬ k = 1 := by simpa using hk
    simp [recCells, recTail, hk']
  have H : Hid (recCells k g = List.replicate 4 (.int .u8 0) ++ [.int .u8 k] ++ [.int .u8 ((g.size : Int) % 256)] ++ Lib.strCells g) := hcells
  clear hcells
  go_wp2
  go_ret
  exact ⟨rfl, by rw [H.out]; exact hown4, hb4⟩

/-- 'newRecord', whatever the kind. -/
def RecPost (k : Int) (g : ByteArray) (s : Nat) (w : World) (e : Ending) (w' : World) : Prop :=
  ∃ n, e = .returned (.slice (some ⟨w.heap.size, 0, none⟩) n (6 + g.size + s)) ∧ n ≤ 6 + g.size ∧
    w'.ownsRow w.heap.size 5 1 (.slice (some ⟨w.heap.size, 0, none⟩) n (6 + g.size + s)) n (recCells k g) ∧ Below w.heap.size w w'

theorem newRecord_any (k : Int) (g : ByteArray) (s : Nat) (w : World) (hg : g.size ≤ 65536) (hs : s ≤ 65536) :
    Calls Try.prog 24 #[.int .u8 k, .string g, .int .i64 s] w (RecPost k g s w) := by
  by_cases hk : k = 1
  · subst hk
    exact (newRecord_commit g s w hg hs).mono fun e w' ⟨h1, h2, h3⟩ => ⟨5, h1, by omega, h2, h3⟩
  · exact (newRecord_other k g s w (by simpa using hk) hg hs).mono fun e w' ⟨h1, h2, h3⟩ => ⟨6 + g.size, h1, by omega, h2, h3⟩

set_option maxHeartbeats 400000 in
theorem zzNewRecord_any (k : Int) (g : ByteArray) (s : Nat) (w : World) (hg : g.size ≤ 65536) (hs : s ≤ 65536) :
    Calls Try.prog 7 #[.int .u8 k, .string g, .int .i64 s] w (RecPost k g s w) := by
  go_enter Try.func7, Try.ntmps7
  go_wp2_with (go_at_call 24; refine (newRecord_any k g s w hg hs).mono ?_; rintro e w' ⟨n, rfl, hn, hown, hb⟩)
  go_ret
  exact ⟨n, rfl, hn, hown, hb⟩

end Go.Proofs.Qxb6603717a
