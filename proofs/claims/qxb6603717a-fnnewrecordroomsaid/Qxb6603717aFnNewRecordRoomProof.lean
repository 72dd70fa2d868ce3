/-
  'Rows.FnNewRecordRoomSaid', proved. The frame is the kit's template (proof-skeleton.mjs) at this function's number and types, its end turned to 'Below'; the walk leans on newRecord's contract (Qxb6603717aRec).
-/
import Derived.Test.Qxb6603717aRows
import Derived.WalkKit
import Derived.ProofKit
import Derived.OpenShut
import Derived.ShutString
import Derived.Test.Qxb6603717aRec
import Derived.Below
import Derived.ChangeOld
namespace Go.Proofs.Qxb6603717a.fnNewRecordRoom
open Go.ChangeShapes Go.WideShapes Go.ChangeAt Go.RowKit
open Go.ChangeMaps (open_string shut_string)
set_option linter.unusedVariables false      -- a walk need not use every 'w<i>' (that an integer argument fits its kind)

theorem own : ownKnob Try.prog.godebug = none := by kernel_rfl

/-! ### The walk: the Go text returns true and writes nothing that was there. -/
set_option maxHeartbeats 400000 in
theorem bytes_ok (a0 : Int) (a1 : ByteArray) (a2 : Int) (h : a1.size ≤ 65536) (w : World) :
    Calls Try.prog 9 #[.int .u8 a0, .string a1, .int .i64 a2] w fun e w' => e = .returned (.bool true) ∧ w' = w := by
  go_enter Try.func9, Try.ntmps9
  go_wp2
  go_ret
  exact ⟨rfl, rfl⟩

set_option maxHeartbeats 400000 in
theorem bytes_any (a0 : Int) (a1 : ByteArray) (a2 : Int) (w1 : a1.size ≤ maxLen) (w : World) :
    Calls Try.prog 9 #[.int .u8 a0, .string a1, .int .i64 a2] w fun e w' => ∃ b, e = .returned (.bool b) ∧ w' = w := by
  unfold maxLen at w1
  go_enter Try.func9, Try.ntmps9
  go_wp2
  all_goals
    go_ret
    exact ⟨_, rfl, rfl⟩

set_option maxHeartbeats 400000 in
theorem walk (a0 : Int) (a1 : ByteArray) (a2 : Int) (w0 : (Lit.int .u8 a0).wf = true) (w1 : a1.size ≤ maxLen) (w2 : (Lit.int .i64 a2).wf = true) (w : World) :
    Calls Try.prog 4 #[.int .u8 a0, .string a1, .int .i64 a2] w fun e w' => e = .returned (.bool true) ∧ Below w.heap.size w w' := by
  by_cases hg : a1.size ≤ 65536
  · by_cases hs0 : a2 < 0
    · go_enter Try.func4, Try.ntmps4
      go_wp2_with (go_at_call 9; refine (bytes_ok a0 a1 a2 hg w).mono ?_; rintro e w' ⟨rfl, rfl⟩)
      go_ret
      exact ⟨rfl, Below.refl _ _⟩
    · by_cases hs1 : 65536 < a2
      · go_enter Try.func4, Try.ntmps4
        go_wp2_with (go_at_call 9; refine (bytes_ok a0 a1 a2 hg w).mono ?_; rintro e w' ⟨rfl, rfl⟩)
        go_ret
        exact ⟨rfl, Below.refl _ _⟩
      · obtain ⟨s, rfl⟩ := Int.eq_ofNat_of_zero_le (by omega : 0 ≤ a2)
        have hs2 : s ≤ 65536 := by omega
        clear hs0 hs1
        go_enter Try.func4, Try.ntmps4
        go_wp2_with (first | (go_at_call 9; refine (bytes_ok a0 a1 s hg w).mono ?_; rintro e w' ⟨rfl, rfl⟩) | (go_at_call 7; refine (zzNewRecord_any a0 a1 s _ hg hs2).mono ?_; rintro e w' ⟨n, rfl, hn, hown, hb⟩))
        go_ret
        exact ⟨by simp; omega, hb⟩
  · unfold maxLen at w1
    go_enter Try.func4, Try.ntmps4
    go_wp2_with (go_at_call 9; refine (bytes_any a0 a1 a2 w1 w).mono ?_; rintro e w' ⟨b, rfl, rfl⟩; cases b)
    all_goals
      go_ret
      exact ⟨rfl, Below.refl _ _⟩

/-! ### THE ROW's STEP -/
set_option maxRecDepth 100000 in
theorem lifted (os : Os) (started : os.Started) (H : Type) (enc : TypeId × Value → H) :
    ReturnsInHanded {} Try.checked os 4 .any (Rows.fnNewRecordRoomSpec.pre6 enc Try.prog Try.f4 Rows.fnNewRecordRoomRow.domain false) (Rows.fnNewRecordRoomSpec.post enc Try.prog Try.f4 false true false false) := by
  refine returnsInHanded_of_change (C := Try.checked) own started (by kernel_rfl) Try.func4
    (ChangeSpec.witness6 (enc := enc) (C := Try.checked) false ⟨#[], #[.int .u8 0, .string ByteArray.empty, .int .i64 0], []⟩ 8 (by kernel_rfl) (by kernel_rfl) (by kernel_rfl) (by kernel_rfl)) ?_
  intro W base args ds gs before hval0 hW hcnd _
  have hval : ∀ (j : Nat) t v, Try.f4.params[j]? = some t → args[j]? = some v → Value.okWide Try.prog W .any base t v := hval0
  have hW' := hW
  obtain ⟨p, q, hA0, hV, rfl, hfz, hnd⟩ := hW
  have hA : DataW.TrodAll enc Try.prog W 0 (fun _ => true) true Try.f4.params.toList args.toList ds p := hA0
  rw [Try.params4] at hA hval
  obtain ⟨v0, vs0, d0, ds0, p0, q0, hargs, rfl, rfl, h0, r0⟩ := trodAll_cons hA
  obtain ⟨v1, vs1, d1, ds1, p1, q1, rfl, rfl, rfl, h1, r1⟩ := trodAll_cons r0
  obtain ⟨v2, vs2, d2, ds2, p2, q2, rfl, rfl, rfl, h2, r2⟩ := trodAll_cons r1
  obtain ⟨rfl, rfl, rfl⟩ := trodAll_nil r2
  obtain rfl : args = #[v0, v1, v2] := by cases args; simp_all
  obtain ⟨rfl, rfl⟩ := trodVars_none hV
  obtain ⟨a0, rfl, rfl, rfl, w0⟩ := open_int Try.underlying5 (hval 0 5 v0 rfl rfl) h0
  obtain ⟨a1, rfl, rfl, rfl, w1⟩ := open_string Try.underlying9 (hval 1 9 v1 rfl rfl) h1
  obtain ⟨a2, rfl, rfl, rfl, w2⟩ := open_int Try.underlying3 (hval 2 3 v2 rfl rfl) h2
  clear hA0 hval0
  refine (walk a0 a1 a2 w0 w1 w2 W).mono fun e W' ⟨he, bel⟩ => ?_
  subst he
  exact ⟨_, rfl, _, _, _, [], _, [], hW', trodAll_mk1 (shut_bool Try.underlying4 _), (trodAll_cons_mk (shut_int Try.underlying5 w0) (trodAll_cons_mk (shut_string Try.underlying9 w1) (trodAll_cons_mk (shut_int Try.underlying3 w2) trodAll_mk0))), rfl, bel.frame _, fun h => by cases h⟩

theorem over : Rows.fnNewRecordRoomRow.holds Try.pinned (OpenSpec.ofChange Rows.fnNewRecordRoomSpec) :=
  OpenClaim.holds_of_wide 4 Try.f4 rfl rfl rfl rfl rfl rfl rfl ⟨rfl, rfl, rfl, rfl, rfl⟩ rfl rfl rfl rfl rfl (by kernel_rfl) Try.func4 (by kernel_rfl)
    (of_decide_eq_true (by kernel_rfl)) (by unfold Func.isWrapper; first | (rw [if_pos (by decide +kernel)]; kernel_rfl) | (rw [if_neg (by decide +kernel)]; exact ⟨rfl, rfl⟩))
    (fun os started H enc _ => lifted os started H enc)

/-- ████ THE STATEMENT ████ -/
theorem proved : Rows.FnNewRecordRoomSaid :=
  over
#print axioms proved
end Go.Proofs.Qxb6603717a.fnNewRecordRoom
