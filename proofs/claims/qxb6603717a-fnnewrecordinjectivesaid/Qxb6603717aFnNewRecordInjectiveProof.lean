/-
  'Rows.FnNewRecordInjectiveSaid', proved. The frame is the kit's template (proof-skeleton.mjs) at this function's number and types, its end turned to 'Below'; the walk leans on newRecord's contract (Qxb6603717aRec) and equalBytes' (Qxb6603717aEq).
-/
import Derived.Test.Qxb6603717aRows
import Derived.WalkKit
import Derived.ProofKit
import Derived.OpenShut
import Derived.ShutString
import Derived.Below
import Derived.ChangeOld
import Derived.WalkSmall
import Derived.Test.Qxb6603717aRec
import Derived.Test.Qxb6603717aEq
namespace Go.Proofs.Qxb6603717a.fnNewRecordInjective
open Go.ChangeShapes Go.WideShapes Go.ChangeAt Go.RowKit
open Go.ChangeMaps (open_string shut_string)
set_option linter.unusedVariables false      -- a walk need not use every 'w<i>' (that an integer argument fits its kind)

theorem own : ownKnob Try.prog.godebug = none := by kernel_rfl

/-! ### Plain: the bytes of a record's start, and when two are the same. -/
def recInts (k : Int) (g : ByteArray) : List Int := [0, 0, 0, 0, k] ++ if k = 1 then [] else ((g.size : Int) % 256) :: g.data.toList.map (fun b => (b.toNat : Int))

theorem recCells_eq (k : Int) (g : ByteArray) : recCells k g = (recInts k g).map (Value.int .u8) := by
  unfold recCells recTail recInts Lib.strCells
  by_cases h : k = 1 <;> simp [h, List.replicate]

theorem recInts_len (k : Int) (g : ByteArray) : (recInts k g).length ≤ 6 + g.size := by
  have : g.data.toList.length = g.size := rfl
  unfold recInts
  by_cases h : k = 1 <;> simp [h] <;> omega

theorem bytes_inj {a b : ByteArray} (h : a.data.toList.map (fun b => (b.toNat : Int)) = b.data.toList.map (fun b => (b.toNat : Int))) : a = b := by
  have h' : a.data.toList = b.data.toList := by
    refine List.map_inj_right (f := fun b : UInt8 => (b.toNat : Int)) ?_ |>.1 h
    intro x y hxy
    exact UInt8.toNat_inj.1 (Int.ofNat.inj hxy)
  cases a; cases b
  simp at h'
  rw [h']

theorem rec_same (k1 k2 : Int) (g1 g2 : ByteArray) : (recInts k1 g1 = recInts k2 g2) ↔ (k1 = k2 ∧ (k1 = 1 ∨ g1 = g2)) := by
  constructor
  · intro h
    have hk : k1 = k2 := by
      have := congrArg (fun l => l[4]?) h
      have e1 : (recInts k1 g1)[4]? = some k1 := rfl
      have e2 : (recInts k2 g2)[4]? = some k2 := rfl
      simpa [e1, e2] using this
    subst hk
    refine ⟨rfl, ?_⟩
    by_cases h1 : k1 = 1
    · exact .inl h1
    · refine .inr ?_
      simp [recInts, h1] at h
      exact bytes_inj (by simpa using h.2)
  · rintro ⟨rfl, rfl | rfl⟩
    · simp [recInts]
    · rfl

theorem shows_of_own {w : World} {g n cap : Nat} {zs : List Int} {base : Nat} (h : w.ownsRow base 5 1 (.slice (some ⟨g, 0, none⟩) n cap) n (zs.map (Value.int .u8))) : n = zs.length ∧ Shows .u8 w (some ⟨g, 0, none⟩) zs := by
  have hl : zs.length = n := by simpa using h.1
  refine ⟨hl.symm, .inr ⟨g, 0, rfl, fun j hj => ?_⟩⟩
  have := h.cellAt j (by omega)
  rw [Nat.zero_add, this]
  simp [List.getD, hj]

theorem shows_below {k : IntKind} {w w' : World} {ao : Option Addr} {zs : List Int} (h : Shows k w ao zs) (hb : Below w.heap.size w w') : Shows k w' ao zs := by
  rcases h with h | ⟨b, o, h, hc⟩
  · exact .inl h
  · refine .inr ⟨b, o, h, fun j hj => ?_⟩
    rw [hb.cell (World.block_lt_of_cell? w _ (hc j hj))]
    exact hc j hj

/-! ### The walk: the Go text returns true and writes nothing that was there. -/
set_option maxHeartbeats 400000 in
theorem bytes_ok (a0 : Int) (a1 : ByteArray) (a2 : Int) (a3 : Int) (a4 : ByteArray) (a5 : Int) (h : a1.size ≤ 65536) (h' : a4.size ≤ 65536) (w : World) :
    Calls Try.prog 6 #[.int .u8 a0, .string a1, .int .i64 a2, .int .u8 a3, .string a4, .int .i64 a5] w fun e w' => e = .returned (.bool true) ∧ w' = w := by
  go_enter Try.func6, Try.ntmps6
  go_wp2
  go_ret
  exact ⟨rfl, rfl⟩

set_option maxHeartbeats 400000 in
theorem bytes_any (a0 : Int) (a1 : ByteArray) (a2 : Int) (a3 : Int) (a4 : ByteArray) (a5 : Int) (w1 : a1.size ≤ maxLen) (w4 : a4.size ≤ maxLen) (w : World) :
    Calls Try.prog 6 #[.int .u8 a0, .string a1, .int .i64 a2, .int .u8 a3, .string a4, .int .i64 a5] w fun e w' => ∃ b, e = .returned (.bool b) ∧ w' = w := by
  unfold maxLen at w1 w4
  go_enter Try.func6, Try.ntmps6
  go_wp2
  all_goals
    go_ret
    exact ⟨_, rfl, rfl⟩

set_option maxHeartbeats 800000 in
/-- The tail: everything is within its bounds. -/
theorem walk_in (a0 : Int) (a1 : ByteArray) (s : Nat) (a3 : Int) (a4 : ByteArray) (t : Nat) (b1 b2 b3 : Bool) (k1 : (a0 == a3) = b1) (k2 : (a0 == 1) = b2) (k3 : (a1.toList == a4.toList) = b3) (hall : decide (recInts a0 a1 = recInts a3 a4) = (b1 && (b2 || b3))) (h1 : a1.size ≤ 65536) (h4 : a4.size ≤ 65536) (hs : s ≤ 65536) (ht : t ≤ 65536) (w : World) :
    Calls Try.prog 3 #[.int .u8 a0, .string a1, .int .i64 s, .int .u8 a3, .string a4, .int .i64 t] w fun e w' => e = .returned (.bool true) ∧ Below w.heap.size w w' := by
  have HS : Hid (decide (recInts a0 a1 = recInts a3 a4) = (b1 && (b2 || b3))) := hall
  clear hall
  have hl1 := recInts_len a0 a1
  have hl2 := recInts_len a3 a4
  cases b1 <;> cases b2 <;> cases b3
  all_goals
    go_enter Try.func3, Try.ntmps3
    go_wp2_with (go_at_call 6; refine (bytes_ok a0 a1 s a3 a4 t h1 h4 w).mono ?_; rintro e w' ⟨rfl, rfl⟩)
    refine (zzNewRecord_any a0 a1 s _ h1 hs).mono ?_
    rintro e w1 ⟨n, rfl, hn, hown1, hb1⟩
    go_wp2_with fail
    refine (zzNewRecord_any a3 a4 t _ h4 ht).mono ?_
    rintro e w2 ⟨m, rfl, hm, hown2, hb2⟩
    rw [recCells_eq] at hown1 hown2
    obtain ⟨en, hs1⟩ := shows_of_own hown1
    obtain ⟨em, hs2⟩ := shows_of_own hown2
    have hs1' := shows_below hs1 hb2
    subst en em
    have H1 : Hid (Shows .u8 w2 (some ⟨w'.heap.size, 0, none⟩) (recInts a0 a1)) := hs1'
    have H2 : Hid (Shows .u8 w2 (some ⟨w1.heap.size, 0, none⟩) (recInts a3 a4)) := hs2
    have hb : Below w'.heap.size w' w2 := hb1.trans (hb2.mono hb1.size)
    clear hs1 hs2 hs1' hown1 hown2 hb1 hb2
    go_wp2_with fail
    refine (equalBytes_any (recInts a0 a1) (recInts a3 a4) _ _ _ _ w2 (by omega) (by omega) H1.out H2.out).mono ?_
    rintro e w3 ⟨rfl, m, rfl⟩
    rw [HS.out]
    go_wp2
    go_ret
    exact ⟨rfl, below_drewN hb m⟩

theorem hall (a0 a3 : Int) (a1 a4 : ByteArray) : decide (recInts a0 a1 = recInts a3 a4) = ((a0 == a3) && ((a0 == 1) || (a1.toList == a4.toList))) := by
  have e : (a1.toList == a4.toList) = decide (a1 = a4) := by
    rw [Bool.eq_iff_iff]
    simp only [beq_iff_eq, decide_eq_true_eq]
    constructor
    · intro h
      have h' : a1.data.toList = a4.data.toList := by rwa [ByteArray.toList_eq, ByteArray.toList_eq] at h
      cases a1; cases a4
      simp at h'
      rw [h']
    · rintro rfl; rfl
  rw [e, Bool.eq_iff_iff]
  simp [rec_same]

set_option maxHeartbeats 800000 in
theorem walk (a0 : Int) (a1 : ByteArray) (a2 : Int) (a3 : Int) (a4 : ByteArray) (a5 : Int) (w0 : (Lit.int .u8 a0).wf = true) (w1 : a1.size ≤ maxLen) (w2 : (Lit.int .i64 a2).wf = true) (w3 : (Lit.int .u8 a3).wf = true) (w4 : a4.size ≤ maxLen) (w5 : (Lit.int .i64 a5).wf = true) (w : World) :
    Calls Try.prog 3 #[.int .u8 a0, .string a1, .int .i64 a2, .int .u8 a3, .string a4, .int .i64 a5] w fun e w' => e = .returned (.bool true) ∧ Below w.heap.size w w' := by
  by_cases hin : (a1.size ≤ 65536 ∧ a4.size ≤ 65536) ∧ (0 ≤ a2 ∧ a2 ≤ 65536) ∧ (0 ≤ a5 ∧ a5 ≤ 65536)
  · obtain ⟨⟨h1, h4⟩, ⟨h2, h2'⟩, h5, h5'⟩ := hin
    obtain ⟨s, rfl⟩ := Int.eq_ofNat_of_zero_le h2
    obtain ⟨t, rfl⟩ := Int.eq_ofNat_of_zero_le h5
    exact walk_in a0 a1 s a3 a4 t _ _ _ rfl rfl rfl (hall a0 a3 a1 a4) h1 h4 (by omega) (by omega) w
  · unfold maxLen at w1 w4
    go_enter Try.func3, Try.ntmps3
    go_wp2_with (go_at_call 6; refine (bytes_any a0 a1 a2 a3 a4 a5 w1 w4 w).mono ?_; rintro e w' ⟨b, rfl, rfl⟩; cases b)
    all_goals
      go_ret
      exact ⟨rfl, Below.refl _ _⟩

/-! ### THE ROW's STEP -/
set_option maxRecDepth 100000 in
theorem lifted (os : Os) (started : os.Started) (H : Type) (enc : TypeId × Value → H) :
    ReturnsInHanded {} Try.checked os 3 .any (Rows.fnNewRecordInjectiveSpec.pre6 enc Try.prog Try.f3 Rows.fnNewRecordInjectiveRow.domain false) (Rows.fnNewRecordInjectiveSpec.post enc Try.prog Try.f3 false true false false) := by
  refine returnsInHanded_of_change (C := Try.checked) own started (by kernel_rfl) Try.func3
    (ChangeSpec.witness6 (enc := enc) (C := Try.checked) false ⟨#[], #[.int .u8 0, .string ByteArray.empty, .int .i64 0, .int .u8 0, .string ByteArray.empty, .int .i64 0], []⟩ 8 (by kernel_rfl) (by kernel_rfl) (by kernel_rfl) (by kernel_rfl)) ?_
  intro W base args ds gs before hval0 hW hcnd _
  have hval : ∀ (j : Nat) t v, Try.f3.params[j]? = some t → args[j]? = some v → Value.okWide Try.prog W .any base t v := hval0
  have hW' := hW
  obtain ⟨p, q, hA0, hV, rfl, hfz, hnd⟩ := hW
  have hA : DataW.TrodAll enc Try.prog W 0 (fun _ => true) true Try.f3.params.toList args.toList ds p := hA0
  rw [Try.params3] at hA hval
  obtain ⟨v0, vs0, d0, ds0, p0, q0, hargs, rfl, rfl, h0, r0⟩ := trodAll_cons hA
  obtain ⟨v1, vs1, d1, ds1, p1, q1, rfl, rfl, rfl, h1, r1⟩ := trodAll_cons r0
  obtain ⟨v2, vs2, d2, ds2, p2, q2, rfl, rfl, rfl, h2, r2⟩ := trodAll_cons r1
  obtain ⟨v3, vs3, d3, ds3, p3, q3, rfl, rfl, rfl, h3, r3⟩ := trodAll_cons r2
  obtain ⟨v4, vs4, d4, ds4, p4, q4, rfl, rfl, rfl, h4, r4⟩ := trodAll_cons r3
  obtain ⟨v5, vs5, d5, ds5, p5, q5, rfl, rfl, rfl, h5, r5⟩ := trodAll_cons r4
  obtain ⟨rfl, rfl, rfl⟩ := trodAll_nil r5
  obtain rfl : args = #[v0, v1, v2, v3, v4, v5] := by cases args; simp_all
  obtain ⟨rfl, rfl⟩ := trodVars_none hV
  obtain ⟨a0, rfl, rfl, rfl, w0⟩ := open_int Try.underlying5 (hval 0 5 v0 rfl rfl) h0
  obtain ⟨a1, rfl, rfl, rfl, w1⟩ := open_string Try.underlying9 (hval 1 9 v1 rfl rfl) h1
  obtain ⟨a2, rfl, rfl, rfl, w2⟩ := open_int Try.underlying3 (hval 2 3 v2 rfl rfl) h2
  obtain ⟨a3, rfl, rfl, rfl, w3⟩ := open_int Try.underlying5 (hval 3 5 v3 rfl rfl) h3
  obtain ⟨a4, rfl, rfl, rfl, w4⟩ := open_string Try.underlying9 (hval 4 9 v4 rfl rfl) h4
  obtain ⟨a5, rfl, rfl, rfl, w5⟩ := open_int Try.underlying3 (hval 5 3 v5 rfl rfl) h5
  clear hA0 hval0
  refine (walk a0 a1 a2 a3 a4 a5 w0 w1 w2 w3 w4 w5 W).mono fun e W' ⟨he, bel⟩ => ?_
  subst he
  exact ⟨_, rfl, _, _, _, [], _, [], hW', trodAll_mk1 (shut_bool Try.underlying4 _), (trodAll_cons_mk (shut_int Try.underlying5 w0) (trodAll_cons_mk (shut_string Try.underlying9 w1) (trodAll_cons_mk (shut_int Try.underlying3 w2) (trodAll_cons_mk (shut_int Try.underlying5 w3) (trodAll_cons_mk (shut_string Try.underlying9 w4) (trodAll_cons_mk (shut_int Try.underlying3 w5) trodAll_mk0)))))), rfl, bel.frame _, fun h => by cases h⟩

theorem over : Rows.fnNewRecordInjectiveRow.holds Try.pinned (OpenSpec.ofChange Rows.fnNewRecordInjectiveSpec) :=
  OpenClaim.holds_of_wide 3 Try.f3 rfl rfl rfl rfl rfl rfl rfl ⟨rfl, rfl, rfl, rfl, rfl⟩ rfl rfl rfl rfl rfl (by kernel_rfl) Try.func3 (by kernel_rfl)
    (of_decide_eq_true (by kernel_rfl)) (by unfold Func.isWrapper; first | (rw [if_pos (by decide +kernel)]; kernel_rfl) | (rw [if_neg (by decide +kernel)]; exact ⟨rfl, rfl⟩))
    (fun os started H enc _ => lifted os started H enc)

/-- ████ THE STATEMENT ████ -/
theorem proved : Rows.FnNewRecordInjectiveSaid :=
  over
#print axioms proved
end Go.Proofs.Qxb6603717a.fnNewRecordInjective
