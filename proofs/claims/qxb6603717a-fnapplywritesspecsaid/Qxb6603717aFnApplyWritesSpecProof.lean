/-
  'Rows.FnApplyWritesSpecSaid', proved: the five arguments opened, the walk (Qxb6603717aAwMain), the arguments read again by 'Below'. The frame after the kit's template.
-/
import Derived.Test.Qxb6603717aRows
import Derived.Test.Qxb6603717aAwMain
import Derived.WalkKit
import Derived.ProofKit
import Derived.OpenShut
import Derived.ShutString
import Derived.ChangeOld
import Derived.Below
import Derived.Deep.Slices
namespace Go.Proofs.Qxb6603717a.fnApplyWritesSpec
open Go.ChangeShapes Go.WideShapes Go.ChangeAt Go.RowKit
open Go.Proofs.Qxb6603717a.Aw
set_option linter.unusedVariables false

theorem own : ownKnob Try.prog.godebug = none := by kernel_rfl
theorem laidOut : laidOutB Try.prog = true := by kernel_rfl

section
variable {H : Type} {enc : TypeId × Value → H} {W : World} {base : Nat} {sp : Nat → Bool} {held : Bool}

/-- A slice of one-cell elements, opened: its cells, and each element's own reading. -/
theorem open_row {t e : TypeId} (ht : Try.prog.underlying t = some (.slice e)) (hc : Try.prog.cellsOf e = 1) {a : Option Addr} {n c : Nat} {d : DataW H} {p : List MemPlace} (h : DataW.Trod enc Try.prog W base sp held t (.slice a n c) d p) :
    n ≤ maxLen ∧ (a = none → n = 0) ∧ ∃ V : Nat → Value, VRow W a n V ∧ ∀ i, i < n → ∃ m x, DataW.trod enc Try.prog W base sp held m e [V i] = some x := by
  obtain ⟨fuel, hf⟩ := h
  rcases Deep.open_slice1 ht hc hf with ⟨hcs, _⟩ | ⟨x, l, cap, m, k, V, D, Pl, hcs, _, hl, hm, hmm, _, hV⟩
  · simp [Value.cells] at hcs
    obtain ⟨rfl, rfl, rfl⟩ := hcs
    exact ⟨Nat.zero_le _, fun _ => rfl, fun _ => .bool false, .inl rfl, fun i hi => absurd hi (Nat.not_lt_zero _)⟩
  · simp [Value.cells] at hcs
    obtain ⟨rfl, rfl, rfl⟩ := hcs
    have hnm : n ≤ m := by rw [hmm]; split <;> omega
    refine ⟨by omega, (fun h => by cases h), V, ?_, fun i hi => ⟨k, _, (hV i (by omega)).2⟩⟩
    by_cases h0 : n = 0
    · exact .inl h0
    · obtain ⟨b, off, spot⟩ := x
      have hspot : spot = none := by simpa [Addr.add] using World.cell?_spot (hV 0 (by omega)).1
      subst hspot
      exact .inr ⟨b, off, rfl, fun j hj => by rw [← Go.WideShapes.add_plain]; exact (hV j (by omega)).1⟩

theorem vrow_of {w : World} {a : Option Addr} {n : Nat} {F G : Nat → Value} (h : VRow w a n F) (e : ∀ i, i < n → F i = G i) : VRow w a n G := by
  rcases h with h | ⟨b, o, h, hc⟩
  · exact .inl h
  · exact .inr ⟨b, o, h, fun j hj => by rw [hc j hj, e j hj]⟩

theorem open_strs {a : Option Addr} {n c : Nat} {d : DataW H} {p : List MemPlace} (h : DataW.Trod enc Try.prog W base sp held 27 (.slice a n c) d p) :
    n ≤ maxLen ∧ (a = none → n = 0) ∧ ∃ K : Nat → ByteArray, VRow W a n (fun j => .string (K j)) ∧ ∀ j, j < n → (K j).size ≤ maxLen := by
  obtain ⟨h1, h2, V, h3, h4⟩ := open_row Try.underlying27 (by kernel_rfl) h
  obtain ⟨K, hK⟩ := Deep.choose_lt (α := ByteArray) (p := fun i s => V i = .string s ∧ s.size ≤ maxLen) (fun i hi => by
    obtain ⟨m, x, hx⟩ := h4 i hi
    obtain ⟨s, e, _, hs⟩ := DataW.trod_string Try.underlying9 hx
    exact ⟨s, by simpa using e, hs⟩)
  exact ⟨h1, h2, K, vrow_of h3 (fun i hi => (hK i hi).1), fun j hj => (hK j hj).2⟩

theorem open_bools {a : Option Addr} {n c : Nat} {d : DataW H} {p : List MemPlace} (h : DataW.Trod enc Try.prog W base sp held 29 (.slice a n c) d p) :
    n ≤ maxLen ∧ (a = none → n = 0) ∧ ∃ B : Nat → Bool, VRow W a n (fun j => .bool (B j)) := by
  obtain ⟨h1, h2, V, h3, h4⟩ := open_row Try.underlying29 (by kernel_rfl) h
  obtain ⟨K, hK⟩ := Deep.choose_lt (α := Bool) (p := fun i s => V i = .bool s) (fun i hi => by
    obtain ⟨m, x, hx⟩ := h4 i hi
    obtain ⟨s, e, _⟩ := DataW.trod_bool Try.underlying4 hx
    exact ⟨s, by simpa using e⟩)
  exact ⟨h1, h2, K, vrow_of h3 (fun i hi => hK i hi)⟩

theorem open_bytes {a : Option Addr} {n c : Nat} {d : DataW H} {p : List MemPlace} (h : DataW.Trod enc Try.prog W base sp held 23 (.slice a n c) d p) :
    n ≤ maxLen ∧ (a = none → n = 0) ∧ ∃ Z : Nat → Int, VRow W a n (fun j => .int .u8 (Z j)) := by
  obtain ⟨h1, h2, V, h3, h4⟩ := open_row Try.underlying23 (by kernel_rfl) h
  obtain ⟨K, hK⟩ := Deep.choose_lt (α := Int) (p := fun i s => V i = .int .u8 s) (fun i hi => by
    obtain ⟨m, x, hx⟩ := h4 i hi
    obtain ⟨s, e, _⟩ := DataW.trod_int Try.underlying5 hx
    exact ⟨s, by simpa using e⟩)
  exact ⟨h1, h2, K, vrow_of h3 (fun i hi => hK i hi)⟩

theorem open_vals {a : Option Addr} {n c : Nat} {d : DataW H} {p : List MemPlace} (h : DataW.Trod enc Try.prog W base sp held 28 (.slice a n c) d p) :
    n ≤ maxLen ∧ (a = none → n = 0) ∧ ∃ (V : Nat → Hd) (Z : Nat → Nat → Int), VRow W a n (fun j => (V j).val) ∧ ∀ j, j < n → (V j).n ≤ maxLen ∧ ((V j).a = none → (V j).n = 0) ∧ VRow W (V j).a (V j).n (fun i => .int .u8 (Z j i)) := by
  obtain ⟨h1, h2, V, h3, h4⟩ := open_row Try.underlying28 (by kernel_rfl) h
  have key : ∀ i, i < n → ∃ hz : (Option Addr × Nat × Nat) × (Nat → Int), V i = .slice hz.1.1 hz.1.2.1 hz.1.2.2 ∧ hz.1.2.1 ≤ maxLen ∧ (hz.1.1 = none → hz.1.2.1 = 0) ∧ VRow W hz.1.1 hz.1.2.1 (fun i => .int .u8 (hz.2 i)) := fun i hi => by
    obtain ⟨m, x, hx⟩ := h4 i hi
    have hsl : ∃ b k c', V i = .slice b k c' := by
      rcases DataW.trod_slice Try.underlying23 hx with ⟨e, _⟩ | ⟨ad, len, cap, _, _, _, _, e, _⟩
      · exact ⟨_, _, _, by simpa using e⟩
      · exact ⟨_, _, _, by simpa using e⟩
    obtain ⟨b, k, c', e⟩ := hsl
    have ht : DataW.Trod enc Try.prog W base sp held 23 (.slice b k c') x.1 x.2 := ⟨m, by rw [e] at hx; simpa [Value.cells] using hx⟩
    obtain ⟨g1, g2, Z, g3⟩ := open_bytes ht
    exact ⟨((b, k, c'), Z), e, g1, g2, g3⟩
  obtain ⟨K, hK⟩ := Deep.choose_lt key
  exact ⟨h1, h2, fun j => ⟨(K j).1.1, (K j).1.2.1, (K j).1.2.2⟩, fun j => (K j).2, vrow_of h3 (fun i hi => (hK i hi).1), fun j hj => (hK j hj).2⟩
end

set_option maxRecDepth 100000 in
theorem lifted (os : Os) (started : os.Started) (H : Type) (enc : TypeId × Value → H) :
    ReturnsInHanded {} Try.checked os 5 .any (Rows.fnApplyWritesSpecSpec.pre6 enc Try.prog Try.f5 Rows.fnApplyWritesSpecRow.domain false) (Rows.fnApplyWritesSpecSpec.post enc Try.prog Try.f5 false true false false) := by
  refine returnsInHanded_of_change (C := Try.checked) own started (by kernel_rfl) Try.func5
    (ChangeSpec.witness6 (enc := enc) (C := Try.checked) false ⟨#[], #[.slice none 0 0, .slice none 0 0, .slice none 0 0, .slice none 0 0, .slice none 0 0], []⟩ 8 (by kernel_rfl) (by kernel_rfl) (by kernel_rfl) (by kernel_rfl)) ?_
  intro W base args ds gs before hval0 hW hcnd _
  have hval : ∀ (j : Nat) t v, Try.f5.params[j]? = some t → args[j]? = some v → Value.okWide Try.prog W .any base t v := hval0
  have hW' := hW
  obtain ⟨p, q, hA0, hV, rfl, hfz, hnd⟩ := hW
  have hA : DataW.TrodAll enc Try.prog W 0 (fun _ => true) true Try.f5.params.toList args.toList ds p := hA0
  rw [Try.params5] at hA hval
  obtain ⟨v0, vs0, d0, ds0, p0, q0, hargs, rfl, rfl, h0, r0⟩ := trodAll_cons hA
  obtain ⟨v1, vs1, d1, ds1, p1, q1, rfl, rfl, rfl, h1, r1⟩ := trodAll_cons r0
  obtain ⟨v2, vs2, d2, ds2, p2, q2, rfl, rfl, rfl, h2, r2⟩ := trodAll_cons r1
  obtain ⟨v3, vs3, d3, ds3, p3, q3, rfl, rfl, rfl, h3, r3⟩ := trodAll_cons r2
  obtain ⟨v4, vs4, d4, ds4, p4, q4, rfl, rfl, rfl, h4, r4⟩ := trodAll_cons r3
  obtain ⟨rfl, rfl, rfl⟩ := trodAll_nil r4
  obtain rfl : args = #[v0, v1, v2, v3, v4] := by cases args; simp_all
  obtain ⟨rfl, rfl⟩ := trodVars_none hV
  obtain ⟨a0, n0, c0, rfl⟩ := okWide_slice Try.underlying27 (hval 0 27 v0 rfl rfl)
  have k0 := h0
  have lt0 : ∀ x ∈ p0, x.block < W.heap.size := by obtain ⟨m, hm⟩ := k0; exact DataW.trod_lt m _ _ _ hm
  obtain ⟨a1, n1, c1, rfl⟩ := okWide_slice Try.underlying28 (hval 1 28 v1 rfl rfl)
  have k1 := h1
  have lt1 : ∀ x ∈ p1, x.block < W.heap.size := by obtain ⟨m, hm⟩ := k1; exact DataW.trod_lt m _ _ _ hm
  obtain ⟨a2, n2, c2, rfl⟩ := okWide_slice Try.underlying27 (hval 2 27 v2 rfl rfl)
  have k2 := h2
  have lt2 : ∀ x ∈ p2, x.block < W.heap.size := by obtain ⟨m, hm⟩ := k2; exact DataW.trod_lt m _ _ _ hm
  obtain ⟨a3, n3, c3, rfl⟩ := okWide_slice Try.underlying28 (hval 3 28 v3 rfl rfl)
  have k3 := h3
  have lt3 : ∀ x ∈ p3, x.block < W.heap.size := by obtain ⟨m, hm⟩ := k3; exact DataW.trod_lt m _ _ _ hm
  obtain ⟨a4, n4, c4, rfl⟩ := okWide_slice Try.underlying29 (hval 4 29 v4 rfl rfl)
  have k4 := h4
  have lt4 : ∀ x ∈ p4, x.block < W.heap.size := by obtain ⟨m, hm⟩ := k4; exact DataW.trod_lt m _ _ _ hm
  obtain ⟨m0, e0, K0, o0, s0⟩ := open_strs h0
  obtain ⟨m1, e1, V1, Z1, o1, s1⟩ := open_vals h1
  obtain ⟨m2, e2, K2, o2, s2⟩ := open_strs h2
  obtain ⟨m3, e3, V3, Z3, o3, s3⟩ := open_vals h3
  obtain ⟨m4, e4, B4, o4⟩ := open_bools h4
  clear hA0 hval0
  refine (walk a0 n0 c0 a1 n1 c1 a2 n2 c2 a3 n3 c3 a4 n4 c4 K0 K2 V1 V3 Z1 Z3 B4 W ⟨m0, m1, m2, m3, m4, e0, e1, e2, e3, e4, o0, s0, o1, s1, o2, s2, o3, s3, o4⟩).mono fun e W' ⟨he, bel⟩ => ?_
  subst he
  exact ⟨_, rfl, _, _, _, [], _, [], hW', trodAll_mk1 (shut_bool Try.underlying4 _), (trodAll_cons_mk (Below.trod laidOut (by kernel_rfl) (of_decide_eq_true (by kernel_rfl)) k0 bel lt0) (trodAll_cons_mk (Below.trod laidOut (by kernel_rfl) (of_decide_eq_true (by kernel_rfl)) k1 bel lt1) (trodAll_cons_mk (Below.trod laidOut (by kernel_rfl) (of_decide_eq_true (by kernel_rfl)) k2 bel lt2) (trodAll_cons_mk (Below.trod laidOut (by kernel_rfl) (of_decide_eq_true (by kernel_rfl)) k3 bel lt3) (trodAll_cons_mk (Below.trod laidOut (by kernel_rfl) (of_decide_eq_true (by kernel_rfl)) k4 bel lt4) trodAll_mk0))))), rfl, bel.frame _, fun h => by cases h⟩

theorem over : Rows.fnApplyWritesSpecRow.holds Try.pinned (OpenSpec.ofChange Rows.fnApplyWritesSpecSpec) :=
  OpenClaim.holds_of_wide 5 Try.f5 rfl rfl rfl rfl rfl rfl rfl ⟨rfl, rfl, rfl, rfl, rfl⟩ rfl rfl rfl rfl rfl (by kernel_rfl) Try.func5 (by kernel_rfl)
    (of_decide_eq_true (by kernel_rfl)) (by unfold Func.isWrapper; first | (rw [if_pos (by decide +kernel)]; kernel_rfl) | (rw [if_neg (by decide +kernel)]; exact ⟨rfl, rfl⟩))
    (fun os started H enc _ => lifted os started H enc)

/-- The statement. -/
theorem proved : Rows.FnApplyWritesSpecSaid := over
#print axioms proved
end Go.Proofs.Qxb6603717a.fnApplyWritesSpec
