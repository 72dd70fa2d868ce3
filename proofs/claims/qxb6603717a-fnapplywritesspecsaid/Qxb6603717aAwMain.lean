/- FnApplyWritesSpec: the walk of the law itself. -/
import Derived.Test.Qxb6603717aAwRead
import Derived.Test.Qxb6603717aAwVals
import Derived.Test.Qxb6603717aAwBuild
import Derived.Test.Qxb6603717aAwApply
import Derived.Test.Qxb6603717aAwBytes
import Derived.Test.Qxb6603717aAwPlain
import Derived.WalkSmall
namespace Go.Proofs.Qxb6603717a.Aw
open Go.RowKit
set_option linter.unusedVariables false

theorem R1_inv {v u : Value} {ps : List MemPlace} (h : R1 v = some (.held u, ps)) : v = u := by
  unfold R1 at h
  split at h
  · simp at h
    exact h.1
  · cases h

theorem zero23 (w : World) : (zeroValue 23).run Try.prog w = .ok (.slice none 0 0) w := by kernel_rfl

section
variable (w : World) {ops : Array Oper} {rest : List Oper} {o : Oper} {a : Act} {Q : Exit → Act → World → Prop}

/-- 'got, ok := objects[k]', the key there. -/
theorem wpList_look_some (hg : o.guard = none) (m x : Operand) (hop : o.op = Op.lookup 35 m x true) (b n : Nat) (D : DataW Value) (G : ByteArray → Option Value) (s : ByteArray) (h : Hd)
    (hm : a.eval m = .map (some b)) (hx : a.eval x = .string s) (hs : s.size ≤ maxLen) (hown : w.ownsMap Try.prog 9 R1 b n D) (hr : Reads D G) (hG : G s = some h.val)
    (hK : wpList Try.prog ops Q rest (a.put o.dst (.tuple #[.slice h.a h.n h.c, .bool true])) w) : wpList Try.prog ops Q (o :: rest) a w :=
  wpList_lookup_own_ok w hg m x 35 hop 9 23 law Try.underlying35 R1 (zero23 w) (.held (.slice none 0 0)) [] rfl b n D hm hown _ _ hx (WideMaps.keyOf_string_mk Try.underlying9 hs) (fun v ps hv => by
    obtain ⟨h1, h2⟩ := hr.yes s _ hG
    have e1 : Maps.has D (.string s.data.toList) = true := h1
    have e2 : D.atKey (.string s.data.toList) (.held (.slice none 0 0)) = .held h.val := h2 _
    rw [e2] at hv
    rw [e1, R1_inv hv]
    exact hK)

/-- .. the key not there. -/
theorem wpList_look_none (hg : o.guard = none) (m x : Operand) (hop : o.op = Op.lookup 35 m x true) (b n : Nat) (D : DataW Value) (G : ByteArray → Option Value) (s : ByteArray)
    (hm : a.eval m = .map (some b)) (hx : a.eval x = .string s) (hs : s.size ≤ maxLen) (hown : w.ownsMap Try.prog 9 R1 b n D) (hr : Reads D G) (hG : G s = none)
    (hK : wpList Try.prog ops Q rest (a.put o.dst (.tuple #[.slice none 0 0, .bool false])) w) : wpList Try.prog ops Q (o :: rest) a w :=
  wpList_lookup_own_ok w hg m x 35 hop 9 23 law Try.underlying35 R1 (zero23 w) (.held (.slice none 0 0)) [] rfl b n D hm hown _ _ hx (WideMaps.keyOf_string_mk Try.underlying9 hs) (fun v ps hv => by
    have e1 : Maps.has D (.string s.data.toList) = false := hr.no s hG
    have e2 : D.atKey (.string s.data.toList) (.held (.slice none 0 0)) = .held (.slice none 0 0) := Maps.atKey_of_not_has e1 _
    rw [e2] at hv
    rw [e1, R1_inv hv]
    exact hK)
end

/-- The objects in the end. -/
def finF (K1 : Nat → ByteArray) (n1 : Nat) (V1 : Nat → Hd) (m1 : Nat) (K2 : Nat → ByteArray) (n2 : Nat) (V2 : Nat → Hd) (m2 : Nat) (B2 : Nat → Bool) (p2 : Nat) : ByteArray → Option Value :=
  appF (objF K1 V1 m1 n1) (fun s => (lastI K2 n2 s).map fun j => (valOf V2 m2 j, boolOf B2 p2 j))

section
variable {K1 : Nat → ByteArray} {n1 : Nat} {V1 : Nat → Hd} {m1 : Nat} {K2 : Nat → ByteArray} {n2 : Nat} {V2 : Nat → Hd} {m2 : Nat} {B2 : Nat → Bool} {p2 : Nat} {s : ByteArray} {j : Nat}

theorem fin_del (h : lastI K2 n2 s = some j) (hb : boolOf B2 p2 j = true) : finF K1 n1 V1 m1 K2 n2 V2 m2 B2 p2 s = none := by simp [finF, appF, h, hb]
theorem fin_put (h : lastI K2 n2 s = some j) (hb : boolOf B2 p2 j = false) : finF K1 n1 V1 m1 K2 n2 V2 m2 B2 p2 s = some (valOf V2 m2 j).val := by simp [finF, appF, h, hb]
theorem fin_old (h : lastI K2 n2 s = none) (h1 : lastI K1 n1 s = some j) : finF K1 n1 V1 m1 K2 n2 V2 m2 B2 p2 s = some (valOf V1 m1 j).val := by simp [finF, appF, h, objF, h1]

theorem key_in {i : Nat} (hi : i < n1 + n2) (h : lastI K2 n2 (keyOf2 K1 n1 K2 i) = none) : ∃ j, lastI K1 n1 (keyOf2 K1 n1 K2 i) = some j := by
  cases h1 : lastI K1 n1 (keyOf2 K1 n1 K2 i) with
  | some j => exact ⟨j, rfl⟩
  | none =>
    by_cases hlt : i < n1
    · exact absurd (by simp [keyOf2, hlt]) (lastI_none h1 i hlt)
    · exact absurd (by simp [keyOf2, hlt]) (lastI_none h (i - n1) (by omega))

theorem fin_all (h : (finF K1 n1 V1 m1 K2 n2 V2 m2 B2 p2 s).isSome = true) : ∃ i, i < n1 + n2 ∧ keyOf2 K1 n1 K2 i = s := by
  cases h2 : lastI K2 n2 s with
  | some j =>
    obtain ⟨hj, e⟩ := lastI_some h2
    exact ⟨n1 + j, by omega, by rw [keyOf2, if_neg (by omega), Nat.add_sub_cancel_left]; exact e⟩
  | none =>
    cases h1 : lastI K1 n1 s with
    | some j =>
      obtain ⟨hj, e⟩ := lastI_some h1
      exact ⟨j, by omega, by simp [keyOf2, hj, e]⟩
    | none => simp [finF, appF, objF, h1, h2] at h
end


/-- What stands when the loop begins, and all through it. -/
structure Stands (w : World) (bo : Nat) (D : DataW Value) (k1 : Hd) (K1 : Nat → ByteArray) (v1 : Hd) (V1 : Nat → Hd) (k2 : Hd) (K2 : Nat → ByteArray) (v2 : Hd) (V2 : Nat → Hd) (b2 : Hd) (B2 : Nat → Bool) : Prop where
  own : w.ownsMap Try.prog 9 R1 bo (k1.n + k2.n) D
  reads : Reads D (finF K1 k1.n V1 v1.n K2 k2.n V2 v2.n B2 b2.n)
  row1 : VRow w k1.a k1.n (fun j => .string (K1 j))
  row2 : VRow w v1.a v1.n (fun j => (V1 j).val)
  row3 : VRow w k2.a k2.n (fun j => .string (K2 j))
  row4 : VRow w v2.a v2.n (fun j => (V2 j).val)
  row5 : VRow w b2.a b2.n (fun j => .bool (B2 j))
  good1 : ∀ j, j < v1.n → Good 0 w (V1 j)
  good2 : ∀ j, j < v2.n → Good 0 w (V2 j)
  size1 : ∀ j, j < k1.n → (K1 j).size ≤ maxLen
  size2 : ∀ j, j < k2.n → (K2 j).size ≤ maxLen

theorem Stands.drewN {w : World} {bo : Nat} {D : DataW Value} {k1 : Hd} {K1 : Nat → ByteArray} {v1 : Hd} {V1 : Nat → Hd} {k2 : Hd} {K2 : Nat → ByteArray} {v2 : Hd} {V2 : Nat → Hd} {b2 : Hd} {B2 : Nat → Bool}
    (h : Stands w bo D k1 K1 v1 V1 k2 K2 v2 V2 b2 B2) (m : Nat) : Stands (w.drewN m) bo D k1 K1 v1 V1 k2 K2 v2 V2 b2 B2 :=
  ⟨h.own, h.reads, h.row1, h.row2, h.row3, h.row4, h.row5, h.good1, h.good2, h.size1, h.size2⟩

theorem Stands.good {w : World} {bo : Nat} {D : DataW Value} {k1 : Hd} {K1 : Nat → ByteArray} {v1 : Hd} {V1 : Nat → Hd} {k2 : Hd} {K2 : Nat → ByteArray} {v2 : Hd} {V2 : Nat → Hd} {b2 : Hd} {B2 : Nat → Bool}
    (h : Stands w bo D k1 K1 v1 V1 k2 K2 v2 V2 b2 B2) (j : Nat) : Good 0 w (valOf V1 v1.n j) ∧ Good 0 w (valOf V2 v2.n j) := by
  unfold valOf
  constructor
  · split
    · exact h.good1 j ‹_›
    · exact Good.nil _ _
  · split
    · exact h.good2 j ‹_›
    · exact Good.nil _ _

theorem Stands.keySize {w : World} {bo : Nat} {D : DataW Value} {k1 : Hd} {K1 : Nat → ByteArray} {v1 : Hd} {V1 : Nat → Hd} {k2 : Hd} {K2 : Nat → ByteArray} {v2 : Hd} {V2 : Nat → Hd} {b2 : Hd} {B2 : Nat → Bool}
    (h : Stands w bo D k1 K1 v1 V1 k2 K2 v2 V2 b2 B2) {i : Nat} (hi : i < k1.n + k2.n) : (keyOf2 K1 k1.n K2 i).size ≤ maxLen := by
  unfold keyOf2
  split
  · exact h.size1 i ‹_›
  · exact h.size2 _ (by omega)

theorem Stands.size {w : World} {bo : Nat} {D : DataW Value} {k1 : Hd} {K1 : Nat → ByteArray} {v1 : Hd} {V1 : Nat → Hd} {k2 : Hd} {K2 : Nat → ByteArray} {v2 : Hd} {V2 : Nat → Hd} {b2 : Hd} {B2 : Nat → Bool}
    (h : Stands w bo D k1 K1 v1 V1 k2 K2 v2 V2 b2 B2) : Maps.size D = cntF (finF K1 k1.n V1 v1.n K2 k2.n V2 v2.n B2 b2.n) (keyOf2 K1 k1.n K2) (k1.n + k2.n) := by
  refine size_eq_cnt (h.own.tidy law) h.reads (fun s hs => fin_all hs) (fun es he => ?_)
  obtain ⟨es', he', _, hk⟩ := h.own.entries law
  rw [he] at he'
  cases he'
  exact hk

/-- All five arguments, as the walk is told of them. -/
structure Told (w : World) (a0 : Option Addr) (n0 : Nat) (a1 : Option Addr) (n1 : Nat) (a2 : Option Addr) (n2 : Nat) (a3 : Option Addr) (n3 : Nat) (a4 : Option Addr) (n4 : Nat) (K0 K2 : Nat → ByteArray) (V1 V3 : Nat → Hd) (Z1 Z3 : Nat → Nat → Int) (B4 : Nat → Bool) : Prop where
  m0 : n0 ≤ maxLen
  m1 : n1 ≤ maxLen
  m2 : n2 ≤ maxLen
  m3 : n3 ≤ maxLen
  m4 : n4 ≤ maxLen
  e0 : a0 = none → n0 = 0
  e1 : a1 = none → n1 = 0
  e2 : a2 = none → n2 = 0
  e3 : a3 = none → n3 = 0
  e4 : a4 = none → n4 = 0
  h0 : VRow w a0 n0 (fun j => .string (K0 j))
  hm0 : ∀ j, j < n0 → (K0 j).size ≤ maxLen
  h1 : VRow w a1 n1 (fun j => (V1 j).val)
  hm1 : ∀ j, j < n1 → (V1 j).n ≤ maxLen ∧ ((V1 j).a = none → (V1 j).n = 0) ∧ VRow w (V1 j).a (V1 j).n (fun i => .int .u8 (Z1 j i))
  h2 : VRow w a2 n2 (fun j => .string (K2 j))
  hm2 : ∀ j, j < n2 → (K2 j).size ≤ maxLen
  h3 : VRow w a3 n3 (fun j => (V3 j).val)
  hm3 : ∀ j, j < n3 → (V3 j).n ≤ maxLen ∧ ((V3 j).a = none → (V3 j).n = 0) ∧ VRow w (V3 j).a (V3 j).n (fun i => .int .u8 (Z3 j i))
  h4 : VRow w a4 n4 (fun j => .bool (B4 j))

theorem ownsMap_below {w w' : World} {R : Value → Option (DataW Value × List MemPlace)} {b n lo : Nat} {D : DataW Value} (h : w.ownsMap Try.prog 9 R b n D) (hb : Below lo w w') (hlt : b < lo) : w'.ownsMap Try.prog 9 R b n D := by
  obtain ⟨es, clock, h1, r⟩ := h
  exact ⟨es, clock, (hb.block b hlt).trans h1, r⟩

theorem sameSlice_lit (a : Option Addr) (n c : Nat) (w : World) (g : Good 0 w ⟨a, n, c⟩) :
    Calls Try.prog 23 #[.slice a n c, .slice a n c] w fun e w' => e = .returned (.bool true) ∧ ∃ m, w' = w.drewN m := sameSlice_self ⟨a, n, c⟩ 0 w g

theorem writes_fun (K2 : Nat → ByteArray) (V2 : Nat → Hd) (m2 : Nat) (B2 : Nat → Bool) (p2 n2 : Nat) (s : ByteArray) :
    wrF K2 V2 m2 B2 p2 n2 s = ((lastI K2 n2 s).map fun j => (valOf V2 m2 j, boolOf B2 p2 j)).map fun p => wval p.1 p.2 := by
  simp [wrF, Option.map_map, Function.comp_def]

set_option maxRecDepth 100000 in
set_option maxHeartbeats 4000000 in
theorem walk_in (a0 : Option Addr) (n0 c0 : Nat) (a1 : Option Addr) (n1 c1 : Nat) (a2 : Option Addr) (n2 c2 : Nat) (a3 : Option Addr) (n3 c3 : Nat) (a4 : Option Addr) (n4 c4 : Nat) (K0 K2 : Nat → ByteArray) (V1 V3 : Nat → Hd) (Z1 Z3 : Nat → Nat → Int) (B4 : Nat → Bool) (w : World)
    (T : Told w a0 n0 a1 n1 a2 n2 a3 n3 a4 n4 K0 K2 V1 V3 Z1 Z3 B4) (l0 : n0 ≤ 4096) (l1 : n1 ≤ 4096) (l2 : n2 ≤ 4096) (l3 : n3 ≤ 4096) (l4 : n4 ≤ 4096) :
    Calls Try.prog 5 #[.slice a0 n0 c0, .slice a1 n1 c1, .slice a2 n2 c2, .slice a3 n3 c3, .slice a4 n4 c4] w fun e w' => e = .returned (.bool true) ∧ Below w.heap.size w w' := by
  go_enter Try.func5, Try.ntmps5
  go_wp2_with fail
  refine (zzBytes_any a0 n0 c0 a1 n1 c1 a2 n2 c2 a3 n3 c3 a4 n4 c4 K0 K2 V1 V3 w T.m0 T.m1 T.m2 T.m3 T.m4 T.h0 T.hm0 T.h1 (fun j hj => (T.hm1 j hj).1) T.h2 T.hm2 T.h3 (fun j hj => (T.hm3 j hj).1)).mono ?_
  rintro e wz ⟨bz, rfl, rfl, hz⟩
  have HZ := hide hz
  clear hz
  cases bz with
  | false =>
    go_wp2
    go_ret
    exact ⟨rfl, Below.refl _ _⟩
  | true =>
    obtain ⟨-, -, -, -, -, hv1, hv3⟩ := unhide HZ rfl
    have HV1 := hide hv1
    have HV3 := hide hv3
    clear HZ hv1 hv3
    go_wp2_with fail
    refine (inputBytes_any a0 n0 c0 a1 n1 c1 a2 n2 c2 a3 n3 c3 a4 n4 c4 K0 K2 V1 V3 w (by omega) (by omega) (by omega) (by omega) (by omega) T.h0 T.h1 T.h2 T.h3).mono ?_
    rintro e wz ⟨z, rfl, rfl⟩
    by_cases hz : 1048576 < z
    · go_wp2
      go_ret
      exact ⟨rfl, Below.refl _ _⟩
    · go_wp2_with fail
      refine (cloneStrings_any a0 n0 c0 K0 w (by omega) T.e0 T.h0).mono ?_
      rintro e w1 ⟨⟨k1a, k1n, k1c⟩, rfl, e1, -, -, r1, b1⟩
      simp only [Hd.val] at e1 r1 ⊢
      subst e1
      go_wp2_with fail
      refine (cloneVals_any a1 n1 c1 V1 Z1 w1 (by omega) T.e1 (T.h1.below b1) (fun j hj => ⟨unhide HV1 j hj, (T.hm1 j hj).2.1, (T.hm1 j hj).2.2.below b1⟩)).mono ?_
      rintro e w2 ⟨⟨v1a, v1n, v1c⟩, F1, rfl, e2, r2, g2, b2⟩
      simp only [Hd.val] at e2 r2 ⊢
      subst e2
      have b02 : Below w.heap.size w w2 := b1.trans (b2.mono b1.size)
      go_wp2_with fail
      refine (cloneStrings_any a2 n2 c2 K2 w2 (by omega) T.e2 (T.h2.below b02)).mono ?_
      rintro e w3 ⟨⟨k2a, k2n, k2c⟩, rfl, e3, -, -, r3, b3⟩
      simp only [Hd.val] at e3 r3 ⊢
      subst e3
      have b03 : Below w.heap.size w w3 := b02.trans (b3.mono b02.size)
      go_wp2_with fail
      refine (cloneVals_any a3 n3 c3 V3 Z3 w3 (by omega) T.e3 (T.h3.below b03) (fun j hj => ⟨unhide HV3 j hj, (T.hm3 j hj).2.1, (T.hm3 j hj).2.2.below b03⟩)).mono ?_
      rintro e w4 ⟨⟨v2a, v2n, v2c⟩, F2, rfl, e4, r4, g4, b4⟩
      simp only [Hd.val] at e4 r4 ⊢
      subst e4
      have b04 : Below w.heap.size w w4 := b03.trans (b4.mono b03.size)
      go_wp2_with fail
      refine (cloneBools_any a4 n4 c4 B4 w4 (by omega) T.e4 (T.h4.below b04)).mono ?_
      rintro e w5 ⟨⟨b2a, b2n, b2c⟩, rfl, e5, -, -, r5, b5⟩
      simp only [Hd.val] at e5 r5 ⊢
      subst e5
      have b05 : Below w.heap.size w w5 := b04.trans (b5.mono b04.size)
      have q1 := ((((r1.below b2).below b3).below b4).below b5)
      have q2 := (((r2.below b3).below b4).below b5)
      have q3 := ((r3.below b4).below b5)
      have q4 := (r4.below b5)
      have s0 := T.hm0
      have s2 := T.hm2
      have gg1 : ∀ j, j < v1n → Good 0 w5 (F1 j) := fun j hj => (((((g2 j hj).below b3).below b4).below b5).mono (Nat.zero_le _))
      have gg2 : ∀ j, j < v2n → Good 0 w5 (F2 j) := fun j hj => ((g4 j hj).below b5).mono (Nat.zero_le _)
      have Q1 := hide q1
      have Q2 := hide q2
      have Q3 := hide q3
      have Q4 := hide q4
      have Q5 := hide r5
      have G1 := hide gg1
      have G2 := hide gg2
      have S0 := hide s0
      have S2 := hide s2
      clear r1 r2 r3 r4 r5 g2 g4 b1 b2 b3 b4 b5 b02 b03 b04 q1 q2 q3 q4 s0 s2 gg1 gg2 T HV1 HV3 hz
      go_wp2_with fail
      refine (buildObjects_any k1a k1n k1c v1a v1n v1c K0 F1 w5 (by omega) (by omega) (unhide S0) (unhide Q1) (unhide Q2)).mono ?_
      rintro e w6 ⟨rfl, D1, o1, rd1, b6⟩
      go_wp2_with fail
      refine (buildWrites_any k2a k2n k2c v2a v2n v2c b2a b2n b2c K2 F2 B4 w6 (by omega) (by omega) (by omega) (unhide S2) ((unhide Q3).below b6) ((unhide Q4).below b6) ((unhide Q5).below b6)).mono ?_
      rintro e w7 ⟨rfl, D2, o2, rd2, b7⟩
      have hlt1 := o1.lt
      have o1' := ownsMap_below o1 b7 hlt1
      go_wp2_with fail
      refine (zzApplyWrites_any w5.heap.size w5.heap.size w6.heap.size k1n k2n _ _ D1 D2 w7 (Nat.le_refl _) (by have := b6.size; have := b7.size; omega) (by omega) (by simp [maxLen]; omega) o1' rd1 o2 (rd2.congr (fun s => writes_fun K2 F2 v2n B4 b2n k2n s))).mono ?_
      rintro e w8 ⟨rfl, D, o8, rd8, b8⟩
      have b58 : Below w5.heap.size w5 w8 := (b6.trans (b7.mono b6.size)).trans b8
      have hst : Stands w8 w5.heap.size D ⟨k1a, k1n, k1c⟩ K0 ⟨v1a, v1n, v1c⟩ F1 ⟨k2a, k2n, k2c⟩ K2 ⟨v2a, v2n, v2c⟩ F2 ⟨b2a, b2n, b2c⟩ B4 :=
        ⟨o8, rd8, (unhide Q1).below b58, (unhide Q2).below b58, (unhide Q3).below b58, (unhide Q4).below b58, (unhide Q5).below b58, fun j hj => (unhide G1 j hj).below b58, fun j hj => (unhide G2 j hj).below b58, unhide S0, unhide S2⟩
      have HST := hide hst
      have b08 : Below w.heap.size w w8 := b05.trans (b58.mono b05.size)
      obtain ⟨P, hP⟩ : ∃ P : Nat → Nat, ∀ k, P k = cntF (finF K0 k1n F1 v1n K2 k2n F2 v2n B4 b2n) (keyOf2 K0 k1n K2) k := ⟨_, fun _ => rfl⟩
      have HP := hide hP
      clear hst o1 o1' o2 o8 rd1 rd2 rd8 b6 b7 b8 b58 b05 Q1 Q2 Q3 Q4 Q5 G1 G2 S0 S2 hP hlt1
      go_wp2
      go_loopw [13, 15] (fun p i wr => ∃ k m : Nat, k ≤ k1n + k2n ∧ i = .int .i64 k ∧ p = .int .i64 (P k) ∧ wr = w8.drewN m) (fun _ i _ => k1n + k2n - (intOf i).toNat)
      case atStart => exact ⟨0, 0, Nat.zero_le _, rfl, by rw [unhide HP 0]; rfl, rfl⟩
      case round =>
        obtain ⟨k, m, hk, rfl, rfl, rfl⟩ := hrel
        have hPk : P k ≤ k := by rw [unhide HP k]; exact cntF_le _ _ _
        have hst := (unhide HST).drewN m
        have HS := hide hst
        by_cases hlt : k < k1n + k2n
        · have hks := hst.keySize hlt
          have hgood := hst.good
          clear hst
          generalize hkey : keyOf2 K0 k1n K2 k = key at hks
          have HK := hide hkey
          have HKS := hide hks
          clear hks hkey
          cases hsb : seenB (keyOf2 K0 k1n K2) k key with
          | true =>
            have HSB := hide hsb
            have hp : P (k + 1) = P k := by rw [unhide HP, unhide HP, cntF_seen (by rw [unhide HK]; exact hsb)]
            have HPP := hide hp
            clear hsb hp hgood
            go_wp2_with (first | (go_at_call 18; refine (keyAt_any k1a k1n k1c k2a k2n k2c k K0 K2 _ (by omega) (by omega) (by omega) (unhide HS).row1 (unhide HS).row3).mono ?_; rintro e w' ⟨rfl, rfl⟩; rw [unhide HK]) | (go_at_call 19; refine (seenBefore_any k1a k1n k1c k2a k2n k2c k key K0 K2 _ (by omega) (by omega) (by omega) (unhide HS).row1 (unhide HS).row3).mono ?_; rintro e w' ⟨rfl, rfl⟩; rw [unhide HSB]))
            go_roundw
            case rel => exact ⟨k + 1, m, by omega, by go_num, by rw [unhide HPP], rfl⟩
            case measure => simp [intOf]; omega
          | false =>
            have HSB := hide hsb
            cases hl2 : lastI K2 k2n key with
            | some j =>
              have HL2 := hide hl2
              have hj := (lastI_some hl2).1
              cases hbj : boolOf B4 b2n j with
              | true =>
                have HB := hide hbj
                have hg := fin_del (K1 := K0) (n1 := k1n) (V1 := F1) (m1 := v1n) (V2 := F2) (m2 := v2n) hl2 hbj
                have HG := hide hg
                have hp : P (k + 1) = P k := by rw [unhide HP, unhide HP, cntF_none (by rw [unhide HK]; exact hg)]
                have HPP := hide hp
                clear hsb hp hgood hl2 hbj hg
                go_wp2_with (first | (go_at_call 18; refine (keyAt_any k1a k1n k1c k2a k2n k2c k K0 K2 _ (by omega) (by omega) (by omega) (unhide HS).row1 (unhide HS).row3).mono ?_; rintro e w' ⟨rfl, rfl⟩; rw [unhide HK]) | (go_at_call 19; refine (seenBefore_any k1a k1n k1c k2a k2n k2c k key K0 K2 _ (by omega) (by omega) (by omega) (unhide HS).row1 (unhide HS).row3).mono ?_; rintro e w' ⟨rfl, rfl⟩; rw [unhide HSB]) | (go_at_call_of 20 (Value.slice k2a k2n k2c); refine (lastIndex_any k2a k2n k2c key K2 _ (by omega) (unhide HS).row3).mono ?_; rintro e w' ⟨rfl, rfl⟩; rw [unhide HL2]; simp only [idx]) | (go_at_call 21; refine (boolAt_any b2a b2n b2c j B4 _ (by omega) (by omega) (unhide HS).row5).mono ?_; rintro e w' ⟨rfl, rfl⟩; rw [unhide HB]) | (at_lookup; refine wpList_look_none _ rfl _ _ rfl w5.heap.size _ D _ key rfl rfl (unhide HKS) (unhide HS).own (unhide HS).reads (unhide HG) ?_))
                go_roundw
                case rel => exact ⟨k + 1, m, by omega, by go_num, by rw [unhide HPP], rfl⟩
                case measure => simp [intOf]; omega
              | false =>
                have HB := hide hbj
                have hg := fin_put (K1 := K0) (n1 := k1n) (V1 := F1) (m1 := v1n) (V2 := F2) (m2 := v2n) hl2 hbj
                have hgd := (hgood j).2
                simp only at hgd
                have hp : P (k + 1) = P k + 1 := by rw [unhide HP, unhide HP, cntF_some (by rw [unhide HK]; exact hsb) (by rw [unhide HK]; exact hg)]
                generalize hx : valOf F2 v2n j = x at hg hgd
                obtain ⟨xa, xn, xc⟩ := x
                have HX := hide hx
                have HG := hide hg
                have HGD := hide hgd
                have HPP := hide hp
                clear hsb hp hgood hl2 hbj hg hgd hx
                go_wp2_with (first | (go_at_call 18; refine (keyAt_any k1a k1n k1c k2a k2n k2c k K0 K2 _ (by omega) (by omega) (by omega) (unhide HS).row1 (unhide HS).row3).mono ?_; rintro e w' ⟨rfl, rfl⟩; rw [unhide HK]) | (go_at_call 19; refine (seenBefore_any k1a k1n k1c k2a k2n k2c k key K0 K2 _ (by omega) (by omega) (by omega) (unhide HS).row1 (unhide HS).row3).mono ?_; rintro e w' ⟨rfl, rfl⟩; rw [unhide HSB]) | (go_at_call_of 20 (Value.slice k2a k2n k2c); refine (lastIndex_any k2a k2n k2c key K2 _ (by omega) (unhide HS).row3).mono ?_; rintro e w' ⟨rfl, rfl⟩; rw [unhide HL2]; simp only [idx]) | (go_at_call 21; refine (boolAt_any b2a b2n b2c j B4 _ (by omega) (by omega) (unhide HS).row5).mono ?_; rintro e w' ⟨rfl, rfl⟩; rw [unhide HB]) | (go_at_call 22; refine (valAt_any v2a v2n v2c j F2 _ (by omega) (by omega) (unhide HS).row4).mono ?_; rintro e w' ⟨rfl, rfl⟩; rw [unhide HX]; simp only [Hd.val]) | (at_lookup; refine wpList_look_some _ rfl _ _ rfl w5.heap.size _ D _ key ⟨xa, xn, xc⟩ rfl rfl (unhide HKS) (unhide HS).own (unhide HS).reads (unhide HG) ?_) | (go_at_call 23; refine (sameSlice_lit xa xn xc _ (unhide HGD)).mono ?_; rintro e w' ⟨rfl, m', rfl⟩))
                go_roundw
                case rel => exact ⟨k + 1, m + m', by omega, by go_num, by rw [unhide HPP]; go_num, rfl⟩
                case measure => simp [intOf]; omega
            | none =>
              have HL2 := hide hl2
              obtain ⟨j, hl1⟩ := key_in hlt (by rw [unhide HK]; exact hl2)
              rw [unhide HK] at hl1
              have HL1 := hide hl1
              have hj := (lastI_some hl1).1
              have hg := fin_old (V1 := F1) (m1 := v1n) (V2 := F2) (m2 := v2n) (B2 := B4) (p2 := b2n) hl2 hl1
              have hgd := (hgood j).1
              simp only at hgd
              have hp : P (k + 1) = P k + 1 := by rw [unhide HP, unhide HP, cntF_some (by rw [unhide HK]; exact hsb) (by rw [unhide HK]; exact hg)]
              generalize hx : valOf F1 v1n j = x at hg hgd
              obtain ⟨xa, xn, xc⟩ := x
              have HX := hide hx
              have HG := hide hg
              have HGD := hide hgd
              have HPP := hide hp
              clear hsb hp hgood hl2 hl1 hg hgd hx
              go_wp2_with (first | (go_at_call 18; refine (keyAt_any k1a k1n k1c k2a k2n k2c k K0 K2 _ (by omega) (by omega) (by omega) (unhide HS).row1 (unhide HS).row3).mono ?_; rintro e w' ⟨rfl, rfl⟩; rw [unhide HK]) | (go_at_call 19; refine (seenBefore_any k1a k1n k1c k2a k2n k2c k key K0 K2 _ (by omega) (by omega) (by omega) (unhide HS).row1 (unhide HS).row3).mono ?_; rintro e w' ⟨rfl, rfl⟩; rw [unhide HSB]) | (go_at_call_of 20 (Value.slice k2a k2n k2c); refine (lastIndex_any k2a k2n k2c key K2 _ (by omega) (unhide HS).row3).mono ?_; rintro e w' ⟨rfl, rfl⟩; rw [unhide HL2]; simp only [idx]) | (go_at_call_of 20 (Value.slice k1a k1n k1c); refine (lastIndex_any k1a k1n k1c key K0 _ (by omega) (unhide HS).row1).mono ?_; rintro e w' ⟨rfl, rfl⟩; rw [unhide HL1]; simp only [idx]) | (go_at_call 22; refine (valAt_any v1a v1n v1c j F1 _ (by omega) (by omega) (unhide HS).row2).mono ?_; rintro e w' ⟨rfl, rfl⟩; rw [unhide HX]; simp only [Hd.val]) | (at_lookup; refine wpList_look_some _ rfl _ _ rfl w5.heap.size _ D _ key ⟨xa, xn, xc⟩ rfl rfl (unhide HKS) (unhide HS).own (unhide HS).reads (unhide HG) ?_) | (go_at_call 23; refine (sameSlice_lit xa xn xc _ (unhide HGD)).mono ?_; rintro e w' ⟨rfl, m', rfl⟩))
              go_roundw
              case rel => exact ⟨k + 1, m + m', by omega, by go_num, by rw [unhide HPP]; go_num, rfl⟩
              case measure => simp [intOf]; omega
        · have hk' : k = k1n + k2n := by omega
          have hsz := hst.size
          simp only at hsz
          rw [← unhide HP, ← hk'] at hsz
          have hown := hst.own
          have hbq : (((Maps.size D : Nat) : Int) == ((P k : Nat) : Int)) = true := by rw [hsz]; simp
          clear hst hsz hk'
          go_wp2_with (at_len; refine wpList_len_own _ rfl _ 35 rfl 9 23 Try.underlying35 _ w5.heap.size _ D rfl hown ?_)
          go_ret
          exact ⟨rfl, below_drewN b08 m⟩

set_option maxHeartbeats 2000000 in
theorem walk_out (a0 : Option Addr) (n0 c0 : Nat) (a1 : Option Addr) (n1 c1 : Nat) (a2 : Option Addr) (n2 c2 : Nat) (a3 : Option Addr) (n3 c3 : Nat) (a4 : Option Addr) (n4 c4 : Nat) (K0 K2 : Nat → ByteArray) (V1 V3 : Nat → Hd) (Z1 Z3 : Nat → Nat → Int) (B4 : Nat → Bool) (w : World)
    (T : Told w a0 n0 a1 n1 a2 n2 a3 n3 a4 n4 K0 K2 V1 V3 Z1 Z3 B4) (hout : ¬ (n0 ≤ 4096 ∧ n1 ≤ 4096 ∧ n2 ≤ 4096 ∧ n3 ≤ 4096 ∧ n4 ≤ 4096)) :
    Calls Try.prog 5 #[.slice a0 n0 c0, .slice a1 n1 c1, .slice a2 n2 c2, .slice a3 n3 c3, .slice a4 n4 c4] w fun e w' => e = .returned (.bool true) ∧ Below w.heap.size w w' := by
  go_enter Try.func5, Try.ntmps5
  go_wp2_with fail
  refine (zzBytes_any a0 n0 c0 a1 n1 c1 a2 n2 c2 a3 n3 c3 a4 n4 c4 K0 K2 V1 V3 w T.m0 T.m1 T.m2 T.m3 T.m4 T.h0 T.hm0 T.h1 (fun j hj => (T.hm1 j hj).1) T.h2 T.hm2 T.h3 (fun j hj => (T.hm3 j hj).1)).mono ?_
  rintro e wz ⟨bz, rfl, rfl, hz⟩
  have HZ := hide hz
  clear hz
  cases bz with
  | false =>
    go_wp2
    go_ret
    exact ⟨rfl, Below.refl _ _⟩
  | true =>
    obtain ⟨x0, x1, x2, x3, x4, -, -⟩ := unhide HZ rfl
    clear HZ
    go_wp2_with fail
    refine (inputBytes_any a0 n0 c0 a1 n1 c1 a2 n2 c2 a3 n3 c3 a4 n4 c4 K0 K2 V1 V3 w x0 x1 x2 x3 x4 T.h0 T.h1 T.h2 T.h3).mono ?_
    rintro e wz ⟨z, rfl, rfl⟩
    clear T
    by_cases hz : 1048576 < z
    · go_wp2
      go_ret
      exact ⟨rfl, Below.refl _ _⟩
    · have hsplit : 4096 < n0 ∨ (n0 ≤ 4096 ∧ 4096 < n1) ∨ (n0 ≤ 4096 ∧ n1 ≤ 4096 ∧ 4096 < n2) ∨ (n0 ≤ 4096 ∧ n1 ≤ 4096 ∧ n2 ≤ 4096 ∧ 4096 < n3) ∨ (n0 ≤ 4096 ∧ n1 ≤ 4096 ∧ n2 ≤ 4096 ∧ n3 ≤ 4096 ∧ 4096 < n4) := by omega
      clear hout
      rcases hsplit with y0 | ⟨y0, y1⟩ | ⟨y0, y1, y2⟩ | ⟨y0, y1, y2, y3⟩ | ⟨y0, y1, y2, y3, y4⟩
      all_goals
        go_wp2
        go_ret
        exact ⟨rfl, Below.refl _ _⟩

theorem walk (a0 : Option Addr) (n0 c0 : Nat) (a1 : Option Addr) (n1 c1 : Nat) (a2 : Option Addr) (n2 c2 : Nat) (a3 : Option Addr) (n3 c3 : Nat) (a4 : Option Addr) (n4 c4 : Nat) (K0 K2 : Nat → ByteArray) (V1 V3 : Nat → Hd) (Z1 Z3 : Nat → Nat → Int) (B4 : Nat → Bool) (w : World)
    (T : Told w a0 n0 a1 n1 a2 n2 a3 n3 a4 n4 K0 K2 V1 V3 Z1 Z3 B4) :
    Calls Try.prog 5 #[.slice a0 n0 c0, .slice a1 n1 c1, .slice a2 n2 c2, .slice a3 n3 c3, .slice a4 n4 c4] w fun e w' => e = .returned (.bool true) ∧ Below w.heap.size w w' := by
  by_cases h : n0 ≤ 4096 ∧ n1 ≤ 4096 ∧ n2 ≤ 4096 ∧ n3 ≤ 4096 ∧ n4 ≤ 4096
  · exact walk_in a0 n0 c0 a1 n1 c1 a2 n2 c2 a3 n3 c3 a4 n4 c4 K0 K2 V1 V3 Z1 Z3 B4 w T h.1 h.2.1 h.2.2.1 h.2.2.2.1 h.2.2.2.2
  · exact walk_out a0 n0 c0 a1 n1 c1 a2 n2 c2 a3 n3 c3 a4 n4 c4 K0 K2 V1 V3 Z1 Z3 B4 w T h

end Go.Proofs.Qxb6603717a.Aw
