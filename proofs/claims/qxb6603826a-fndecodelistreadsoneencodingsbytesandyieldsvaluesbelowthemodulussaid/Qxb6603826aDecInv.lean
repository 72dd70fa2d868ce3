/- decodeList: plain steps, and what lies side by side in memory. -/
import Derived.Test.Qxb6603826aLeaf
namespace Go.Proofs.Qxb6603826a
open Go.RowKit
set_option linter.unusedVariables false

/-! ### the last value -/
theorem fk_one : fk 1 = 0 := by decide
theorem fk_low {m : Nat} (h1 : 2 ≤ m) (h2 : m ≤ 256) : fk m = 1 := by
  have e : ¬ 2 ≤ cut m := by unfold cut; omega
  simp [fk, sk, h1, e]
theorem fk_high {m : Nat} (h1 : 257 ≤ m) (h2 : m ≤ 16384) : fk m = 2 := by
  have e : 2 ≤ cut m := by unfold cut; omega
  simp [fk, sk, e, show 2 ≤ m by omega]

theorem leaf_any (vb : Value) (gm om cm m : Nat) (w : World) (ho : OkM m) (hm : w.cell? ⟨gm, om, none⟩ = some (.int .u32 m)) (B : List Nat) (w0 : World) (hw0 : Below w0.heap.size w0 w) (hB : BS w0 vb B) (hk : fk m ≤ B.length) :
    Calls Try.prog 21 #[vb, .slice (some ⟨gm, om, none⟩) 1 cm] w (DPost w0 w [fromB (B.take (fk m)) % m] (B.drop (fk m))) := by
  obtain ⟨o1, o2⟩ := ho
  by_cases h1 : m = 1
  · subst h1
    rw [fk_one]
    have := leaf0 vb gm om cm w hm B w0 hw0 hB
    simpa [fromB] using this
  · by_cases h2 : m ≤ 256
    · rw [fk_low (by omega) h2] at hk ⊢
      match B, hk, hB with
      | b :: B, _, hB =>
        have := leaf1 vb gm om cm m w (by omega) h2 hm b B w0 hw0 hB
        simpa [fromB] using this
    · rw [fk_high (by omega) o2] at hk ⊢
      match B, hk, hB with
      | b :: b' :: B, _, hB =>
        have := leaf2 vb gm om cm m w (by omega) o2 hm b b' B w0 hw0 hB
        simpa [fromB] using this
      | [b], hk, _ => simp at hk

/-! ### the pairs, plainly -/
structure DEq (M : List Nat) (k : Nat) (B : List Nat) (P : List (Nat × Nat)) (U : List Nat) (L Bf UM : List Nat) : Prop where
  l : P.map Prod.fst ++ (dl (M.drop (2 * k)) B).1 = L
  b : (dl (M.drop (2 * k)) B).2 = Bf
  u : U ++ mr (M.drop (2 * k)) = UM
  s : ∀ i, i < P.length → (P.getD i (0, 0)).2 = 256 ^ pk (M.getD (2 * i) 0) (M.getD (2 * i + 1) 0) ∧ (P.getD i (0, 0)).1 < (P.getD i (0, 0)).2
  n : bl (M.drop (2 * k)) ≤ B.length
  kp : P.length = k
  ku : U.length = k

theorem DEq.start {M B : List Nat} (h : bl M ≤ B.length) : DEq M 0 B [] [] (dl M B).1 (dl M B).2 (mr M) :=
  ⟨rfl, rfl, rfl, fun i hi => absurd hi (Nat.not_lt_zero _), h, rfl, rfl⟩

theorem DEq.room {M : List Nat} {k : Nat} {B : List Nat} {P : List (Nat × Nat)} {U L Bf UM : List Nat} (h : DEq M k B P U L Bf UM) (hi : 2 * k + 1 < M.length) {m0 m1 : Nat} (e0 : M.getD (2 * k) 0 = m0) (e1 : M.getD (2 * k + 1) 0 = m1) : pk m0 m1 ≤ B.length := by
  have h2 := h.n
  rw [drop_two hi, e0, e1, bl] at h2
  omega

theorem DEq.pair {M : List Nat} {k : Nat} {B : List Nat} {P : List (Nat × Nat)} {U L Bf UM : List Nat} (h : DEq M k B P U L Bf UM) (hB : ∀ x, x ∈ B → x < 256) (hi : 2 * k + 1 < M.length) {m0 m1 : Nat} (e0 : M.getD (2 * k) 0 = m0) (e1 : M.getD (2 * k + 1) 0 = m1) :
    DEq M (k + 1) (B.drop (pk m0 m1)) (P ++ [(fromB (B.take (pk m0 m1)), 256 ^ pk m0 m1)]) (U ++ [pn m0 m1]) L Bf UM := by
  have hr := h.room hi e0 e1
  have hf := fromB_lt (B.take (pk m0 m1)) (fun x hx => hB x (List.mem_of_mem_take hx))
  rw [List.length_take, Nat.min_eq_left hr] at hf
  obtain ⟨h1, h2, h3, h4, h5, h6, h7⟩ := h
  rw [drop_two hi, e0, e1] at h1 h2 h3 h5
  simp only [dl, mr, bl] at h1 h2 h3 h5
  refine ⟨?_, h2, ?_, fun i hi' => ?_, ?_, by simp [h6], by simp [h7]⟩
  · rw [← h1, List.map_append, List.append_assoc]; rfl
  · rw [← h3, List.append_assoc]; rfl
  · rw [List.length_append, List.length_singleton] at hi'
    by_cases e : i = P.length
    · subst e
      have e9 : (P ++ [(fromB (B.take (pk m0 m1)), 256 ^ pk m0 m1)]).getD P.length (0, 0) = (fromB (B.take (pk m0 m1)), 256 ^ pk m0 m1) := by simp [List.getD]
      rw [e9, h6, e0, e1]
      exact ⟨rfl, hf⟩
    · have h8 := h4 i (by omega)
      simp only [List.getD] at h8 ⊢
      rw [List.getElem?_append_left (by omega)]
      exact h8
  · show bl (M.drop (2 * k + 2)) ≤ _
    rw [List.length_drop]
    omega

theorem DEq.odd {M : List Nat} {k : Nat} {B : List Nat} {P : List (Nat × Nat)} {U L Bf UM : List Nat} (h : DEq M k B P U L Bf UM) (hi : 2 * k + 1 = M.length) : P.map Prod.fst = L ∧ B = Bf ∧ U ++ [M.getD (2 * k) 0] = UM := by
  obtain ⟨h1, h2, h3, _, _, _, _⟩ := h
  rw [drop_one hi] at h1 h2 h3
  simp only [dl, mr] at h1 h2 h3
  exact ⟨by simpa using h1, h2, h3⟩
theorem DEq.even {M : List Nat} {k : Nat} {B : List Nat} {P : List (Nat × Nat)} {U L Bf UM : List Nat} (h : DEq M k B P U L Bf UM) (hi : 2 * k = M.length) : P.map Prod.fst = L ∧ B = Bf ∧ U = UM := by
  obtain ⟨h1, h2, h3, _, _, _, _⟩ := h
  rw [List.drop_of_length_le (l := M) (by omega)] at h1 h2 h3
  simp only [dl, mr] at h1 h2 h3
  exact ⟨by simpa using h1, h2, by simpa using h3⟩

/-- A pair's bytes under way. -/
structure IEq (f n v sc : Nat) (B : List Nat) (LV : Nat) (BD : List Nat) (SC NN : Nat) : Prop where
  ev : v + sc * fromB (B.take (sk 16384 f n)) = LV
  eb : B.drop (sk 16384 f n) = BD
  es : sc * 256 ^ sk 16384 f n = SC
  en : sn 16384 f n = NN
  room : sk 16384 f n ≤ B.length

theorem IEq.step {f n v sc : Nat} {B : List Nat} {LV : Nat} {BD : List Nat} {SC NN : Nat} (h : IEq (f + 1) n v sc B LV BD SC NN) (hT : 16384 ≤ n) : ∃ b B', B = b :: B' ∧ IEq f (cut n) (v + b * sc) (sc * 256) B' LV BD SC NN := by
  obtain ⟨h1, h2, h3, h4, h5⟩ := h
  obtain ⟨s1, s2, -, -⟩ := shed_step (T := 16384) (f := f) (v := v) hT
  rw [s1] at h1 h2 h3 h5
  rw [s2] at h4
  match B, h5, h1, h2 with
  | b :: B', h5, h1, h2 =>
    refine ⟨b, B', rfl, ?_, ?_, ?_, h4, by simpa using h5⟩
    · rw [← h1, List.take_succ_cons, fromB, Nat.mul_add, Nat.mul_assoc, Nat.mul_comm b sc, Nat.add_assoc]
    · rw [← h2]; rfl
    · rw [← h3, Nat.pow_succ, Nat.mul_assoc, Nat.mul_comm 256]
theorem IEq.stop {f n v sc : Nat} {B : List Nat} {LV : Nat} {BD : List Nat} {SC NN : Nat} (h : IEq f n v sc B LV BD SC NN) (hT : n < 16384) : v = LV ∧ B = BD ∧ sc = SC ∧ n = NN := by
  obtain ⟨h1, h2, h3, h4, h5⟩ := h
  obtain ⟨s1, s2⟩ := shed_stop (T := 16384) (f := f) (v := v) (n := n) hT
  rw [s1] at h1 h2 h3
  rw [s2] at h4
  exact ⟨by simpa [fromB] using h1, by simpa using h2, by simpa using h3, h4⟩

/-- The values, plainly. -/
def CEq (M L UV : List Nat) (k : Nat) (Vs G : List Nat) : Prop := Vs ++ cb (M.drop (2 * k)) (L.drop k) (UV.drop k) = G

theorem drop_cons' {l : List Nat} {i : Nat} (h : i < l.length) : l.drop i = l.getD i 0 :: l.drop (i + 1) := by
  rw [List.drop_eq_getElem_cons h]
  simp [List.getD, h]

theorem CEq.pair {M L UV : List Nat} {k : Nat} {Vs G : List Nat} (h : CEq M L UV k Vs G) (hi : 2 * k + 1 < M.length) (hL : k < L.length) (hU : k < UV.length) {m0 m1 l u : Nat} (e0 : M.getD (2 * k) 0 = m0) (e1 : M.getD (2 * k + 1) 0 = m1) (el : L.getD k 0 = l) (eu : UV.getD k 0 = u) :
    CEq M L UV (k + 1) (Vs ++ [(l + 256 ^ pk m0 m1 * u) % m0, (l + 256 ^ pk m0 m1 * u) / m0 % m1]) G := by
  unfold CEq at h ⊢
  rw [drop_two hi, drop_cons' hL, drop_cons' hU, e0, e1, el, eu, cb] at h
  rw [← h, List.append_assoc]
  rfl
theorem CEq.odd {M L UV : List Nat} {k : Nat} {Vs G : List Nat} (h : CEq M L UV k Vs G) (hi : 2 * k + 1 = M.length) (hU : k < UV.length) : Vs ++ [UV.getD k 0] = G := by
  unfold CEq at h
  rw [drop_one hi, drop_cons' hU, cb] at h
  exact h
theorem CEq.even {M L UV : List Nat} {k : Nat} {Vs G : List Nat} (h : CEq M L UV k Vs G) (hi : 2 * k = M.length) : Vs = G := by
  unfold CEq at h
  rw [List.drop_of_length_le (l := M) (by omega)] at h
  simpa [cb] using h

/-! ### the pairs in memory -/
def cp (P : List (Nat × Nat)) : List Value := P.flatMap fun p => [.int .u32 (p.1 : Int), .int .u32 (p.2 : Int)]
theorem cp_snoc (P : List (Nat × Nat)) (a b : Nat) : cp (P ++ [(a, b)]) = cp P ++ [.int .u32 (a : Int), .int .u32 (b : Int)] := by simp [cp]
theorem cp_length (P : List (Nat × Nat)) : (cp P).length = P.length * 2 := by
  induction P with
  | nil => rfl
  | cons p P ih => simp only [cp, List.flatMap_cons, List.length_append, List.length_cons] at ih ⊢; simp at ih ⊢; omega
theorem cp_get : ∀ (P : List (Nat × Nat)) {i : Nat}, i < P.length → (cp P)[i * 2]? = some (.int .u32 ((P.getD i (0, 0)).1 : Nat)) ∧ (cp P)[i * 2 + 1]? = some (.int .u32 ((P.getD i (0, 0)).2 : Nat))
  | p :: P, 0, _ => by simp [cp]
  | p :: P, i + 1, h => by
    have ih := cp_get P (i := i) (by simpa using h)
    have e : cp (p :: P) = .int .u32 (p.1 : Int) :: .int .u32 (p.2 : Int) :: cp P := by simp [cp]
    rw [e, show (i + 1) * 2 = i * 2 + 1 + 1 by omega]
    simpa using ih

/-- decodeList under way: pairs and upperModuli, side by side. -/
structure DI (w wr : World) (vp : Value) (P : List (Nat × Nat)) (vu : Value) (U : List Nat) : Prop where
  op : wr.ownsRow w.heap.size 46 2 vp P.length (cp P)
  ou : wr.ownsRow w.heap.size 24 1 vu U.length (c32 U)
  ne : vp.ownBlock = none ∨ vu.ownBlock = none ∨ vp.ownBlock ≠ vu.ownBlock
  bel : Below w.heap.size w wr

section
variable {w wr w' : World} {vp vu : Value} {P : List (Nat × Nat)} {U : List Nat}

theorem DI.alloc (h : DI w wr vp P vu U) (o : Obj) : DI w (wr.alloc o) vp P vu U := ⟨h.op.alloc o, h.ou.alloc o, h.ne, h.bel.alloc h.bel.size o⟩
theorem DI.drewN (h : DI w wr vp P vu U) (m : Nat) : DI w (wr.drewN m) vp P vu U := ⟨h.op, h.ou, h.ne, ⟨h.bel.os, h.bel.tape, h.bel.output, h.bel.size, h.bel.block⟩⟩
theorem DI.drew (h : DI w wr vp P vu U) : DI w wr.drew vp P vu U := ⟨h.op, h.ou, h.ne, ⟨h.bel.os, h.bel.tape, h.bel.output, h.bel.size, h.bel.block⟩⟩

/-- A step that turns one block of the call's own, neither row's. -/
theorem DI.kept (h : DI w wr vp P vu U) {row : Option Nat} (hg : wr.grownBy w' row) (hr : ∀ j, row = some j → w.heap.size ≤ j) (h1 : vp.ownBlock = none ∨ vp.ownBlock ≠ row) (h2 : vu.ownBlock = none ∨ vu.ownBlock ≠ row) : DI w w' vp P vu U :=
  ⟨h.op.kept hg h1, h.ou.kept hg h2, h.ne, h.bel.grown hg h.bel.size hr⟩

theorem DI.pushU (h : DI w wr vp P vu U) {b g cap : Nat} (ho : w'.ownsRow w.heap.size 24 1 (.slice (some ⟨g, 0, none⟩) (U.length + 1) cap) (U.length + 1) (c32 U ++ [.int .u32 (b : Int)])) (hg : wr.grownBy w' vu.ownBlock) (hat : vu.ownBlock = some g ∨ wr.heap.size ≤ g) :
    DI w w' vp P (.slice (some ⟨g, 0, none⟩) (U.length + 1) cap) (U ++ [b]) := by
  have h1 : vp.ownBlock = none ∨ vp.ownBlock ≠ vu.ownBlock := by
    rcases h.ne with h' | h' | h'
    · exact .inl h'
    · cases hv : vp.ownBlock with
      | none => exact .inl rfl
      | some j => exact .inr (by rw [h']; simp)
    · exact .inr h'
  refine ⟨h.op.kept hg h1, by rw [List.length_append, List.length_singleton, c32_snoc]; exact ho, ?_, h.bel.grown hg h.bel.size (fun j hj => (h.ou.lt j hj).1)⟩
  cases hv : vp.ownBlock with
  | none => exact .inl rfl
  | some j =>
    refine .inr (.inr ?_)
    show some j ≠ some g
    rcases hat with hat | hat
    · rcases h1 with h1 | h1
      · rw [hv] at h1; cases h1
      · rw [hv, hat] at h1; exact h1
    · have := (h.op.lt j hv).2
      simp
      omega

theorem DI.pushP (h : DI w wr vp P vu U) {a b g cap : Nat} (ho : w'.ownsRow w.heap.size 46 2 (.slice (some ⟨g, 0, none⟩) (P.length + 1) cap) (P.length + 1) (cp P ++ [.int .u32 (a : Int), .int .u32 (b : Int)])) (hg : wr.grownBy w' vp.ownBlock) (hat : vp.ownBlock = some g ∨ wr.heap.size ≤ g) :
    DI w w' (.slice (some ⟨g, 0, none⟩) (P.length + 1) cap) (P ++ [(a, b)]) vu U := by
  have h1 : vu.ownBlock = none ∨ vu.ownBlock ≠ vp.ownBlock := by
    rcases h.ne with h' | h' | h'
    · cases hv : vu.ownBlock with
      | none => exact .inl rfl
      | some j => exact .inr (by rw [h']; simp)
    · exact .inl h'
    · exact .inr (Ne.symm h')
  refine ⟨by rw [List.length_append, List.length_singleton, cp_snoc]; exact ho, h.ou.kept hg h1, ?_, h.bel.grown hg h.bel.size (fun j hj => (h.op.lt j hj).1)⟩
  cases hv : vu.ownBlock with
  | none => exact .inr (.inl rfl)
  | some j =>
    refine .inr (.inr ?_)
    show some g ≠ some j
    rcases hat with hat | hat
    · rcases h1 with h1 | h1
      · rw [hv] at h1; cases h1
      · rw [hv, hat] at h1; exact Ne.symm h1
    · have := (h.ou.lt j hv).2
      simp
      omega
end

theorem grown_setCell (w : World) (a : Addr) (u : Value) : w.grownBy (w.setCell a u) (some a.block) :=
  ⟨rfl, rfl, rfl, by simp [World.setCell], fun k hk hne => Below.heap_setCell _ _ _ _ (fun e => hne (by rw [e]))⟩

/-- The variable 'l': a block of its own. -/
structure LB (w wr : World) (gl : Nat) (vp vu : Value) (v sc : Nat) : Prop where
  blk : wr.heap[gl]? = some (.cells #[.int .u32 (v : Int), .int .u32 (sc : Int)] 46 (0, 0))
  new : w.heap.size ≤ gl
  np : vp.ownBlock ≠ some gl
  nu : vu.ownBlock ≠ some gl

section
variable {w wr w' : World} {vp vu : Value} {P : List (Nat × Nat)} {U : List Nat} {gl v sc : Nat}
theorem LB.start (h : DI w wr vp P vu U) (a b : Nat) : LB w (wr.alloc (.cells #[.int .u32 (a : Int), .int .u32 (b : Int)] 46)) wr.heap.size vp vu a b :=
  ⟨heap_alloc_new wr _, h.bel.size, fun e => Nat.lt_irrefl _ (h.op.lt _ e).2, fun e => Nat.lt_irrefl _ (h.ou.lt _ e).2⟩
theorem LB.cell0 (h : LB w wr gl vp vu v sc) : wr.cell? ⟨gl, 0, none⟩ = some (.int .u32 (v : Int)) := by rw [cell_of_row wr gl 0 _ _ _ h.blk]; rfl
theorem LB.cell1 (h : LB w wr gl vp vu v sc) : wr.cell? ⟨gl, 1, none⟩ = some (.int .u32 (sc : Int)) := by rw [cell_of_row wr gl 1 _ _ _ h.blk]; rfl
theorem LB.free (h : LB w wr gl vp vu v sc) (j : Nat) : wr.frozen? ⟨gl, j, none⟩ = false := frozen_of_row wr gl j _ 46 h.blk
theorem LB.set0 (h : LB w wr gl vp vu v sc) (x : Nat) : LB w (wr.setCell ⟨gl, 0, none⟩ (.int .u32 (x : Int))) gl vp vu x sc :=
  ⟨heap_setCell_same wr gl 0 _ 46 _ h.blk, h.new, h.np, h.nu⟩
theorem LB.set1 (h : LB w wr gl vp vu v sc) (x : Nat) : LB w (wr.setCell ⟨gl, 1, none⟩ (.int .u32 (x : Int))) gl vp vu v x :=
  ⟨heap_setCell_same wr gl 1 _ 46 _ h.blk, h.new, h.np, h.nu⟩
theorem LB.drewN (h : LB w wr gl vp vu v sc) (m : Nat) : LB w (wr.drewN m) gl vp vu v sc := ⟨h.blk, h.new, h.np, h.nu⟩
theorem LB.drew (h : LB w wr gl vp vu v sc) : LB w wr.drew gl vp vu v sc := ⟨h.blk, h.new, h.np, h.nu⟩
theorem DI.setL (h : DI w wr vp P vu U) (hl : LB w wr gl vp vu v sc) (j : Nat) (x : Value) : DI w (wr.setCell ⟨gl, j, none⟩ x) vp P vu U :=
  h.kept (grown_setCell wr ⟨gl, j, none⟩ x) (fun i hi => by cases hi; exact hl.new) (.inr hl.np) (.inr hl.nu)
end

theorem own_base {w : World} {base base' : Nat} {e : TypeId} {size : Nat} {v : Value} {n : Nat} {xs : List Value} (h : w.ownsRow base e size v n xs) (hb : base' ≤ base) : w.ownsRow base' e size v n xs := by
  obtain ⟨h1, h2 | ⟨g, cap, cur, a, b, c, d⟩⟩ := h
  · exact ⟨h1, .inl h2⟩
  · exact ⟨h1, .inr ⟨g, cap, cur, a, Nat.le_trans hb b, c, d⟩⟩

/-- The values under way: pairs and upper are read, values is appended to. -/
structure FI (w wr : World) (vp : Value) (P : List (Nat × Nat)) (vu : Value) (UV : List Nat) (vv : Value) (Vs : List Nat) : Prop where
  op : wr.ownsRow w.heap.size 46 2 vp P.length (cp P)
  ou : wr.ownsRow w.heap.size 24 1 vu UV.length (c32 UV)
  ov : wr.ownsRow w.heap.size 24 1 vv Vs.length (c32 Vs)
  np : vp.ownBlock = none ∨ vp.ownBlock ≠ vv.ownBlock
  nu : vu.ownBlock = none ∨ vu.ownBlock ≠ vv.ownBlock
  bel : Below w.heap.size w wr

section
variable {w wr w' : World} {vp vu vv : Value} {P : List (Nat × Nat)} {UV Vs : List Nat}
theorem FI.start {vu0 : Value} {U : List Nat} {w5 w6 : World} {n : Nat} (h : DI w wr vp P vu0 U) (hb : Below wr.heap.size wr w5) (ho : w5.ownsRow wr.heap.size 24 1 vu UV.length (c32 UV)) (hv : w6.ownsRow w.heap.size 24 1 (.slice (some ⟨w5.heap.size, 0, none⟩) 0 n) 0 []) (hg : w5.grownBy w6 none) :
    FI w w6 vp P vu UV (.slice (some ⟨w5.heap.size, 0, none⟩) 0 n) [] := by
  have k0 : ∀ o : Option Nat, o = none ∨ o ≠ none := fun o => by cases o <;> simp
  have a1 := h.op.kept (grown_of_below hb) (k0 _)
  refine ⟨a1.kept hg (k0 _), (own_base ho h.bel.size).kept hg (k0 _), hv, ?_, ?_, (h.bel.trans (hb.mono h.bel.size)).grown hg (Nat.le_trans h.bel.size hb.size) (fun j hj => by cases hj)⟩
  · cases e : vp.ownBlock with
    | none => exact .inl rfl
    | some j =>
      have := (a1.lt j e).2
      exact .inr (by simp [Value.ownBlock]; omega)
  · cases e : vu.ownBlock with
    | none => exact .inl rfl
    | some j =>
      have := (ho.lt j e).2
      exact .inr (by simp [Value.ownBlock]; omega)
theorem FI.alloc (h : FI w wr vp P vu UV vv Vs) (o : Obj) : FI w (wr.alloc o) vp P vu UV vv Vs := ⟨h.op.alloc o, h.ou.alloc o, h.ov.alloc o, h.np, h.nu, h.bel.alloc h.bel.size o⟩
theorem FI.drewN (h : FI w wr vp P vu UV vv Vs) (m : Nat) : FI w (wr.drewN m) vp P vu UV vv Vs := ⟨h.op, h.ou, h.ov, h.np, h.nu, ⟨h.bel.os, h.bel.tape, h.bel.output, h.bel.size, h.bel.block⟩⟩
theorem FI.drew (h : FI w wr vp P vu UV vv Vs) : FI w wr.drew vp P vu UV vv Vs := ⟨h.op, h.ou, h.ov, h.np, h.nu, ⟨h.bel.os, h.bel.tape, h.bel.output, h.bel.size, h.bel.block⟩⟩
theorem FI.push (h : FI w wr vp P vu UV vv Vs) {news : List Nat} {g cap : Nat} (ho : w'.ownsRow w.heap.size 24 1 (.slice (some ⟨g, 0, none⟩) (Vs.length + news.length) cap) (Vs.length + news.length) (c32 Vs ++ c32 news)) (hg : wr.grownBy w' vv.ownBlock) (hat : vv.ownBlock = some g ∨ wr.heap.size ≤ g) :
    FI w w' vp P vu UV (.slice (some ⟨g, 0, none⟩) (Vs.length + news.length) cap) (Vs ++ news) := by
  have hne : ∀ x : Value, (∀ j, x.ownBlock = some j → j < wr.heap.size) → (x.ownBlock = none ∨ x.ownBlock ≠ vv.ownBlock) → x.ownBlock = none ∨ x.ownBlock ≠ (Value.slice (some ⟨g, 0, none⟩) (Vs.length + news.length) cap).ownBlock := fun x hx hn => by
    show _ ∨ _ ≠ some g
    cases e : x.ownBlock with
    | none => exact .inl rfl
    | some j =>
      refine .inr ?_
      rcases hat with hat | hat
      · rcases hn with hn | hn
        · rw [e] at hn; cases hn
        · rw [e, hat] at hn; exact hn
      · have := hx j e
        simp
        omega
  refine ⟨h.op.kept hg h.np, h.ou.kept hg h.nu, ?_, hne vp (fun j hj => (h.op.lt j hj).2) h.np, hne vu (fun j hj => (h.ou.lt j hj).2) h.nu, h.bel.grown hg h.bel.size (fun j hj => (h.ov.lt j hj).1)⟩
  have e : c32 (Vs ++ news) = c32 Vs ++ c32 news := by simp [c32]
  rw [List.length_append, e]
  exact ho
end

theorem dheap_drew (w : World) : w.drew.heap = w.heap := rfl
theorem dheap_alloc (w : World) (o : Obj) : (w.alloc o).heap = w.heap.push o := rfl
theorem dblk (h : Array Obj) (A : Obj) : (h.push A)[h.size]? = some A := by simp

end Go.Proofs.Qxb6603826a
