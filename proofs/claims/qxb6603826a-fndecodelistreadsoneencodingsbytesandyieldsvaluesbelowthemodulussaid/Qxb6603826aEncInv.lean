/- encode: what stands side by side in memory. -/
import Derived.Test.Qxb6603826aClone
import Derived.Test.Qxb6603826aPlain




namespace Go.Proofs.Qxb6603826a
open Go.RowKit
set_option linter.unusedVariables false

/-- encode under way: out, values, moduli, next, nextModuli, side by side; what has turned since w. -/
structure EI (w wr : World) (row : Option Nat) (vo : Value) (O : List Nat) (vv : Value) (V : List Nat) (vm : Value) (M : List Nat) (vx : Value) (X : List Nat) (vy : Value) (Y : List Nat) : Prop where
  fam : Fam wr [⟨5, vo, c8 O⟩, ⟨24, vv, c32 V⟩, ⟨24, vm, c32 M⟩, ⟨24, vx, c32 X⟩, ⟨24, vy, c32 Y⟩]
  gr : w.grownBy wr row
  ho : ∀ j, vo.ownBlock = some j → w.heap.size ≤ j ∨ row = some j
  hx : ∀ j, vx.ownBlock = some j → w.heap.size ≤ j
  hy : ∀ j, vy.ownBlock = some j → w.heap.size ≤ j

section
variable {w wr : World} {row : Option Nat} {vo : Value} {O : List Nat} {vv : Value} {V : List Nat} {vm : Value} {M : List Nat} {vx : Value} {X : List Nat} {vy : Value} {Y : List Nat}

theorem EI.ownO (h : EI w wr row vo O vv V vm M vx X vy Y) : wr.ownsRow 0 5 1 vo O.length (c8 O) := by
  have := h.fam.own ⟨5, vo, c8 O⟩ (by simp)
  rwa [c8_length] at this
theorem EI.ownV (h : EI w wr row vo O vv V vm M vx X vy Y) : wr.ownsRow 0 24 1 vv V.length (c32 V) := by
  have := h.fam.own ⟨24, vv, c32 V⟩ (by simp)
  rwa [c32_length] at this
theorem EI.ownM (h : EI w wr row vo O vv V vm M vx X vy Y) : wr.ownsRow 0 24 1 vm M.length (c32 M) := by
  have := h.fam.own ⟨24, vm, c32 M⟩ (by simp)
  rwa [c32_length] at this
theorem EI.ownX (h : EI w wr row vo O vv V vm M vx X vy Y) : wr.ownsRow 0 24 1 vx X.length (c32 X) := by
  have := h.fam.own ⟨24, vx, c32 X⟩ (by simp)
  rwa [c32_length] at this
theorem EI.ownY (h : EI w wr row vo O vv V vm M vx X vy Y) : wr.ownsRow 0 24 1 vy Y.length (c32 Y) := by
  have := h.fam.own ⟨24, vy, c32 Y⟩ (by simp)
  rwa [c32_length] at this

theorem EI.alloc (h : EI w wr row vo O vv V vm M vx X vy Y) (o : Obj) : EI w (wr.alloc o) row vo O vv V vm M vx X vy Y :=
  ⟨h.fam.alloc o, h.gr.andThen (World.grownBy_alloc wr o none) (fun j hj => by cases hj), h.ho, h.hx, h.hy⟩
theorem EI.drew (h : EI w wr row vo O vv V vm M vx X vy Y) : EI w wr.drew row vo O vv V vm M vx X vy Y :=
  ⟨⟨fun r hr => h.fam.own r hr, h.fam.apart⟩, ⟨h.gr.os, h.gr.tape, h.gr.output, h.gr.size, h.gr.block⟩, h.ho, h.hx, h.hy⟩
theorem EI.drewN (h : EI w wr row vo O vv V vm M vx X vy Y) (m : Nat) : EI w (wr.drewN m) row vo O vv V vm M vx X vy Y :=
  ⟨h.fam.drewN m, ⟨h.gr.os, h.gr.tape, h.gr.output, h.gr.size, h.gr.block⟩, h.ho, h.hx, h.hy⟩

theorem EI.pushO (h : EI w wr row vo O vv V vm M vx X vy Y) {w' : World} {b g cap : Nat} (ho : w'.ownsRow 0 5 1 (.slice (some ⟨g, 0, none⟩) (O.length + 1) cap) (O.length + 1) (c8 O ++ [.int .u8 (b : Int)])) (hg : wr.grownBy w' vo.ownBlock) (hat : vo.ownBlock = some g ∨ wr.heap.size ≤ g) :
    EI w w' row (.slice (some ⟨g, 0, none⟩) (O.length + 1) cap) (O ++ [b]) vv V vm M vx X vy Y := by
  have e : (c8 O ++ [Value.int .u8 (b : Int)]).length = O.length + 1 := by simp [c8_length]
  have hf := Fam.push (pre := []) (w1 := wr) (news := [.int .u8 (b : Int)]) h.fam h.fam (Nat.le_refl _) (by rw [e]; exact ho) hg hat
  rw [e, ← c8_snoc] at hf
  refine ⟨hf, h.gr.andThen hg h.ho, fun j hj => ?_, h.hx, h.hy⟩
  simp only [Value.ownBlock, Option.some.injEq] at hj
  subst hj
  rcases hat with h1 | h1
  · exact h.ho g h1
  · have := h.gr.size; exact .inl (by omega)

theorem EI.pushX (h : EI w wr row vo O vv V vm M vx X vy Y) {w' : World} {b g cap : Nat} (ho : w'.ownsRow 0 24 1 (.slice (some ⟨g, 0, none⟩) (X.length + 1) cap) (X.length + 1) (c32 X ++ [.int .u32 (b : Int)])) (hg : wr.grownBy w' vx.ownBlock) (hat : vx.ownBlock = some g ∨ wr.heap.size ≤ g) :
    EI w w' row vo O vv V vm M (.slice (some ⟨g, 0, none⟩) (X.length + 1) cap) (X ++ [b]) vy Y := by
  have e : (c32 X ++ [Value.int .u32 (b : Int)]).length = X.length + 1 := by simp [c32_length]
  have hf := Fam.push (pre := [⟨5, vo, c8 O⟩, ⟨24, vv, c32 V⟩, ⟨24, vm, c32 M⟩]) (post := [⟨24, vy, c32 Y⟩]) (w1 := wr) (news := [.int .u32 (b : Int)]) h.fam h.fam (Nat.le_refl _) (by rw [e]; exact ho) hg hat
  rw [e, ← c32_snoc] at hf
  refine ⟨hf, h.gr.andThen hg (fun j hj => .inl (h.hx j hj)), h.ho, fun j hj => ?_, h.hy⟩
  simp only [Value.ownBlock, Option.some.injEq] at hj
  subst hj
  rcases hat with h1 | h1
  · exact h.hx g h1
  · have := h.gr.size; omega

theorem EI.pushY (h : EI w wr row vo O vv V vm M vx X vy Y) {w' : World} {b g cap : Nat} (ho : w'.ownsRow 0 24 1 (.slice (some ⟨g, 0, none⟩) (Y.length + 1) cap) (Y.length + 1) (c32 Y ++ [.int .u32 (b : Int)])) (hg : wr.grownBy w' vy.ownBlock) (hat : vy.ownBlock = some g ∨ wr.heap.size ≤ g) :
    EI w w' row vo O vv V vm M vx X (.slice (some ⟨g, 0, none⟩) (Y.length + 1) cap) (Y ++ [b]) := by
  have e : (c32 Y ++ [Value.int .u32 (b : Int)]).length = Y.length + 1 := by simp [c32_length]
  have hf := Fam.push (pre := [⟨5, vo, c8 O⟩, ⟨24, vv, c32 V⟩, ⟨24, vm, c32 M⟩, ⟨24, vx, c32 X⟩]) (post := []) (w1 := wr) (news := [.int .u32 (b : Int)]) h.fam h.fam (Nat.le_refl _) (by rw [e]; exact ho) hg hat
  rw [e, ← c32_snoc] at hf
  refine ⟨hf, h.gr.andThen hg (fun j hj => .inl (h.hy j hj)), h.ho, h.hx, fun j hj => ?_⟩
  simp only [Value.ownBlock, Option.some.injEq] at hj
  subst hj
  rcases hat with h1 | h1
  · exact h.hy g h1
  · have := h.gr.size; omega

theorem EI.far {gv gm n n' c c' : Nat} (h : EI w wr row vo O (.slice (some ⟨gv, 0, none⟩) n c) V (.slice (some ⟨gm, 0, none⟩) n' c') M vx X vy Y) : vx.ownBlock ≠ some gv ∧ vx.ownBlock ≠ some gm ∧ vy.ownBlock ≠ some gv ∧ vy.ownBlock ≠ some gm := by
  have h2 := h.fam.apart
  have hv : (Value.slice (some ⟨gv, 0, none⟩) n c).ownBlock = some gv := rfl
  have hm : (Value.slice (some ⟨gm, 0, none⟩) n' c').ownBlock = some gm := rfl
  simp only [List.pairwise_cons, List.mem_cons, List.mem_nil_iff, or_false, forall_eq_or_imp, forall_eq, hv, hm] at h2
  obtain ⟨-, ⟨-, a, b⟩, ⟨c, d⟩, -⟩ := h2
  refine ⟨fun e => ?_, fun e => ?_, fun e => ?_, fun e => ?_⟩
  · rcases a with h | h | h
    · cases h
    · rw [h] at e; cases e
    · exact h e.symm
  · rcases c with h | h | h
    · cases h
    · rw [h] at e; cases e
    · exact h e.symm
  · rcases b with h | h | h
    · cases h
    · rw [h] at e; cases e
    · exact h e.symm
  · rcases d with h | h | h
    · cases h
    · rw [h] at e; cases e
    · exact h e.symm

/-- The round is over: next and nextModuli become values and moduli. -/
theorem EI.turn (h : EI w wr row vo O vv V vm M vx X vy Y) : EI w wr row vo O vx X vy Y (.slice none 0 0) [] (.slice none 0 0) [] := by
  have h1 : Fam wr [⟨5, vo, c8 O⟩, ⟨24, vx, c32 X⟩, ⟨24, vy, c32 Y⟩] := h.fam.sub (by
    refine List.Sublist.cons_cons _ (List.Sublist.cons _ (List.Sublist.cons _ (List.Sublist.refl _))))
  refine ⟨⟨fun r hr => ?_, ?_⟩, h.gr, h.ho, (fun j hj => by simp [Value.ownBlock] at hj), (fun j hj => by simp [Value.ownBlock] at hj)⟩
  · simp only [List.mem_cons, List.mem_nil_iff, or_false] at hr
    rcases hr with rfl | rfl | rfl | rfl | rfl
    · exact h1.own _ (by simp)
    · exact h1.own _ (by simp)
    · exact h1.own _ (by simp)
    · exact World.ownsRow_nil _ _ _ _
    · exact World.ownsRow_nil _ _ _ _
  · have h2 := h1.apart
    simp only [List.pairwise_cons, List.mem_cons, List.mem_nil_iff, or_false, forall_eq_or_imp, forall_eq] at h2 ⊢
    have hn : (Value.slice none 0 0).ownBlock = none := rfl
    simp only [hn]
    simp
    simp at h2
    exact h2
end

theorem grown_of_below {w w' : World} (h : Below w.heap.size w w') : w.grownBy w' none := ⟨h.os, h.tape, h.output, h.size, fun k hk _ => h.block k hk⟩

/-- encode begins: the moduli lie in a row of their own. -/
theorem EI.start {w wr : World} {vo : Value} {O : List Nat} {vv : Value} {V M : List Nat} {g c : Nat} (h : Fam w [⟨5, vo, c8 O⟩, ⟨24, vv, c32 V⟩]) (hb : Below w.heap.size w wr) (hg : w.heap.size ≤ g) (ho : wr.ownsRow 0 24 1 (.slice (some ⟨g, 0, none⟩) (c32 M).length c) (c32 M).length (c32 M)) :
    EI w wr vo.ownBlock vo O vv V (.slice (some ⟨g, 0, none⟩) (c32 M).length c) M (.slice none 0 0) [] (.slice none 0 0) [] := by
  have hgr := grown_of_below hb
  have k1 := (h.own ⟨5, vo, c8 O⟩ (by simp)).kept hgr (by cases hv : vo.ownBlock <;> simp)
  have k2 := (h.own ⟨24, vv, c32 V⟩ (by simp)).kept hgr (by cases hv : vv.ownBlock <;> simp)
  have l1 : ∀ j, vo.ownBlock = some j → j < w.heap.size := fun j hj => h.lt (r := ⟨5, vo, c8 O⟩) (by simp) hj
  have l2 : ∀ j, vv.ownBlock = some j → j < w.heap.size := fun j hj => h.lt (r := ⟨24, vv, c32 V⟩) (by simp) hj
  have hap := h.apart
  refine ⟨⟨fun r hr => ?_, ?_⟩, ⟨hgr.os, hgr.tape, hgr.output, hgr.size, fun k hk _ => hgr.block k hk (by simp)⟩, (fun j hj => .inr hj), (fun j hj => by simp [Value.ownBlock] at hj), (fun j hj => by simp [Value.ownBlock] at hj)⟩
  · simp only [List.mem_cons, List.mem_nil_iff, or_false] at hr
    rcases hr with rfl | rfl | rfl | rfl | rfl
    · exact k1
    · exact k2
    · exact ho
    · exact World.ownsRow_nil _ _ _ _
    · exact World.ownsRow_nil _ _ _ _
  · have hn : (Value.slice none 0 0).ownBlock = none := rfl
    have hm : (Value.slice (some ⟨g, 0, none⟩) (c32 M).length c).ownBlock = some g := rfl
    simp only [List.pairwise_cons, List.mem_cons, List.mem_nil_iff, or_false, forall_eq_or_imp, forall_eq] at hap ⊢
    simp only [hn, hm]
    have n1 : vo.ownBlock = none ∨ False ∨ vo.ownBlock ≠ some g := by
      cases hv : vo.ownBlock with
      | none => exact .inl rfl
      | some j => have := l1 j hv; exact .inr (.inr (by simp; omega))
    have n2 : vv.ownBlock = none ∨ False ∨ vv.ownBlock ≠ some g := by
      cases hv : vv.ownBlock with
      | none => exact .inl rfl
      | some j => have := l2 j hv; exact .inr (.inr (by simp; omega))
    simp at hap n1 n2 ⊢
    exact ⟨⟨hap, n1⟩, n2⟩

end Go.Proofs.Qxb6603826a
