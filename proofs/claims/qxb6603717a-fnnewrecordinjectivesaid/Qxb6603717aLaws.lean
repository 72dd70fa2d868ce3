/-
  Laws of no program that the walks of this seat lean on: 'make([]T, l, c)' with a length below its capacity; 'append(b, s...)' of a string's bytes onto an owned row that has room.
-/
import Derived.WalkKit
import Derived.Lib.AppendStr
namespace Go.Proofs.Qxb6603717a
open Go.RowKit

/-- 'make([]T, l, c)', c a variable, elements of one cell: l zero elements are owned, there is room for c. -/
theorem wpList_make_len {P : Program} (w : World) {ops : Array Oper} {rest : List Oper} {o : Oper} {a : Act} {Q : Exit → Act → World → Prop}
    (hg : o.guard = none) (l c : Operand) (t : TypeId) (hop : o.op = Op.makeSlice t l c)
    (base : Nat) (e : TypeId) (i : TypeInfo) (z : Value) (h1 : P.underlying t = some (.slice e)) (h2 : P.info? e = some i) (h3 : i.zero = some z) (h4 : i.size = 1) (h5 : i.bytes = 1)
    (hz : z.cells = #[z])
    (kl kc : IntKind) (L C : Int) (m n : Nat) (hl : a.eval l = .int kl L) (hc : a.eval c = .int kc C) (hL : L = (m : Int)) (hC : C = (n : Int)) (hmn : m ≤ n) (b2 : n ≤ 281474976710656) (b4 : base ≤ w.heap.size)
    (hK : ∀ w', w'.ownsRow base e 1 (.slice (some ⟨w.heap.size, 0, none⟩) m n) m (List.replicate m z) → w.grownBy w' none → wpList P ops Q rest (a.put o.dst (.slice (some ⟨w.heap.size, 0, none⟩) m n)) w') :
    wpList P ops Q (o :: rest) a w := by
  refine wpList_plain hg fun K hK' => ?_
  subst hL
  subst hC
  have hr := run_make (P := P) w t e i z h1 h2 h3 kl kc m n (by omega) (by omega) (by rw [h5]; omega) (by omega)
  simp only [Int.toNat_natCast, h4, Nat.mul_one, hz] at hr
  unfold Oper.wp
  simp [execOp, hop, hl, hc, hr, Result.andThen]
  refine hK' _ _ (hK _ ⟨by simp, .inr ⟨w.heap.size, n, _, rfl, b4, heap_alloc_new w _, hmn, ?_, ?_, ?_⟩⟩ (World.grownBy_alloc w _ none))
  · simp only [maxLen]; omega
  · simp [size_madeCells]
  · rw [toList_madeCells_one, Nat.mul_one, List.take_replicate, Nat.min_eq_left hmn]

/-- 'append(b, s...)', s a string, b an owned row with room. -/
theorem wpList_append_fits_string {P : Program} (w : World) {ops : Array Oper} {rest : List Oper} {o : Oper} {a : Act} {Q : Exit → Act → World → Prop}
    (hgd : o.guard = none) (sl x : Operand) (t u : TypeId) (ho : o.op = .call { callee := .builtin .append, args := #[sl, x], argTypes := #[t, u] })
    (base : Nat) (e : TypeId) (i : TypeInfo) (ht : P.underlying t = some (.slice e)) (hu : P.underlying u = some .string) (hi : P.info? e = some i) (hsize : i.size = 1)
    (g k cap : Nat) (xs : List Value) (hs : a.eval sl = .slice (some ⟨g, 0, none⟩) k cap) (hown : w.ownsRow base e 1 (.slice (some ⟨g, 0, none⟩) k cap) k xs) (s : ByteArray) (hx : a.eval x = .string s)
    (b1 : k + s.size ≤ cap)
    (hK : ∀ w', w'.ownsRow base e 1 (.slice (some ⟨g, 0, none⟩) (k + s.size) cap) (k + s.size) (xs ++ Lib.strCells s) → w.grownBy w' (some g) → wpList P ops Q rest (a.put o.dst (.slice (some ⟨g, 0, none⟩) (k + s.size) cap)) w') :
    wpList P ops Q (o :: rest) a w := by
  refine wpList_plain hgd fun K hK' => ?_
  obtain ⟨hxl, h | ⟨g', cap', cur, h, hbg, hg, hnc, hcm, hcs, htake⟩⟩ := hown
  · simp at h
  · simp only [Value.slice.injEq, Option.some.injEq, Addr.mk.injEq, and_true, true_and] at h
    obtain ⟨rfl, rfl⟩ := h
    have hcs' : cur.size = cap := by simpa using hcs
    have hr := Lib.run_append_room_string (P := P) w t u o.type e i ht hu hi hsize g k cap cur hg s b1 (by omega)
    have hlen : (xs ++ Lib.strCells s).length = (k + s.size) * 1 := by rw [List.length_append, hxl, Lib.strCells_length]; omega
    unfold Oper.wp execOp
    simp only [ho, resolve, invoke, builtin, Sem.run_bind, Sem.run_pure, Result.andThen_ok, List.map_toArray, List.map_cons, List.map_nil, hs, hx, hr]
    refine hK' _ _ (hK _ ⟨hlen, .inr ⟨g, cap, _, rfl, hbg, setRow_heap w g cur _ e _ hg, b1, hcm, ?_, ?_⟩⟩ ⟨rfl, rfl, rfl, by simp, fun k _ hk => setRow_other w g k _ (fun e => hk (by simp [e]))⟩)
    · simp only [List.size_toArray, List.length_append, List.length_take, List.length_drop, Array.length_toList, Lib.strCells_length]
      omega
    · have ht' : cur.toList.take k = xs := by simpa using htake
      rw [ht', ← hlen]
      exact List.take_left

end Go.Proofs.Qxb6603717a
