/- FnApplyWritesSpec: applyWrites. -/
import Derived.Test.Qxb6603717aProg
import Derived.Test.Qxb6603717aAwMap
namespace Go.Proofs.Qxb6603717a.Aw
open Go.RowKit
set_option linter.unusedVariables false

theorem lawA : Maps.Keyed Try.prog 9 := Maps.string_keyed Try.underlying9

theorem keyOf_string_inv {P : Program} {k : TypeId} (hk : P.underlying k = some .string) {key : Value} {l : Lit} (h : keyOf P k key = some l) : ∃ s : ByteArray, key = .string s ∧ l = kl s ∧ s.size ≤ maxLen := by
  cases key <;> simp [keyOf, hk, mapKey] at h
  rename_i s
  exact ⟨s, rfl, h.2.symm, h.1⟩

/-- A write as the map holds it. -/
structure Wv where
  a : Option Addr
  n : Nat
  c : Nat
  f : Bool

section
variable {P : Program} (w : World) {ops : Array Oper} {rest : List Oper} {o : Oper} {a : Act} {Q : Exit → Act → World → Prop}

/-- The step of 'for id, w := range writes'. -/
theorem wpList_next_writes (hg : o.guard = none) (it : Operand) (hop : o.op = Op.next it false) (k : TypeId) (K : Maps.Keyed P k) (hk : P.underlying k = some .string)
    (b r n : Nat) (D : DataW Value) (left : Lit → Bool) (cnt : Nat) (hit : a.eval it = .pointer (some ⟨r, 0, none⟩)) (h : w.ranges P k R2 b r n D left cnt)
    (hDone : (∀ l, left l = false) → wpList P ops Q rest (a.put o.dst (.tuple #[.bool false])) w)
    (hMore : ∀ (x : ByteArray) (v : Wv) (w' : World) (cnt' : Nat), x.size ≤ maxLen → left (kl x) = true → (∀ zd, D.atKey (kl x) zd = .held (wval ⟨v.a, v.n, v.c⟩ v.f)) → w'.ranges P k R2 b r n D (fun z => left z && !z.sameKey (kl x)) cnt' → cnt' < cnt →
      w.grownBy w' (some r) → w'.heap.size = w.heap.size → (Instr.entry (.pointer (some ⟨r, 0, none⟩))).run P w' = .ok (.tuple #[.string x, .agg #[.slice v.a v.n v.c, .bool v.f]]) w' → wpList P ops Q rest (a.put o.dst (.tuple #[.bool true, .string x, .agg #[.slice v.a v.n v.c, .bool v.f]])) w') :
    wpList P ops Q (o :: rest) a w :=
  wpList_next_ranges w hg it hop k K R2 Value.string (fun c : Hd × Bool => wval c.1 c.2) (fun key l hkey => by obtain ⟨x, rfl, _⟩ := keyOf_string_inv hk hkey; exact ⟨x, rfl⟩) (fun v y hv => R2_inv hv)
    b r n D left cnt hit h (fun _ hl => hDone hl) (fun x c l y w' cnt' hkey hlk hv hat hrg hlt hgr hsz hen => by
      obtain ⟨x', ex, rfl, hwx⟩ := keyOf_string_inv hk hkey
      cases ex
      obtain ⟨⟨ca, cn, cc⟩, f⟩ := c
      have hy : y = (.held (wval ⟨ca, cn, cc⟩ f), []) := by
        have := hv.symm.trans (R2_mk ⟨ca, cn, cc⟩ f)
        exact Option.some.inj this
      subst hy
      exact hMore x ⟨ca, cn, cc, f⟩ w' cnt' hwx hlk hat hrg hlt hgr hsz hen)
end

/-- The objects once the writes are applied; and on the way, 'left' being what is still to come. -/
def appF (F : ByteArray → Option Value) (W : ByteArray → Option (Hd × Bool)) (s : ByteArray) : Option Value :=
  match W s with
  | some (h, f) => if f then none else some h.val
  | none => F s
def mixF (F : ByteArray → Option Value) (W : ByteArray → Option (Hd × Bool)) (left : Lit → Bool) (s : ByteArray) : Option Value := if left (kl s) then F s else appF F W s

def App (lo : Nat) (w0 wr : World) (bo N : Nat) (F : ByteArray → Option Value) (W : ByteArray → Option (Hd × Bool)) (left : Lit → Bool) (cnt : Nat) : Prop :=
  ∃ D n', wr.ownsMap Try.prog 9 R1 bo n' D ∧ n' + cnt ≤ N ∧ Reads D (mixF F W left) ∧ Below lo w0 wr

theorem mix_other {F : ByteArray → Option Value} {W : ByteArray → Option (Hd × Bool)} {left : Lit → Bool} {x t : ByteArray} (h : t ≠ x) : mixF F W (fun z => left z && !z.sameKey (kl x)) t = mixF F W left t := by
  have : (kl t).sameKey (kl x) = false := Maps.sameKey_ne (fun e => h (kl_inj e))
  simp [mixF, this]

theorem mix_same {F : ByteArray → Option Value} {W : ByteArray → Option (Hd × Bool)} {left : Lit → Bool} {x : ByteArray} : mixF F W (fun z => left z && !z.sameKey (kl x)) x = appF F W x := by
  simp [mixF, WideAt.sameKey_self (kl_key x)]

theorem App.start {lo : Nat} {w0 wr : World} {bo n1 n2 : Nat} {F : ByteArray → Option Value} {W : ByteArray → Option (Hd × Bool)} {D1 D2 : DataW Value} (h1 : wr.ownsMap Try.prog 9 R1 bo n1 D1) (hr : Reads D1 F) (h2 : Maps.size D2 ≤ n2) (hr2 : Reads D2 (fun s => (W s).map fun p => wval p.1 p.2)) (hb : Below lo w0 wr) :
    App lo w0 wr bo (n1 + n2) F W (Maps.has D2) (Maps.size D2) := by
  refine ⟨D1, n1, h1, by omega, hr.congr (fun s => ?_), hb⟩
  unfold mixF appF
  cases hW : W s with
  | none => rw [hr2.no s (by simp [hW])]; simp
  | some p => rw [(hr2.yes s (wval p.1 p.2) (by simp [hW])).1]; simp

theorem App.stop {lo : Nat} {w0 wr : World} {bo N cnt : Nat} {F : ByteArray → Option Value} {W : ByteArray → Option (Hd × Bool)} {left : Lit → Bool} (h : App lo w0 wr bo N F W left cnt) (hl : ∀ l, left l = false) :
    ∃ D, wr.ownsMap Try.prog 9 R1 bo N D ∧ Reads D (appF F W) ∧ Below lo w0 wr := by
  obtain ⟨D, n', h1, h2, h3, h4⟩ := h
  exact ⟨D, h1.mono (by omega), h3.congr (fun s => by simp [mixF, hl]), h4⟩

/-- What the write at x says. -/
theorem write_at {D2 : DataW Value} {W : ByteArray → Option (Hd × Bool)} {x : ByteArray} {h : Hd} {f : Bool} (hr2 : Reads D2 (fun s => (W s).map fun p => wval p.1 p.2)) (hat : ∀ zd, D2.atKey (kl x) zd = .held (wval h f)) : W x = some (h, f) := by
  cases hW : W x with
  | none =>
    have := hr2.no x (by simp [hW])
    rw [Maps.has_true_of_atKey hat] at this
    cases this
  | some p =>
    have h1 := (hr2.yes x (wval p.1 p.2) (by simp [hW])).2 .nil
    rw [hat] at h1
    obtain ⟨⟨pa, pn, pc⟩, pf⟩ := p
    obtain ⟨a, n, c⟩ := h
    simp [wval] at h1
    obtain ⟨⟨rfl, rfl, rfl⟩, rfl⟩ := h1
    rfl

set_option maxHeartbeats 800000 in
set_option maxRecDepth 100000 in
theorem applyWrites_any (lo bo bw n1 n2 : Nat) (F : ByteArray → Option Value) (W : ByteArray → Option (Hd × Bool)) (D1 D2 : DataW Value) (w : World) (hlo : lo ≤ bo) (hlo' : lo ≤ w.heap.size) (hne : bo ≠ bw) (hN : n1 + n2 < maxLen)
    (h1 : w.ownsMap Try.prog 9 R1 bo n1 D1) (hr1 : Reads D1 F) (h2 : w.ownsMap Try.prog 9 R2 bw n2 D2) (hr2 : Reads D2 (fun s => (W s).map fun p => wval p.1 p.2)) :
    Calls Try.prog 27 #[.map (some bo), .map (some bw)] w fun e w' => e = .returned (.tuple #[]) ∧ ∃ D, w'.ownsMap Try.prog 9 R1 bo (n1 + n2) D ∧ Reads D (appF F W) ∧ Below lo w w' := by
  have hbo := h1.lt
  have HR2 := hide hr2
  have H1 := hide h1
  have HR1 := hide hr1
  clear hr1 hr2 h1
  go_enter Try.func27, Try.ntmps27
  go_wp2_with (first
    | (at_range; refine wpList_range_own _ rfl _ 37 rfl 9 49 lawA Try.underlying37 _ bw n2 _ rfl h2 ?_; intro w0 hrg0 hg0 hs0)
    | go_in)
  go_frame
  go_loopw [4] (fun _ wr => ∃ (left : Lit → Bool) (cnt : Nat), wr.ranges Try.prog 9 R2 bw w.heap.size n2 D2 left cnt ∧ Hid (App lo w wr bo (n1 + n2) F W left cnt))
    (fun _ wr => wr.rangeLeft bw w.heap.size)
  case atStart =>
    exact ⟨_, _, hrg0, App.start ((unhide H1).kept hg0 (by simp)) (unhide HR1) h2.size_le (unhide HR2) ((Below.refl _ _).grown hg0 hlo' (fun j hj => by cases hj))⟩
  case round =>
    obtain ⟨left, cnt, hrg, HA⟩ := hrel
    clear hrg0 hg0 hs0 h2
    go_wp2_with (first
      | (at_next; refine wpList_next_writes _ rfl _ rfl 9 lawA Try.underlying9 bw w.heap.size n2 _ _ _ rfl hrg ?_ ?_)
      | go_in)
    · intro hl0
      go_wp2
      go_end0
      exact ⟨rfl, (unhide HA).stop hl0⟩
    · intro x v w1 cnt1 hwx hlx hat hrg1 hlt hg1 hs1 hen
      obtain ⟨ha, hn, hc, f⟩ := v
      simp only at hat hen ⊢
      have hW := write_at (unhide HR2) hat
      have HW := hide hW
      clear hW hat hlx
      have hkey := WideMaps.keyOf_string_mk (P := Try.prog) Try.underlying9 hwx
      obtain ⟨D, n', q1, q2, q3, q4⟩ := unhide HA
      have q1' := q1.kept hg1 (fun e => by have := Option.some.inj e; omega)
      cases f with
      | true =>
        go_wp2_with (first
          | (at_delete; refine wpList_delete_own _ rfl _ _ 35 9 rfl 23 lawA Try.underlying35 _ bo n' D rfl (q1'.alloc _) _ _ rfl hkey ?_; intro w2 q5 hturn; go_frame)
          | go_in)
        have hrg2 := (hrg1.alloc _).kept hturn.grown (fun e => by have := Option.some.inj e; omega) (fun e => by have := Option.some.inj e; omega)
        go_roundw
        case rel =>
          refine ⟨_, cnt1, hrg2, D.del (kl x), n', q5, by omega, ?_, ?_⟩
          · exact q3.del x (by rw [mix_same]; simp [appF, unhide HW]) (fun t ht => mix_other ht)
          · exact (((q4.grown hg1 (by have := q4.size; omega) (fun j hj => by cases hj; exact hlo')).alloc (by have := q4.size; omega) _).grown hturn.grown (by have := q4.size; simp; omega) (fun j hj => by cases hj; exact hlo))
        case measure => rw [hrg2.left_eq, hrg.left_eq]; exact hlt
      | false =>
        go_wp2_with (first
          | (at_mapUpdate; refine wpList_mapUpdate_own _ rfl _ _ _ 35 rfl 9 23 lawA Try.underlying35 _ bo n' D rfl (q1'.alloc _) (by omega) _ _ _ rfl rfl hkey _ [] (R1_mk ⟨ha, hn, hc⟩) ?_; intro w2 q5 hg2; go_frame)
          | go_in)
        have hrg2 := (hrg1.alloc _).kept hg2 (fun e => by have := Option.some.inj e; omega) (fun e => by have := Option.some.inj e; omega)
        go_roundw
        case rel =>
          refine ⟨_, cnt1, hrg2, _, n' + 1, q5, by omega, ?_, ?_⟩
          · exact q3.put q1.isMap x _ (by rw [mix_same]; simp [appF, unhide HW]) (fun t ht => mix_other ht)
          · exact (((q4.grown hg1 (by have := q4.size; omega) (fun j hj => by cases hj; exact hlo')).alloc (by have := q4.size; omega) _).grown hg2 (by have := q4.size; simp; omega) (fun j hj => by cases hj; exact hlo))
        case measure => rw [hrg2.left_eq, hrg.left_eq]; exact hlt

set_option maxHeartbeats 400000 in
theorem zzApplyWrites_any (lo bo bw n1 n2 : Nat) (F : ByteArray → Option Value) (W : ByteArray → Option (Hd × Bool)) (D1 D2 : DataW Value) (w : World) (hlo : lo ≤ bo) (hlo' : lo ≤ w.heap.size) (hne : bo ≠ bw) (hN : n1 + n2 < maxLen)
    (h1 : w.ownsMap Try.prog 9 R1 bo n1 D1) (hr1 : Reads D1 F) (h2 : w.ownsMap Try.prog 9 R2 bw n2 D2) (hr2 : Reads D2 (fun s => (W s).map fun p => wval p.1 p.2)) :
    Calls Try.prog 17 #[.map (some bo), .map (some bw)] w fun e w' => e = .returned (.tuple #[]) ∧ ∃ D, w'.ownsMap Try.prog 9 R1 bo (n1 + n2) D ∧ Reads D (appF F W) ∧ Below lo w w' := by
  have H := hide (applyWrites_any lo bo bw n1 n2 F W D1 D2 w hlo hlo' hne hN h1 hr1 h2 hr2)
  clear h1 hr1 h2 hr2
  go_enter Try.func17, Try.ntmps17
  go_wp2_with (go_at_call 27; refine (unhide H).mono ?_; rintro e w' ⟨rfl, hnew⟩)
  go_end0
  exact ⟨rfl, hnew⟩

end Go.Proofs.Qxb6603717a.Aw
