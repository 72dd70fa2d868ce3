/- Words that the walks share. Nothing of the program. -/
import Derived.WalkKit
import Derived.WalkSpells
import Derived.Deep.Draws
import Derived.Deep.AppendLies
import Derived.Maps.Range
namespace Go.Proofs.Qxb6603826a
open Go.RowKit
set_option linter.unusedVariables false

theorem hide {p : Prop} (h : p) : Hid p := h
theorem unhide {p : Prop} (h : Hid p) : p := h

/-- Cells at 'ao' show the values F 0 .. F (n-1). -/
def VRow (w : World) (ao : Option Addr) (n : Nat) (F : Nat → Value) : Prop :=
  n = 0 ∨ ∃ b o, ao = some ⟨b, o, none⟩ ∧ ∀ j, j < n → w.cell? ⟨b, o + j, none⟩ = some (F j)

theorem VRow.below {w w' : World} {ao : Option Addr} {n : Nat} {F : Nat → Value} (h : VRow w ao n F) (hb : Below w.heap.size w w') : VRow w' ao n F := by
  rcases h with h | ⟨b, o, h, hc⟩
  · exact .inl h
  · refine .inr ⟨b, o, h, fun j hj => ?_⟩
    rw [hb.cell (World.block_lt_of_cell? w _ (hc j hj))]
    exact hc j hj

theorem VRow.drewN {w : World} {ao : Option Addr} {n : Nat} {F : Nat → Value} (h : VRow w ao n F) (m : Nat) : VRow (w.drewN m) ao n F := h

/-- A slice's header. -/
structure Hd where
  a : Option Addr
  n : Nat
  c : Nat

def Hd.val (h : Hd) : Value := .slice h.a h.n h.c
def Hd.nil : Hd := ⟨none, 0, 0⟩

/-- Block B is a row of n cells, the first k of which are F 0 .. -/
def Filled (wr : World) (B : Nat) (E : TypeId) (n k : Nat) (F : Nat → Value) : Prop := ∃ cur : Array Value, wr.heap[B]? = some (.cells cur E (0, 0)) ∧ cur.size = n ∧ ∀ j, j < k → cur[j]? = some (F j)

theorem Filled.start (w : World) (E : TypeId) (n : Nat) (cur : Array Value) (F : Nat → Value) (h : cur.size = n) : Filled (w.alloc (.cells cur E)) w.heap.size E n 0 F :=
  ⟨cur, heap_alloc_new w _, h, fun j hj => absurd hj (Nat.not_lt_zero _)⟩

theorem Filled.cell {wr : World} {B E n k : Nat} {F : Nat → Value} (h : Filled wr B E n k F) {j : Nat} (hj : j < n) : ∃ v, wr.cell? ⟨B, j, none⟩ = some v := by
  obtain ⟨cur, h1, h2, _⟩ := h
  refine ⟨cur[j], ?_⟩
  rw [cell_of_row wr B j cur E (0, 0) h1]
  simp [h2, hj]

theorem Filled.free {wr : World} {B E n k : Nat} {F : Nat → Value} (h : Filled wr B E n k F) (j : Nat) : wr.frozen? ⟨B, j, none⟩ = false := by
  obtain ⟨cur, h1, _, _⟩ := h
  exact frozen_of_row wr B j cur E h1

theorem Filled.step {wr : World} {B E n k : Nat} {F : Nat → Value} (h : Filled wr B E n k F) (hk : k < n) : Filled (wr.setCell ⟨B, k, none⟩ (F k)) B E n (k + 1) F := by
  obtain ⟨cur, h1, h2, h3⟩ := h
  refine ⟨cur.setIfInBounds k (F k), heap_setCell_same wr B k cur E _ h1, by simpa using h2, fun j hj => ?_⟩
  rw [Array.getElem?_setIfInBounds]
  by_cases e : k = j
  · subst e
    simp [h2, hk]
  · simp [e, h3 j (by omega)]

theorem Filled.row {wr : World} {B E n k : Nat} {F : Nat → Value} (h : Filled wr B E n k F) : VRow wr (some ⟨B, 0, none⟩) k F := by
  obtain ⟨cur, h1, h2, h3⟩ := h
  refine .inr ⟨B, 0, rfl, fun j hj => ?_⟩
  rw [Nat.zero_add, cell_of_row wr B j cur E (0, 0) h1, h3 j hj]


/-! ### rows that are owned side by side -/
def c8 (l : List Nat) : List Value := l.map fun x : Nat => .int .u8 (x : Int)
def c32 (l : List Nat) : List Value := l.map fun x : Nat => .int .u32 (x : Int)
theorem c8_length (l : List Nat) : (c8 l).length = l.length := by simp [c8]
theorem c32_length (l : List Nat) : (c32 l).length = l.length := by simp [c32]
theorem c8_snoc (l : List Nat) (x : Nat) : c8 (l ++ [x]) = c8 l ++ [.int .u8 (x : Int)] := by simp [c8]
theorem c32_snoc (l : List Nat) (x : Nat) : c32 (l ++ [x]) = c32 l ++ [.int .u32 (x : Int)] := by simp [c32]
theorem c32_get (l : List Nat) {j : Nat} (h : j < l.length) : (c32 l)[j]? = some (.int .u32 (l.getD j 0 : Nat)) := by simp [c32, List.getD, h]
theorem c8_get (l : List Nat) {j : Nat} (h : j < l.length) : (c8 l)[j]? = some (.int .u8 (l.getD j 0 : Nat)) := by simp [c8, List.getD, h]

structure Rw where
  t : TypeId
  v : Value
  xs : List Value

/-- Each row is owned; no two lie in one block. -/
structure Fam (w : World) (rows : List Rw) : Prop where
  own : ∀ r, r ∈ rows → w.ownsRow 0 r.t 1 r.v r.xs.length r.xs
  apart : rows.Pairwise (fun r s => r.v.ownBlock = none ∨ s.v.ownBlock = none ∨ r.v.ownBlock ≠ s.v.ownBlock)

theorem Fam.alloc {w : World} {rows : List Rw} (h : Fam w rows) (o : Obj) : Fam (w.alloc o) rows := ⟨fun r hr => (h.own r hr).alloc o, h.apart⟩
theorem Fam.drewN {w : World} {rows : List Rw} (h : Fam w rows) (m : Nat) : Fam (w.drewN m) rows := ⟨fun r hr => h.own r hr, h.apart⟩
theorem Fam.sub {w : World} {rows rows' : List Rw} (h : Fam w rows) (hs : rows'.Sublist rows) : Fam w rows' := ⟨fun r hr => h.own r (hs.subset hr), h.apart.sublist hs⟩
theorem Fam.nil (w : World) : Fam w [] := ⟨by simp, List.Pairwise.nil⟩
/-- A row of its own: nil, or in a block that the others do not lie in. -/
theorem Fam.cons {w : World} {rows : List Rw} {r : Rw} (h : Fam w rows) (ho : w.ownsRow 0 r.t 1 r.v r.xs.length r.xs) (hn : ∀ s, s ∈ rows → r.v.ownBlock = none ∨ s.v.ownBlock = none ∨ r.v.ownBlock ≠ s.v.ownBlock) : Fam w (r :: rows) :=
  ⟨fun s hs => by
    rcases List.mem_cons.1 hs with rfl | hs
    · exact ho
    · exact h.own s hs, List.pairwise_cons.2 ⟨hn, h.apart⟩⟩
theorem Fam.consNil {w : World} {rows : List Rw} (h : Fam w rows) (t : TypeId) : Fam w (⟨t, .slice none 0 0, []⟩ :: rows) :=
  h.cons (World.ownsRow_nil w 0 t 1) (fun s _ => .inl rfl)
theorem Fam.lt {w : World} {rows : List Rw} (h : Fam w rows) {r : Rw} (hr : r ∈ rows) {j : Nat} (hj : r.v.ownBlock = some j) : j < w.heap.size := ((h.own r hr).lt j hj).2
/-- A new row, in a block that is new. -/
theorem Fam.consNew {w w' : World} {rows : List Rw} {r : Rw} {row : Option Nat} (h : Fam w rows) (hk : ∀ s, s ∈ rows → w'.ownsRow 0 s.t 1 s.v s.xs.length s.xs) (ho : w'.ownsRow 0 r.t 1 r.v r.xs.length r.xs) (hn : ∀ j, r.v.ownBlock = some j → w.heap.size ≤ j) : Fam w' (r :: rows) := by
  refine ⟨fun s hs => ?_, List.pairwise_cons.2 ⟨fun s hs => ?_, h.apart⟩⟩
  · rcases List.mem_cons.1 hs with rfl | hs
    · exact ho
    · exact hk s hs
  · cases hr : r.v.ownBlock with
    | none => exact .inl rfl
    | some j =>
      cases hsb : s.v.ownBlock with
      | none => exact .inr (.inl rfl)
      | some i =>
        have h1 := hn j hr
        have h2 := h.lt hs hsb
        exact .inr (.inr (by simp; omega))

theorem Fam.kept {w w' : World} {rows : List Rw} {row : Option Nat} (h : Fam w rows) (hg : w.grownBy w' row) (hne : ∀ r, r ∈ rows → r.v.ownBlock = none ∨ r.v.ownBlock ≠ row) : Fam w' rows :=
  ⟨fun r hr => (h.own r hr).kept hg (hne r hr), h.apart⟩

/-- One of the rows is appended to. -/
theorem Fam.push {w w1 w' : World} {pre post : List Rw} {t : TypeId} {v : Value} {xs news : List Value} {g cap : Nat} (h : Fam w (pre ++ ⟨t, v, xs⟩ :: post)) (h1 : Fam w1 (pre ++ ⟨t, v, xs⟩ :: post)) (hsz : w.heap.size ≤ w1.heap.size)
    (ho : w'.ownsRow 0 t 1 (.slice (some ⟨g, 0, none⟩) (xs ++ news).length cap) (xs ++ news).length (xs ++ news)) (hg : w1.grownBy w' v.ownBlock) (hat : v.ownBlock = some g ∨ w.heap.size ≤ g) : Fam w' (pre ++ ⟨t, .slice (some ⟨g, 0, none⟩) (xs ++ news).length cap, xs ++ news⟩ :: post) := by
  have hap := List.pairwise_append.1 h.apart
  obtain ⟨ap1, ap2⟩ := List.pairwise_cons.1 hap.2.1
  have hb : ∀ s, s ∈ pre ∨ s ∈ post → s.v.ownBlock = none ∨ v.ownBlock = none ∨ s.v.ownBlock ≠ v.ownBlock := by
    rintro s (hs | hs)
    · exact hap.2.2 s hs ⟨t, v, xs⟩ (by simp)
    · rcases ap1 s hs with h' | h' | h'
      · exact .inr (.inl h')
      · exact .inl h'
      · exact .inr (.inr (Ne.symm h'))
  have hmem : ∀ s, s ∈ pre ∨ s ∈ post → s ∈ pre ++ ⟨t, v, xs⟩ :: post := by
    rintro s (hs | hs)
    · exact List.mem_append_left _ hs
    · exact List.mem_append_right _ (List.mem_cons_of_mem _ hs)
  have hkeep : ∀ s, s ∈ pre ∨ s ∈ post → w'.ownsRow 0 s.t 1 s.v s.xs.length s.xs := fun s hs => by
    refine (h1.own s (hmem s hs)).kept hg ?_
    rcases hb s hs with h' | h' | h'
    · exact .inl h'
    · cases hsb : s.v.ownBlock with
      | none => exact .inl rfl
      | some j => exact .inr (by rw [h']; simp)
    · exact .inr h'
  have hnew : ∀ s, s ∈ pre ∨ s ∈ post → s.v.ownBlock = none ∨ s.v.ownBlock ≠ some g := fun s hs => by
    cases hsb : s.v.ownBlock with
    | none => exact .inl rfl
    | some j =>
      refine .inr ?_
      rcases hat with hat | hat
      · rcases hb s hs with h' | h' | h'
        · rw [hsb] at h'; cases h'
        · rw [hat] at h'; cases h'
        · rw [hsb, hat] at h'; exact h'
      · have := h.lt (hmem s hs) hsb
        simp
        omega
  refine ⟨fun s hs => ?_, List.pairwise_append.2 ⟨hap.1, List.pairwise_cons.2 ⟨fun s hs => ?_, ap2⟩, fun r hr s hs => ?_⟩⟩
  · rcases List.mem_append.1 hs with hs | hs
    · exact hkeep s (.inl hs)
    · rcases List.mem_cons.1 hs with rfl | hs
      · exact ho
      · exact hkeep s (.inr hs)
  · rcases hnew s (.inr hs) with h' | h'
    · exact .inr (.inl h')
    · exact .inr (.inr (Ne.symm h'))
  · rcases List.mem_cons.1 hs with rfl | hs
    · rcases hnew r (.inl hr) with h' | h'
      · exact .inl h'
      · exact .inr (.inr h')
    · exact hap.2.2 r hr s (List.mem_cons_of_mem _ hs)

end Go.Proofs.Qxb6603826a
