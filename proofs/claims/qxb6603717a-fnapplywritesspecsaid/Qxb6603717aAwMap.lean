/- FnApplyWritesSpec: what the two maps read as, key by key. Nothing of the program. -/
import Derived.Test.Qxb6603717aAwBase
import Derived.Maps.OwnSet
import Derived.Maps.Ext
import Derived.Maps.RangeWalk
namespace Go.Proofs.Qxb6603717a.Aw
open Go.RowKit
set_option linter.unusedVariables false

/-- The key that a string is. -/
def kl (s : ByteArray) : Lit := .string s.data.toList

theorem bytes_ext {s t : ByteArray} (h : s.data.toList = t.data.toList) : s = t := by
  cases s; cases t
  simp at h
  rw [h]

theorem kl_key (s : ByteArray) : WideAt.IsKeyLit (kl s) := trivial

theorem kl_inj {s t : ByteArray} (h : kl s = kl t) : s = t := by
  simp only [kl, Lit.string.injEq] at h
  exact bytes_ext h

theorem toList_beq {s t : ByteArray} : (s.toList == t.toList) = true ↔ s = t := by
  rw [beq_iff_eq, ByteArray.toList_eq, ByteArray.toList_eq]
  exact ⟨bytes_ext, fun h => by rw [h]⟩

/-- An element of the first map is a slice's header; of the second a header and a flag. It reads as itself. -/
def R1 : Value → Option (DataW Value × List MemPlace)
  | .slice a n c => some (.held (.slice a n c), [])
  | _ => none
def wval (h : Hd) (b : Bool) : Value := .agg #[.slice h.a h.n h.c, .bool b]
def R2l : List Value → Option (DataW Value × List MemPlace)
  | [.slice a n c, .bool b] => some (.held (.agg #[.slice a n c, .bool b]), [])
  | _ => none
def R2 : Value → Option (DataW Value × List MemPlace)
  | .agg cs => R2l cs.toList
  | _ => none

theorem R1_mk (h : Hd) : R1 h.val = some (.held h.val, []) := rfl
theorem R2_mk (h : Hd) (b : Bool) : R2 (wval h b) = some (.held (wval h b), []) := rfl
theorem R2_inv {v : Value} {y : DataW Value × List MemPlace} (h : R2 v = some y) : ∃ c : Hd × Bool, v = wval c.1 c.2 := by
  unfold R2 at h
  split at h
  · rename_i cs
    unfold R2l at h
    split at h
    · rename_i a n c b e
      refine ⟨(⟨a, n, c⟩, b), ?_⟩
      have : cs = #[.slice a n c, .bool b] := by rw [← Array.toList_inj]; exact e
      rw [this]
      rfl
    · cases h
  · cases h

/-- D holds at each string what F says, and no other key. -/
structure Reads (D : DataW Value) (F : ByteArray → Option Value) : Prop where
  no : ∀ s, F s = none → Maps.has D (kl s) = false
  yes : ∀ s v, F s = some v → Maps.has D (kl s) = true ∧ ∀ z, D.atKey (kl s) z = .held v
  only : ∀ k, Maps.has D k = true → ∃ s, k = kl s

theorem Reads.empty : Reads (.map []) (fun _ => none) := ⟨fun _ _ => rfl, fun _ _ h => (by cases h), fun _ h => (by cases h)⟩

theorem Reads.congr {D : DataW Value} {F G : ByteArray → Option Value} (h : Reads D F) (e : ∀ s, F s = G s) : Reads D G := by
  have : F = G := funext e
  rwa [← this]

theorem Reads.put {D : DataW Value} {F G : ByteArray → Option Value} (h : Reads D F) (hm : Maps.IsMap D) (s : ByteArray) (v : Value) (e1 : G s = some v) (e2 : ∀ t, t ≠ s → G t = F t) : Reads (D.put (kl s) (.held v)) G := by
  refine ⟨fun t ht => ?_, fun t u ht => ?_, fun k hk => ?_⟩
  · by_cases e : t = s
    · subst e
      rw [e1] at ht
      cases ht
    · rw [Maps.has_put_other (fun h' => e (kl_inj h'))]
      exact h.no t (by rw [← e2 t e]; exact ht)
  · by_cases e : t = s
    · subst e
      rw [e1] at ht
      cases ht
      exact ⟨Maps.has_put_same hm (kl_key _) _, fun z => Maps.atKey_put_same hm (kl_key _) _ _⟩
    · have hne : kl t ≠ kl s := fun h' => e (kl_inj h')
      obtain ⟨h1, h2⟩ := h.yes t u (by rw [← e2 t e]; exact ht)
      exact ⟨by rw [Maps.has_put_other hne]; exact h1, fun z => by rw [Maps.atKey_put_other hne]; exact h2 z⟩
  · by_cases e : k = kl s
    · exact ⟨s, e⟩
    · rw [Maps.has_put_other e] at hk
      exact h.only k hk

theorem Reads.del {D : DataW Value} {F G : ByteArray → Option Value} (h : Reads D F) (s : ByteArray) (e1 : G s = none) (e2 : ∀ t, t ≠ s → G t = F t) : Reads (D.del (kl s)) G := by
  refine ⟨fun t ht => ?_, fun t u ht => ?_, fun k hk => ?_⟩
  · by_cases e : t = s
    · subst e
      exact Maps.has_del_same
    · rw [Maps.has_del_other (fun h' => e (kl_inj h'))]
      exact h.no t (by rw [← e2 t e]; exact ht)
  · by_cases e : t = s
    · subst e
      rw [e1] at ht
      cases ht
    · have hne : kl t ≠ kl s := fun h' => e (kl_inj h')
      obtain ⟨h1, h2⟩ := h.yes t u (by rw [← e2 t e]; exact ht)
      exact ⟨by rw [Maps.has_del_other hne]; exact h1, fun z => by rw [Maps.atKey_del_other hne]; exact h2 z⟩
  · by_cases e : k = kl s
    · exact ⟨s, e⟩
    · rw [Maps.has_del_other e] at hk
      exact h.only k hk

/-- What the maps hold. -/
def objF (K1 : Nat → ByteArray) (V1 : Nat → Hd) (m1 : Nat) (k : Nat) (s : ByteArray) : Option Value := (lastI K1 k s).map fun j => (valOf V1 m1 j).val
def wrF (K2 : Nat → ByteArray) (V2 : Nat → Hd) (m2 : Nat) (B2 : Nat → Bool) (p2 : Nat) (k : Nat) (s : ByteArray) : Option Value := (lastI K2 k s).map fun j => wval (valOf V2 m2 j) (boolOf B2 p2 j)

theorem lastI_same (K : Nat → ByteArray) (k : Nat) : lastI K (k + 1) (K k) = some k := by simp [lastI]
theorem lastI_other (K : Nat → ByteArray) (k : Nat) (t : ByteArray) (h : t ≠ K k) : lastI K (k + 1) t = lastI K k t := by
  rw [lastI, if_neg]
  rw [toList_beq]
  exact fun e => h e.symm

theorem run_makeMap_hint {P : Program} {t k e : TypeId} (ht : P.underlying t = some (.map k e)) (n : Nat) (w : World) : (Instr.makeMap t (some (.int .i64 n))).run P w = .ok (.map (some w.heap.size)) (w.alloc (.map #[] 0)) := by
  simp [Instr.makeMap, run_underlying ht, asInt, asIntOf, Result.andThen]

end Go.Proofs.Qxb6603717a.Aw
