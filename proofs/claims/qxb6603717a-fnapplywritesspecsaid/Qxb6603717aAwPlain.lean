/- FnApplyWritesSpec: the plain law: how many keys the objects have in the end. Nothing of the program. -/
import Derived.Test.Qxb6603717aAwMap
namespace Go.Proofs.Qxb6603717a.Aw
set_option linter.unusedVariables false

/-- How many of the first i keys are met for the first time and are there. -/
def cntF (G : ByteArray → Option Value) (K : Nat → ByteArray) : Nat → Nat
  | 0 => 0
  | i + 1 => cntF G K i + if seenB K i (K i) = false ∧ (G (K i)).isSome = true then 1 else 0

theorem cntF_le (G : ByteArray → Option Value) (K : Nat → ByteArray) : ∀ i, cntF G K i ≤ i
  | 0 => Nat.le_refl _
  | i + 1 => by
    have := cntF_le G K i
    rw [cntF]
    split <;> omega

theorem cntF_seen {G : ByteArray → Option Value} {K : Nat → ByteArray} {i : Nat} (h : seenB K i (K i) = true) : cntF G K (i + 1) = cntF G K i := by
  rw [cntF, if_neg (by rw [h]; simp)]; rfl
theorem cntF_none {G : ByteArray → Option Value} {K : Nat → ByteArray} {i : Nat} (h : G (K i) = none) : cntF G K (i + 1) = cntF G K i := by
  rw [cntF, if_neg (by rw [h]; simp)]; rfl
theorem cntF_some {G : ByteArray → Option Value} {K : Nat → ByteArray} {i : Nat} {v : Value} (h1 : seenB K i (K i) = false) (h2 : G (K i) = some v) : cntF G K (i + 1) = cntF G K i + 1 := by
  rw [cntF, if_pos (by rw [h1, h2]; simp)]

theorem seenB_iff (K : Nat → ByteArray) (k : ByteArray) : ∀ i, seenB K i k = true ↔ ∃ j, j < i ∧ K j = k
  | 0 => by simp [seenB]
  | i + 1 => by
    rw [seenB, Bool.or_eq_true, seenB_iff K k i, toList_beq]
    constructor
    · rintro (⟨j, hj, e⟩ | e)
      · exact ⟨j, by omega, e⟩
      · exact ⟨i, by omega, e⟩
    · rintro ⟨j, hj, e⟩
      by_cases h : j = i
      · subst h; exact .inr e
      · exact .inl ⟨j, by omega, e⟩

/-- The keys that are counted, as a list. -/
def keysF (G : ByteArray → Option Value) (K : Nat → ByteArray) : Nat → List Lit
  | 0 => []
  | i + 1 => if seenB K i (K i) = false ∧ (G (K i)).isSome = true then kl (K i) :: keysF G K i else keysF G K i

theorem keysF_len (G : ByteArray → Option Value) (K : Nat → ByteArray) : ∀ i, (keysF G K i).length = cntF G K i
  | 0 => rfl
  | i + 1 => by
    rw [keysF, cntF, ← keysF_len G K i]
    split <;> simp

theorem keysF_mem (G : ByteArray → Option Value) (K : Nat → ByteArray) (s : ByteArray) : ∀ i, kl s ∈ keysF G K i ↔ (∃ j, j < i ∧ K j = s) ∧ (G s).isSome = true
  | 0 => by simp [keysF]
  | i + 1 => by
    rw [keysF]
    split
    · rename_i h
      rw [List.mem_cons, keysF_mem G K s i]
      constructor
      · rintro (e | ⟨⟨j, hj, e⟩, h2⟩)
        · have := kl_inj e
          subst this
          exact ⟨⟨i, by omega, rfl⟩, h.2⟩
        · exact ⟨⟨j, by omega, e⟩, h2⟩
      · rintro ⟨⟨j, hj, e⟩, h2⟩
        by_cases hji : j = i
        · subst hji; exact .inl (by rw [e])
        · exact .inr ⟨⟨j, by omega, e⟩, h2⟩
    · rename_i h
      rw [keysF_mem G K s i]
      constructor
      · rintro ⟨⟨j, hj, e⟩, h2⟩
        exact ⟨⟨j, by omega, e⟩, h2⟩
      · rintro ⟨⟨j, hj, e⟩, h2⟩
        refine ⟨?_, h2⟩
        by_cases hji : j = i
        · subst hji
          have hs : seenB K j (K j) = true := by
            cases hs : seenB K j (K j)
            · exact absurd ⟨hs, by rw [e]; exact h2⟩ h
            · rfl
          obtain ⟨j', hj', e'⟩ := (seenB_iff K (K j) j).1 hs
          exact ⟨j', hj', e'.trans e⟩
        · exact ⟨j, by omega, e⟩

theorem keysF_shape (G : ByteArray → Option Value) (K : Nat → ByteArray) (l : Lit) : ∀ i, l ∈ keysF G K i → ∃ s, l = kl s
  | 0, h => by simp [keysF] at h
  | i + 1, h => by
    rw [keysF] at h
    split at h
    · rcases List.mem_cons.1 h with e | h
      · exact ⟨_, e⟩
      · exact keysF_shape G K l i h
    · exact keysF_shape G K l i h

theorem keysF_nodup (G : ByteArray → Option Value) (K : Nat → ByteArray) : ∀ i, (keysF G K i).Nodup
  | 0 => List.nodup_nil
  | i + 1 => by
    rw [keysF]
    split
    · rename_i h
      refine List.nodup_cons.2 ⟨fun hm => ?_, keysF_nodup G K i⟩
      obtain ⟨⟨j, hj, e⟩, _⟩ := (keysF_mem G K (K i) i).1 hm
      have := (seenB_iff K (K i) i).2 ⟨j, hj, e⟩
      rw [h.1] at this
      cases this
    · exact keysF_nodup G K i

theorem nodup_len_le {α : Type} [BEq α] [LawfulBEq α] : ∀ {l m : List α}, l.Nodup → (∀ x, x ∈ l → x ∈ m) → l.length ≤ m.length
  | [], m, _, _ => Nat.zero_le _
  | a :: l, m, h, hm => by
    obtain ⟨h1, h2⟩ := List.nodup_cons.1 h
    have ha := hm a (List.mem_cons_self ..)
    have := nodup_len_le (l := l) (m := m.erase a) h2 (fun x hx => by
      have hne : x ≠ a := fun e => h1 (by rw [← e]; exact hx)
      exact (List.mem_erase_of_ne hne).2 (hm x (List.mem_cons_of_mem _ hx)))
    rw [List.length_erase_of_mem ha] at this
    have hp : 0 < m.length := List.length_pos_of_mem ha
    simp only [List.length_cons]
    omega

/-- The count is the map's size. -/
theorem size_eq_cnt {D : DataW Value} {G : ByteArray → Option Value} {K : Nat → ByteArray} {n : Nat} (ht : Maps.Tidy D) (hr : Reads D G) (hall : ∀ s, (G s).isSome = true → ∃ j, j < n ∧ K j = s) (hkeys : ∀ es, D = .map es → ∀ p ∈ es, WideAt.IsKeyLit p.1) : Maps.size D = cntF G K n := by
  obtain ⟨es, rfl, hp⟩ := ht
  rw [← keysF_len, Maps.size_eq, ← List.length_map (f := fun p : Lit × DataW Value => p.1) (as := es)]
  have hnd : (es.map fun p => p.1).Nodup := List.pairwise_map.2 hp
  have hmem : ∀ l, l ∈ (es.map fun p => p.1) ↔ l ∈ keysF G K n := by
    intro l
    constructor
    · intro hl
      obtain ⟨p, hpm, rfl⟩ := List.mem_map.1 hl
      have hh : Maps.has (.map es) p.1 = true := List.any_eq_true.2 ⟨p, hpm, WideAt.sameKey_self (hkeys es rfl p hpm)⟩
      obtain ⟨s, hs⟩ := hr.only p.1 hh
      rw [hs] at hh ⊢
      have hG : (G s).isSome = true := by
        cases hg : G s with
        | none => rw [hr.no s hg] at hh; cases hh
        | some v => rfl
      exact (keysF_mem G K s n).2 ⟨hall s hG, hG⟩
    · intro hl
      obtain ⟨s, rfl⟩ := keysF_shape G K l n hl
      obtain ⟨_, hG⟩ := (keysF_mem G K s n).1 hl
      obtain ⟨v, hv⟩ := Option.isSome_iff_exists.1 hG
      obtain ⟨p, hpm, hs⟩ := List.any_eq_true.1 (hr.yes s v hv).1
      exact List.mem_map.2 ⟨p, hpm, WideAt.sameKey_eq hs⟩
  classical
  refine Nat.le_antisymm (nodup_len_le hnd (fun x hx => (hmem x).1 hx)) (nodup_len_le (keysF_nodup G K n) (fun x hx => (hmem x).2 hx))

/-! ### lastIndex -/
theorem lastI_some {K : Nat → ByteArray} {s : ByteArray} {j : Nat} : ∀ {n}, lastI K n s = some j → j < n ∧ K j = s
  | 0, h => by simp [lastI] at h
  | n + 1, h => by
    rw [lastI] at h
    split at h
    · rename_i e
      cases h
      exact ⟨by omega, toList_beq.1 e⟩
    · have := lastI_some h
      exact ⟨by omega, this.2⟩

theorem lastI_none {K : Nat → ByteArray} {s : ByteArray} : ∀ {n}, lastI K n s = none → ∀ j, j < n → K j ≠ s
  | 0, _, j, hj, _ => absurd hj (Nat.not_lt_zero _)
  | n + 1, h, j, hj, e => by
    rw [lastI] at h
    split at h
    · cases h
    · rename_i hne
      by_cases hjn : j = n
      · subst hjn; exact hne (toList_beq.2 e)
      · exact lastI_none h j (by omega) e

end Go.Proofs.Qxb6603717a.Aw
