/- Sets of code points as lists of spans: extend, union, plainly. Nothing of the program. -/
import Derived.WalkKit
namespace Go.Proofs.Qxb6603766a
set_option linter.unusedVariables false

def Valid (us : List (Int × Int)) : Prop := us.Pairwise (fun p q => p.2 + 1 < q.1) ∧ ∀ p, p ∈ us → 0 ≤ p.1 ∧ p.1 ≤ p.2 ∧ p.2 ≤ 1114111
def Mem (us : List (Int × Int)) (x : Int) : Prop := ∃ p, p ∈ us ∧ p.1 ≤ x ∧ x ≤ p.2

/-- 'extend', plainly. -/
def ext (us : List (Int × Int)) (sp : Int × Int) : List (Int × Int) :=
  match us.getLast? with
  | none => [sp]
  | some q => if sp.1 ≤ q.2 + 1 then us.dropLast ++ [(q.1, max q.2 sp.2)] else us ++ [sp]

theorem ext_nil (sp : Int × Int) : ext [] sp = [sp] := rfl
theorem ext_join (us : List (Int × Int)) (q sp : Int × Int) (h : sp.1 ≤ q.2 + 1) : ext (us ++ [q]) sp = us ++ [(q.1, max q.2 sp.2)] := by simp [ext, h]
theorem ext_next (us : List (Int × Int)) (q sp : Int × Int) (h : ¬ sp.1 ≤ q.2 + 1) : ext (us ++ [q]) sp = us ++ [q] ++ [sp] := by simp [ext, h]

theorem snoc_cases {α : Type} (us : List α) : us = [] ∨ ∃ i q, us = i ++ [q] := by
  rcases List.eq_nil_or_concat us with h | ⟨i, q, h⟩
  · exact .inl h
  · exact .inr ⟨i, q, by simpa using h⟩

theorem valid_snoc {us : List (Int × Int)} {q : Int × Int} : Valid (us ++ [q]) ↔ Valid us ∧ (∀ p, p ∈ us → p.2 + 1 < q.1) ∧ 0 ≤ q.1 ∧ q.1 ≤ q.2 ∧ q.2 ≤ 1114111 := by
  unfold Valid
  rw [List.pairwise_append]
  simp only [List.mem_append, List.mem_singleton, List.pairwise_singleton, true_and, forall_eq]
  constructor
  · rintro ⟨⟨h1, h2⟩, h3⟩
    exact ⟨⟨h1, fun p hp => h3 p (.inl hp)⟩, h2, h3 q (.inr rfl)⟩
  · rintro ⟨⟨h1, h2⟩, h3, h4⟩
    refine ⟨⟨h1, h3⟩, fun p hp => ?_⟩
    rcases hp with hp | rfl
    · exact h2 p hp
    · exact h4

theorem mem_snoc {us : List (Int × Int)} {q : Int × Int} {x : Int} : Mem (us ++ [q]) x ↔ Mem us x ∨ (q.1 ≤ x ∧ x ≤ q.2) := by
  unfold Mem
  constructor
  · rintro ⟨p, hp, h⟩
    rcases List.mem_append.1 hp with hp | hp
    · exact .inl ⟨p, hp, h⟩
    · rw [List.mem_singleton] at hp
      subst hp
      exact .inr h
  · rintro (⟨p, hp, h⟩ | h)
    · exact ⟨p, List.mem_append_left _ hp, h⟩
    · exact ⟨q, by simp, h⟩

theorem ext_ok {us : List (Int × Int)} {sp : Int × Int} (hv : Valid us) (hle : ∀ p, p ∈ us → p.1 ≤ sp.1) (h0 : 0 ≤ sp.1) (h1 : sp.1 ≤ sp.2) (h2 : sp.2 ≤ 1114111) :
    Valid (ext us sp) ∧ (∀ x, Mem (ext us sp) x ↔ Mem us x ∨ (sp.1 ≤ x ∧ x ≤ sp.2)) ∧ (∀ p, p ∈ ext us sp → p.1 ≤ sp.1) ∧ (ext us sp).length ≤ us.length + 1 := by
  rcases snoc_cases us with rfl | ⟨i, q, rfl⟩
  · rw [ext_nil]
    refine ⟨?_, fun x => ?_, ?_, by simp⟩
    · have := @valid_snoc [] sp
      exact this.2 ⟨hv, by simp, h0, h1, h2⟩
    · have := @mem_snoc [] sp x
      exact this
    · simp
  · obtain ⟨hvi, hlt, hq0, hq1, hq2⟩ := valid_snoc.1 hv
    have hq := hle q (by simp)
    by_cases h : sp.1 ≤ q.2 + 1
    · rw [ext_join i q sp h]
      refine ⟨valid_snoc.2 ⟨hvi, hlt, hq0, by simp only; omega, by simp only; omega⟩, fun x => ?_, fun p hp => ?_, by simp⟩
      · rw [mem_snoc, mem_snoc]
        simp only
        constructor
        · rintro (h' | h')
          · exact .inl (.inl h')
          · by_cases hx : x ≤ q.2
            · exact .inl (.inr ⟨h'.1, hx⟩)
            · exact .inr (by omega)
        · rintro ((h' | h') | h')
          · exact .inl h'
          · exact .inr (by omega)
          · exact .inr (by omega)
      · rcases List.mem_append.1 hp with hp | hp
        · exact hle p (by simp [hp])
        · rw [List.mem_singleton] at hp
          subst hp
          exact hq
    · rw [ext_next i q sp h]
      refine ⟨valid_snoc.2 ⟨hv, fun p hp => ?_, h0, h1, h2⟩, fun x => mem_snoc, fun p hp => ?_, by simp⟩
      · rcases List.mem_append.1 hp with hp | hp
        · have := hlt p hp
          omega
        · rw [List.mem_singleton] at hp
          subst hp
          omega
      · rcases List.mem_append.1 hp with hp | hp
        · exact hle p hp
        · rw [List.mem_singleton] at hp
          subst hp
          exact Int.le_refl _

def Ok (sp : Int × Int) : Prop := 0 ≤ sp.1 ∧ sp.1 ≤ sp.2 ∧ sp.2 ≤ 1114111

theorem fold_ok : ∀ (l us : List (Int × Int)), Valid us → l.Pairwise (fun p q => p.1 ≤ q.1) → (∀ p, p ∈ l → Ok p) → (∀ p, p ∈ us → ∀ q, q ∈ l → p.1 ≤ q.1) →
    Valid (l.foldl ext us) ∧ (∀ x, Mem (l.foldl ext us) x ↔ Mem us x ∨ Mem l x) ∧ (l.foldl ext us).length ≤ us.length + l.length
  | [], us, hv, _, _, _ => ⟨hv, fun x => by simp [Mem], by simp⟩
  | sp :: l, us, hv, hs, ho, hle => by
    obtain ⟨hs1, hs2⟩ := List.pairwise_cons.1 hs
    obtain ⟨o1, o2, o3⟩ := ho sp (by simp)
    obtain ⟨e1, e2, e3, e4⟩ := ext_ok hv (fun p hp => hle p hp sp (by simp)) o1 o2 o3
    obtain ⟨f1, f2, f3⟩ := fold_ok l (ext us sp) e1 hs2 (fun p hp => ho p (by simp [hp])) (fun p hp q hq => Int.le_trans (e3 p hp) (hs1 q hq))
    refine ⟨f1, fun x => ?_, by simp only [List.foldl_cons, List.length_cons]; omega⟩
    rw [List.foldl_cons, f2 x, e2 x]
    unfold Mem
    constructor
    · rintro ((h | h) | ⟨p, hp, h⟩)
      · exact .inl h
      · exact .inr ⟨sp, by simp, h⟩
      · exact .inr ⟨p, by simp [hp], h⟩
    · rintro (h | ⟨p, hp, h⟩)
      · exact .inl (.inl h)
      · rcases List.mem_cons.1 hp with rfl | hp
        · exact .inl (.inr h)
        · exact .inr ⟨p, hp, h⟩

/-- The order in which 'union' takes the spans. -/
def leB (p q : Int × Int) : Bool := decide (p.1 ≤ q.1)
def mg (a b : List (Int × Int)) : List (Int × Int) := List.merge a b leB
theorem mg_nil_l (b : List (Int × Int)) : mg [] b = b := by simp [mg]
theorem mg_nil_r (a : List (Int × Int)) : mg a [] = a := by simp [mg]
theorem mg_fst {p q : Int × Int} (a b : List (Int × Int)) (h : p.1 ≤ q.1) : mg (p :: a) (q :: b) = p :: mg a (q :: b) := by
  unfold mg
  rw [List.cons_merge_cons, if_pos (by simp [leB, h])]
theorem mg_snd {p q : Int × Int} (a b : List (Int × Int)) (h : ¬ p.1 ≤ q.1) : mg (p :: a) (q :: b) = q :: mg (p :: a) b := by
  unfold mg
  rw [List.cons_merge_cons, if_neg (by simp [leB]; omega)]

/-- 'union', plainly. -/
def uni (a b : List (Int × Int)) : List (Int × Int) := (mg a b).foldl ext []

theorem mg_mem (a b : List (Int × Int)) (p : Int × Int) : p ∈ mg a b ↔ p ∈ a ∨ p ∈ b := by
  unfold mg
  exact List.mem_merge
theorem mg_length (a b : List (Int × Int)) : (mg a b).length = a.length + b.length := by
  unfold mg
  rw [List.length_merge]

theorem valid_sorted {a : List (Int × Int)} (h : Valid a) : a.Pairwise (fun p q => p.1 ≤ q.1) := by
  refine List.Pairwise.imp_of_mem (fun {p q} hp hq hr => ?_) h.1
  have := h.2 p hp
  omega

theorem mg_sorted {a b : List (Int × Int)} (ha : a.Pairwise (fun p q => p.1 ≤ q.1)) (hb : b.Pairwise (fun p q => p.1 ≤ q.1)) : (mg a b).Pairwise (fun p q => p.1 ≤ q.1) := by
  induction a generalizing b with
  | nil => rw [mg_nil_l]; exact hb
  | cons p a iha =>
    induction b with
    | nil => rw [mg_nil_r]; exact ha
    | cons q b ihb =>
      obtain ⟨ha1, ha2⟩ := List.pairwise_cons.1 ha
      obtain ⟨hb1, hb2⟩ := List.pairwise_cons.1 hb
      by_cases h : p.1 ≤ q.1
      · rw [mg_fst _ _ h]
        refine List.pairwise_cons.2 ⟨fun x hx => ?_, iha ha2 hb⟩
        rcases (mg_mem _ _ _).1 hx with hx | hx
        · exact ha1 x hx
        · rcases List.mem_cons.1 hx with rfl | hx
          · exact h
          · have := hb1 x hx
            omega
      · rw [mg_snd _ _ h]
        refine List.pairwise_cons.2 ⟨fun x hx => ?_, ihb hb2⟩
        rcases (mg_mem _ _ _).1 hx with hx | hx
        · rcases List.mem_cons.1 hx with rfl | hx
          · omega
          · have := ha1 x hx
            omega
        · exact hb1 x hx

theorem uni_ok {a b : List (Int × Int)} (ha : Valid a) (hb : Valid b) : Valid (uni a b) ∧ (∀ x, Mem (uni a b) x ↔ Mem a x ∨ Mem b x) ∧ (uni a b).length ≤ a.length + b.length := by
  obtain ⟨h1, h2, h3⟩ := fold_ok (mg a b) [] ⟨List.Pairwise.nil, by simp⟩ (mg_sorted (valid_sorted ha) (valid_sorted hb)) (fun p hp => by
    rcases (mg_mem _ _ _).1 hp with hp | hp
    · exact ha.2 p hp
    · exact hb.2 p hp) (by simp)
  refine ⟨h1, fun x => ?_, by rw [mg_length] at h3; simpa [uni] using h3⟩
  unfold uni
  rw [h2 x]
  unfold Mem
  constructor
  · rintro (⟨p, hp, _⟩ | ⟨p, hp, h⟩)
    · simp at hp
    · rcases (mg_mem _ _ _).1 hp with hp | hp
      · exact .inl ⟨p, hp, h⟩
      · exact .inr ⟨p, hp, h⟩
  · rintro (⟨p, hp, h⟩ | ⟨p, hp, h⟩)
    · exact .inr ⟨p, (mg_mem _ _ _).2 (.inl hp), h⟩
    · exact .inr ⟨p, (mg_mem _ _ _).2 (.inr hp), h⟩

/-- A valid set is fixed by its members. -/
theorem valid_ext : ∀ {a b : List (Int × Int)}, Valid a → Valid b → (∀ x, Mem a x ↔ Mem b x) → a = b
  | [], [], _, _, _ => rfl
  | [], q :: b, _, hb, h => by
    have := (h q.1).2 ⟨q, by simp, Int.le_refl _, (hb.2 q (by simp)).2.1⟩
    obtain ⟨p, hp, _⟩ := this
    simp at hp
  | p :: a, [], ha, _, h => by
    have := (h p.1).1 ⟨p, by simp, Int.le_refl _, (ha.2 p (by simp)).2.1⟩
    obtain ⟨q, hq, _⟩ := this
    simp at hq
  | p :: a, q :: b, ha, hb, h => by
    obtain ⟨pa1, pa2⟩ := List.pairwise_cons.1 ha.1
    obtain ⟨pb1, pb2⟩ := List.pairwise_cons.1 hb.1
    have hp := ha.2 p (by simp)
    have hq := hb.2 q (by simp)
    have va : Valid a := ⟨pa2, fun x hx => ha.2 x (by simp [hx])⟩
    have vb : Valid b := ⟨pb2, fun x hx => hb.2 x (by simp [hx])⟩
    -- a member of the one list lies in its head or behind
    have inA : ∀ x, Mem (p :: a) x ↔ (p.1 ≤ x ∧ x ≤ p.2) ∨ Mem a x := fun x => by
      unfold Mem
      constructor
      · rintro ⟨r, hr, h'⟩
        rcases List.mem_cons.1 hr with rfl | hr
        · exact .inl h'
        · exact .inr ⟨r, hr, h'⟩
      · rintro (h' | ⟨r, hr, h'⟩)
        · exact ⟨p, by simp, h'⟩
        · exact ⟨r, by simp [hr], h'⟩
    have inB : ∀ x, Mem (q :: b) x ↔ (q.1 ≤ x ∧ x ≤ q.2) ∨ Mem b x := fun x => by
      unfold Mem
      constructor
      · rintro ⟨r, hr, h'⟩
        rcases List.mem_cons.1 hr with rfl | hr
        · exact .inl h'
        · exact .inr ⟨r, hr, h'⟩
      · rintro (h' | ⟨r, hr, h'⟩)
        · exact ⟨q, by simp, h'⟩
        · exact ⟨r, by simp [hr], h'⟩
    have loA : ∀ x, Mem a x → p.2 + 1 < x := fun x ⟨r, hr, h1, h2⟩ => by have := pa1 r hr; omega
    have loB : ∀ x, Mem b x → q.2 + 1 < x := fun x ⟨r, hr, h1, h2⟩ => by have := pb1 r hr; omega
    have e1 : p.1 = q.1 := by
      have h1 := (inB p.1).1 ((h p.1).1 ((inA p.1).2 (.inl ⟨Int.le_refl _, hp.2.1⟩)))
      have h2 := (inA q.1).1 ((h q.1).2 ((inB q.1).2 (.inl ⟨Int.le_refl _, hq.2.1⟩)))
      rcases h1 with h1 | h1
      · rcases h2 with h2 | h2
        · omega
        · have := loA _ h2; omega
      · have := loB _ h1
        rcases h2 with h2 | h2
        · omega
        · have := loA _ h2; omega
    have e2 : p.2 = q.2 := by
      have h1 := (inB p.2).1 ((h p.2).1 ((inA p.2).2 (.inl ⟨hp.2.1, Int.le_refl _⟩)))
      have h2 := (inA q.2).1 ((h q.2).2 ((inB q.2).2 (.inl ⟨hq.2.1, Int.le_refl _⟩)))
      by_cases hpq : p.2 < q.2
      · have h3 := (inA (p.2 + 1)).1 ((h _).2 ((inB (p.2 + 1)).2 (.inl ⟨by omega, by omega⟩)))
        rcases h3 with h3 | h3
        · omega
        · have := loA _ h3; omega
      · by_cases hqp : q.2 < p.2
        · have h3 := (inB (q.2 + 1)).1 ((h _).1 ((inA (q.2 + 1)).2 (.inl ⟨by omega, by omega⟩)))
          rcases h3 with h3 | h3
          · omega
          · have := loB _ h3; omega
        · omega
    have e3 : a = b := valid_ext va vb (fun x => by
      constructor
      · intro hx
        have := loA x hx
        rcases (inB x).1 ((h x).1 ((inA x).2 (.inr hx))) with h' | h'
        · omega
        · exact h'
      · intro hx
        have := loB x hx
        rcases (inA x).1 ((h x).2 ((inB x).2 (.inr hx))) with h' | h'
        · omega
        · exact h')
    rw [e3, Prod.ext e1 e2]

theorem uni_comm {a b : List (Int × Int)} (ha : Valid a) (hb : Valid b) : uni a b = uni b a :=
  valid_ext (uni_ok ha hb).1 (uni_ok hb ha).1 (fun x => by rw [(uni_ok ha hb).2.1, (uni_ok hb ha).2.1]; exact Or.comm)
theorem valid_nil : Valid [] := ⟨List.Pairwise.nil, by simp⟩
theorem uni_self {a : List (Int × Int)} (ha : Valid a) : uni a a = a :=
  valid_ext (uni_ok ha ha).1 ha (fun x => by rw [(uni_ok ha ha).2.1]; simp)
theorem uni_nil_r {a : List (Int × Int)} (ha : Valid a) : uni a [] = a :=
  valid_ext (uni_ok ha valid_nil).1 ha (fun x => by rw [(uni_ok ha valid_nil).2.1]; simp [Mem])
theorem uni_nil_l {a : List (Int × Int)} (ha : Valid a) : uni [] a = a :=
  valid_ext (uni_ok valid_nil ha).1 ha (fun x => by rw [(uni_ok valid_nil ha).2.1]; simp [Mem])
theorem uni_again {a b : List (Int × Int)} (ha : Valid a) (hb : Valid b) : uni (uni a b) a = uni a b :=
  valid_ext (uni_ok (uni_ok ha hb).1 ha).1 (uni_ok ha hb).1 (fun x => by
    rw [(uni_ok (uni_ok ha hb).1 ha).2.1, (uni_ok ha hb).2.1]
    constructor
    · rintro (h | h)
      · exact h
      · exact .inl h
    · exact .inl)

end Go.Proofs.Qxb6603766a
