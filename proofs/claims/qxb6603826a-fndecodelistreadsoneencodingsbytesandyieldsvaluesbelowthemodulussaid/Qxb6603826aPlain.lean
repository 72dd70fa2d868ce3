/- The mixed-radix encoding, plainly, on lists of numbers. Nothing of the program. -/
import Derived.WalkKit
namespace Go.Proofs.Qxb6603826a
set_option linter.unusedVariables false

/-- (n + 255) >> 8 -/
def cut (n : Nat) : Nat := (n + 255) / 256
/-- How often n is cut till it is below T; what it then is. -/
def sk (T : Nat) : Nat → Nat → Nat
  | 0, _ => 0
  | f + 1, n => if T ≤ n then sk T f (cut n) + 1 else 0
def sn (T : Nat) : Nat → Nat → Nat
  | 0, n => n
  | f + 1, n => if T ≤ n then sn T f (cut n) else n
/-- The k lowest bytes of v; the number that bytes make. -/
def bts : Nat → Nat → List Nat
  | 0, _ => []
  | k + 1, v => v % 256 :: bts k (v / 256)
def fromB : List Nat → Nat
  | [] => 0
  | b :: r => b + 256 * fromB r

theorem bts_length : ∀ k v, (bts k v).length = k
  | 0, _ => rfl
  | k + 1, v => by simp [bts, bts_length k]
theorem bts_lt : ∀ k v x, x ∈ bts k v → x < 256
  | 0, _, x, h => by simp [bts] at h
  | k + 1, v, x, h => by
    rcases List.mem_cons.1 h with rfl | h
    · exact Nat.mod_lt _ (by omega)
    · exact bts_lt k _ x h
theorem fromB_bts : ∀ k v, fromB (bts k v) = v % 256 ^ k
  | 0, v => by simp [bts, fromB, Nat.mod_one]
  | k + 1, v => by
    rw [bts, fromB, fromB_bts k, Nat.pow_succ, Nat.mul_comm (256 ^ k) 256, Nat.mod_mul]
theorem fromB_lt : ∀ l : List Nat, (∀ x, x ∈ l → x < 256) → fromB l < 256 ^ l.length
  | [], _ => by simp [fromB]
  | b :: r, h => by
    have h1 := fromB_lt r (fun x hx => h x (by simp [hx]))
    have h2 := h b (by simp)
    rw [fromB, List.length_cons, Nat.pow_succ]
    omega

/-! ### shedding -/
theorem cut_pos {n : Nat} (h : 1 ≤ n) : 1 ≤ cut n := by unfold cut; omega
theorem cut_le {n c : Nat} (h : n ≤ c * 256) : cut n ≤ c := by unfold cut; omega
theorem div_cut {v n : Nat} (h : v < n) : v / 256 < cut n := by unfold cut; omega

theorem sn_lt (T : Nat) : ∀ f n, 0 < T → n ≤ (T - 1) * 256 ^ f → sn T f n < T
  | 0, n, hT, h => by simp [sn] at h ⊢; omega
  | f + 1, n, hT, h => by
    rw [sn]
    split
    · exact sn_lt T f _ hT (cut_le (by rw [Nat.pow_succ] at h; rw [Nat.mul_assoc]; exact h))
    · omega
theorem sn_pos (T : Nat) : ∀ f n, 1 ≤ n → 1 ≤ sn T f n
  | 0, n, h => h
  | f + 1, n, h => by
    rw [sn]
    split
    · exact sn_pos T f _ (cut_pos h)
    · exact h
theorem sv_lt (T : Nat) : ∀ f n v, v < n → v / 256 ^ sk T f n < sn T f n
  | 0, n, v, h => by simpa [sk, sn] using h
  | f + 1, n, v, h => by
    rw [sk, sn]
    by_cases hT : T ≤ n
    · rw [if_pos hT, if_pos hT, Nat.pow_succ, Nat.mul_comm, ← Nat.div_div_eq_div_mul]
      exact sv_lt T f _ _ (div_cut h)
    · rw [if_neg hT, if_neg hT]
      simpa using h
theorem sk_le (T : Nat) : ∀ f n, sk T f n ≤ f
  | 0, _ => Nat.le_refl _
  | f + 1, n => by
    rw [sk]
    split
    · have := sk_le T f (cut n); omega
    · omega

/-! ### a pair -/
def pk (m0 m1 : Nat) : Nat := sk 16384 2 (m0 * m1)
def pn (m0 m1 : Nat) : Nat := sn 16384 2 (m0 * m1)
def fk (m : Nat) : Nat := sk 2 2 m

def OkM (m : Nat) : Prop := 1 ≤ m ∧ m ≤ 16384

theorem pair_bound {m0 m1 : Nat} (h0 : OkM m0) (h1 : OkM m1) : 1 ≤ m0 * m1 ∧ m0 * m1 ≤ 268435456 := by
  obtain ⟨a, b⟩ := h0
  obtain ⟨c, d⟩ := h1
  exact ⟨Nat.mul_pos a c, Nat.le_trans (Nat.mul_le_mul b d) (by decide)⟩
theorem pn_ok {m0 m1 : Nat} (h0 : OkM m0) (h1 : OkM m1) : OkM (pn m0 m1) := by
  obtain ⟨a, b⟩ := pair_bound h0 h1
  refine ⟨sn_pos _ _ _ a, ?_⟩
  have := sn_lt 16384 2 (m0 * m1) (by decide) (Nat.le_trans b (by decide))
  unfold pn
  omega
theorem pair_lt {m0 m1 v0 v1 : Nat} (h0 : v0 < m0) (h1 : v1 < m1) : v0 + m0 * v1 < m0 * m1 := by
  have : m0 * v1 + m0 ≤ m0 * m1 := by rw [← Nat.mul_succ]; exact Nat.mul_le_mul_left _ h1
  omega

/-! ### encode -/
def er : List Nat → List Nat → List Nat × List Nat × List Nat
  | v0 :: v1 :: vs, m0 :: m1 :: ms => (bts (pk m0 m1) (v0 + m0 * v1) ++ (er vs ms).1, (v0 + m0 * v1) / 256 ^ pk m0 m1 :: (er vs ms).2.1, pn m0 m1 :: (er vs ms).2.2)
  | [v], [m] => ([], [v], [m])
  | _, _ => ([], [], [])

def enc : Nat → List Nat → List Nat → List Nat
  | 0, vs, ms => bts (fk (ms.headD 0)) (vs.headD 0)
  | f + 1, vs, ms => if vs.length ≤ 1 then bts (fk (ms.headD 0)) (vs.headD 0) else (er vs ms).1 ++ enc f (er vs ms).2.1 (er vs ms).2.2

/-! ### of the moduli alone -/
def mr : List Nat → List Nat
  | m0 :: m1 :: ms => pn m0 m1 :: mr ms
  | [m] => [m]
  | [] => []
def bl : List Nat → Nat
  | m0 :: m1 :: ms => pk m0 m1 + bl ms
  | _ => 0
def nb : Nat → List Nat → Nat
  | 0, ms => fk (ms.headD 0)
  | f + 1, ms => if ms.length ≤ 1 then fk (ms.headD 0) else bl ms + nb f (mr ms)

theorem er_mod : ∀ (vs ms : List Nat), vs.length = ms.length → (er vs ms).2.2 = mr ms ∧ (er vs ms).1.length = bl ms ∧ (er vs ms).2.1.length = (mr ms).length
  | [], [], _ => ⟨rfl, rfl, rfl⟩
  | [v], [m], _ => ⟨rfl, rfl, rfl⟩
  | v0 :: v1 :: vs, m0 :: m1 :: ms, h => by
    obtain ⟨h1, h2, h3⟩ := er_mod vs ms (by simpa using h)
    refine ⟨by rw [er, mr, h1], by rw [er, bl, List.length_append, bts_length, h2], by rw [er, mr]; simp [h3]⟩
  | [], _ :: _, h => by simp at h
  | _ :: _, [], h => by simp at h
  | [_], _ :: _ :: _, h => by simp at h
  | _ :: _ :: _, [_], h => by simp at h

theorem mr_length : ∀ ms : List Nat, (mr ms).length = (ms.length + 1) / 2
  | [] => by simp [mr]
  | [_] => by simp [mr]
  | _ :: _ :: ms => by rw [mr, List.length_cons, mr_length ms]; simp; omega

theorem mr_ok : ∀ ms : List Nat, (∀ m, m ∈ ms → OkM m) → ∀ m, m ∈ mr ms → OkM m
  | [], _, m, h => by simp [mr] at h
  | [m0], h0, m, h => h0 m h
  | m0 :: m1 :: ms, h0, m, h => by
    rw [mr] at h
    rcases List.mem_cons.1 h with rfl | h
    · exact pn_ok (h0 m0 (by simp)) (h0 m1 (by simp))
    · exact mr_ok ms (fun x hx => h0 x (by simp [hx])) m h

theorem enc_length : ∀ f (vs ms : List Nat), vs.length = ms.length → (enc f vs ms).length = nb f ms
  | 0, vs, ms, h => by rw [enc, nb, bts_length]
  | f + 1, vs, ms, h => by
    rw [enc, nb, h]
    split
    · rw [bts_length]
    · obtain ⟨h1, h2, h3⟩ := er_mod vs ms h
      rw [List.length_append, h2, enc_length f _ _ (by rw [h3, h1]), h1]

theorem enc_lt : ∀ f (vs ms : List Nat), ∀ x, x ∈ enc f vs ms → x < 256
  | 0, vs, ms, x, h => bts_lt _ _ x h
  | f + 1, vs, ms, x, h => by
    rw [enc] at h
    split at h
    · exact bts_lt _ _ x h
    · rcases List.mem_append.1 h with h | h
      · exact er_lt vs ms x h
      · exact enc_lt f _ _ x h
where
  er_lt : ∀ (vs ms : List Nat), ∀ x, x ∈ (er vs ms).1 → x < 256
  | v0 :: v1 :: vs, m0 :: m1 :: ms, x, h => by
    rw [er] at h
    rcases List.mem_append.1 h with h | h
    · exact bts_lt _ _ x h
    · exact er_lt vs ms x h
  | [], [], x, h => by simp [er] at h
  | [_], [_], x, h => by simp [er] at h
  | [], _ :: _, x, h => by simp [er] at h
  | _ :: _, [], x, h => by simp [er] at h
  | [_], _ :: _ :: _, x, h => by simp [er] at h
  | _ :: _ :: _, [_], x, h => by simp [er] at h

/-- Each value below its modulus. -/
def Below2 (vs ms : List Nat) : Prop := vs.length = ms.length ∧ ∀ j, j < vs.length → vs.getD j 0 < ms.getD j 0

theorem below2_cons2 {v0 v1 m0 m1 : Nat} {vs ms : List Nat} : Below2 (v0 :: v1 :: vs) (m0 :: m1 :: ms) ↔ v0 < m0 ∧ v1 < m1 ∧ Below2 vs ms := by
  constructor
  · rintro ⟨h1, h2⟩
    refine ⟨by simpa using h2 0 (by simp), by simpa using h2 1 (by simp), by simpa using h1, fun j hj => ?_⟩
    simpa using h2 (j + 2) (by simpa using hj)
  · rintro ⟨h0, h1, h2, h3⟩
    refine ⟨by simpa using h2, fun j hj => ?_⟩
    match j, hj with
    | 0, _ => simpa using h0
    | 1, _ => simpa using h1
    | j + 2, hj => simpa using h3 j (by simpa using hj)

theorem er_below : ∀ (vs ms : List Nat), Below2 vs ms → Below2 (er vs ms).2.1 (mr ms)
  | [], [], h => h
  | [v], [m], h => h
  | v0 :: v1 :: vs, m0 :: m1 :: ms, h => by
    obtain ⟨h0, h1, h2⟩ := below2_cons2.1 h
    have ih := er_below vs ms h2
    rw [er, mr]
    refine ⟨by simpa using ih.1, fun j hj => ?_⟩
    cases j with
    | zero =>
      have := sv_lt 16384 2 (m0 * m1) _ (pair_lt h0 h1)
      simpa [pk, pn] using this
    | succ j => simpa using ih.2 j (by simpa using hj)
  | [], _ :: _, h => by simp [Below2] at h
  | _ :: _, [], h => by simp [Below2] at h
  | [_], _ :: _ :: _, h => by simp [Below2] at h
  | _ :: _ :: _, [_], h => by simp [Below2] at h

/-! ### decode -/
def dl : List Nat → List Nat → List Nat × List Nat
  | m0 :: m1 :: ms, b => (fromB (b.take (pk m0 m1)) :: (dl ms (b.drop (pk m0 m1))).1, (dl ms (b.drop (pk m0 m1))).2)
  | _, b => ([], b)
def cb : List Nat → List Nat → List Nat → List Nat
  | m0 :: m1 :: ms, l :: ls, u :: us => (l + 256 ^ pk m0 m1 * u) % m0 :: (l + 256 ^ pk m0 m1 * u) / m0 % m1 :: cb ms ls us
  | [_], _, u :: _ => [u]
  | _, _, _ => []
def dec : Nat → List Nat → List Nat → List Nat × List Nat
  | 0, ms, b => ([fromB (b.take (fk (ms.headD 0))) % ms.headD 0], b.drop (fk (ms.headD 0)))
  | f + 1, ms, b => if ms.length ≤ 1 then ([fromB (b.take (fk (ms.headD 0))) % ms.headD 0], b.drop (fk (ms.headD 0)))
      else (cb ms (dl ms b).1 (dec f (mr ms) (dl ms b).2).1, (dec f (mr ms) (dl ms b).2).2)

theorem dl_rest : ∀ (ms b : List Nat), (dl ms b).2 = b.drop (bl ms)
  | m0 :: m1 :: ms, b => by rw [dl, bl, dl_rest ms, List.drop_drop]
  | [], b => by simp [dl, bl]
  | [_], b => by simp [dl, bl]

theorem dl_length : ∀ (ms b : List Nat), (dl ms b).1.length = ms.length / 2
  | m0 :: m1 :: ms, b => by rw [dl, List.length_cons, dl_length ms]; simp; omega
  | [], b => by simp [dl]
  | [_], b => by simp [dl]

theorem dl_append : ∀ (ms b t : List Nat), bl ms ≤ b.length → (dl ms (b ++ t)).1 = (dl ms b).1
  | m0 :: m1 :: ms, b, t, h => by
    rw [bl] at h
    rw [dl, dl, List.take_append_of_le_length (by omega), List.drop_append_of_le_length (by omega), dl_append ms _ _ (by rw [List.length_drop]; omega)]
  | [], b, t, h => by simp [dl]
  | [_], b, t, h => by simp [dl]

theorem dec_rest : ∀ f (ms b : List Nat), (dec f ms b).2 = b.drop (nb f ms)
  | 0, ms, b => rfl
  | f + 1, ms, b => by
    rw [dec, nb]
    split
    · rfl
    · rw [dec_rest f, dl_rest, List.drop_drop]

theorem dec_append : ∀ f (ms b t : List Nat), nb f ms ≤ b.length → (dec f ms (b ++ t)).1 = (dec f ms b).1
  | 0, ms, b, t, h => by
    rw [nb] at h
    rw [dec, dec, List.take_append_of_le_length h]
  | f + 1, ms, b, t, h => by
    rw [nb] at h
    rw [dec, dec]
    split
    · rename_i h1
      rw [if_pos h1] at h
      rw [List.take_append_of_le_length h]
    · rename_i h1
      rw [if_neg h1] at h
      rw [dl_append ms b t (by omega), dl_rest, dl_rest, List.drop_append_of_le_length (by omega), dec_append f (mr ms) _ t (by rw [List.length_drop]; omega)]

theorem cb_length : ∀ (ms ls us : List Nat), ls.length = ms.length / 2 → us.length = (mr ms).length → (cb ms ls us).length = ms.length
  | [], ls, us, _, _ => by simp [cb]
  | [m], ls, u :: us, _, _ => by simp [cb]
  | [m], ls, [], _, h => by simp [mr] at h
  | m0 :: m1 :: ms, l :: ls, u :: us, h1, h2 => by
    rw [cb, List.length_cons, List.length_cons, cb_length ms ls us (by simp at h1; omega) (by simpa [mr] using h2)]
    simp
  | m0 :: m1 :: ms, [], us, h1, _ => by simp at h1; omega
  | m0 :: m1 :: ms, _ :: _, [], _, h2 => by simp [mr] at h2

theorem cb_below : ∀ (ms ls us : List Nat), (∀ m, m ∈ ms → OkM m) → ls.length = ms.length / 2 → Below2 us (mr ms) → Below2 (cb ms ls us) ms
  | [], ls, us, _, _, _ => by simp [cb, Below2]
  | [m], ls, u :: us, _, _, h => by
    have h1 := h.1
    have h0 := h.2 0 (by simp)
    refine ⟨by simp [cb], fun j hj => ?_⟩
    simp only [cb, List.length_singleton] at hj
    have : j = 0 := by omega
    subst this
    simpa [cb, mr] using h0
  | [m], ls, [], _, _, h => by have := h.1; simp [mr] at this
  | m0 :: m1 :: ms, l :: ls, u :: us, hm, h1, h2 => by
    rw [cb, below2_cons2]
    have a := (hm m0 (by simp)).1
    have b := (hm m1 (by simp)).1
    refine ⟨Nat.mod_lt _ a, Nat.mod_lt _ b, cb_below ms ls us (fun x hx => hm x (by simp [hx])) (by simp at h1; omega) ?_⟩
    rw [mr] at h2
    refine ⟨by simpa using h2.1, fun j hj => ?_⟩
    simpa using h2.2 (j + 1) (by simpa using hj)
  | m0 :: m1 :: ms, [], us, _, h1, _ => by simp at h1; omega
  | m0 :: m1 :: ms, _ :: _, [], _, _, h2 => by have := h2.1; simp [mr] at this

theorem headD_ok {ms : List Nat} (h : ∀ m, m ∈ ms → OkM m) (h1 : ms.length = 1) : ∃ m, ms = [m] ∧ OkM m := by
  match ms, h1 with
  | [m], _ => exact ⟨m, rfl, h m (by simp)⟩

theorem dec_below : ∀ f (ms b : List Nat), 1 ≤ ms.length → ms.length ≤ 2 ^ f → (∀ m, m ∈ ms → OkM m) → Below2 (dec f ms b).1 ms
  | 0, ms, b, h1, h2, hm => by
    obtain ⟨m, rfl, ho⟩ := headD_ok hm (by simp at h2; omega)
    refine ⟨by simp [dec], fun j hj => ?_⟩
    simp only [dec, List.length_singleton] at hj
    have : j = 0 := by omega
    subst this
    simpa [dec] using Nat.mod_lt _ ho.1
  | f + 1, ms, b, h1, h2, hm => by
    rw [dec]
    by_cases h : ms.length ≤ 1
    · rw [if_pos h]
      obtain ⟨m, rfl, ho⟩ := headD_ok hm (by omega)
      refine ⟨by simp, fun j hj => ?_⟩
      simp only [List.length_singleton] at hj
      have : j = 0 := by omega
      subst this
      simpa using Nat.mod_lt _ ho.1
    · rw [if_neg h]
      refine cb_below ms _ _ hm (dl_length ms b) (dec_below f (mr ms) _ (by rw [mr_length]; omega) ?_ (mr_ok ms hm))
      rw [mr_length]
      rw [Nat.pow_succ] at h2
      omega

/-! ### decode undoes encode -/
theorem cb_er : ∀ (vs ms t : List Nat), Below2 vs ms → cb ms (dl ms ((er vs ms).1 ++ t)).1 (er vs ms).2.1 = vs
  | [], [], t, _ => by simp [cb]
  | [v], [m], t, _ => by simp [er, cb]
  | v0 :: v1 :: vs, m0 :: m1 :: ms, t, h => by
    obtain ⟨h0, h1, h2⟩ := below2_cons2.1 h
    have ih := cb_er vs ms t h2
    rw [er, dl]
    simp only [List.append_assoc]
    rw [List.take_append_of_le_length (by rw [bts_length]; exact Nat.le_refl _), List.take_of_length_le (by rw [bts_length]; exact Nat.le_refl _), List.drop_append_of_le_length (by rw [bts_length]; exact Nat.le_refl _), List.drop_of_length_le (by rw [bts_length]; exact Nat.le_refl _), List.nil_append, cb, ih, fromB_bts]
    have e : (v0 + m0 * v1) % 256 ^ pk m0 m1 + 256 ^ pk m0 m1 * ((v0 + m0 * v1) / 256 ^ pk m0 m1) = v0 + m0 * v1 := Nat.mod_add_div _ _
    rw [e]
    have e1 : (v0 + m0 * v1) % m0 = v0 := by rw [Nat.add_mul_mod_self_left, Nat.mod_eq_of_lt h0]
    have e2 : (v0 + m0 * v1) / m0 % m1 = v1 := by
      rw [Nat.add_mul_div_left _ _ (by omega), Nat.div_eq_of_lt h0, Nat.zero_add, Nat.mod_eq_of_lt h1]
    rw [e1, e2]
  | [], _ :: _, t, h => by simp [Below2] at h
  | _ :: _, [], t, h => by simp [Below2] at h
  | [_], _ :: _ :: _, t, h => by simp [Below2] at h
  | _ :: _ :: _, [_], t, h => by simp [Below2] at h

theorem fin_dec {m v : Nat} (ho : OkM m) (hv : v < m) (t : List Nat) : fromB ((bts (fk m) v ++ t).take (fk m)) % m = v := by
  rw [List.take_append_of_le_length (by rw [bts_length]; exact Nat.le_refl _), List.take_of_length_le (by rw [bts_length]; exact Nat.le_refl _), fromB_bts]
  have h1 := sv_lt 2 2 m v hv
  have h2 := sn_lt 2 2 m (by decide) (by have := ho.2; omega)
  have h3 : v / 256 ^ fk m = 0 := by
    unfold fk
    generalize v / 256 ^ sk 2 2 m = q at h1
    omega
  have h4 := Nat.mod_add_div v (256 ^ fk m)
  rw [h3, Nat.mul_zero, Nat.add_zero] at h4
  rw [h4, Nat.mod_eq_of_lt hv]

theorem dec_enc : ∀ f (vs ms t : List Nat), 1 ≤ ms.length → ms.length ≤ 2 ^ f → (∀ m, m ∈ ms → OkM m) → Below2 vs ms → (dec f ms (enc f vs ms ++ t)).1 = vs
  | 0, vs, ms, t, h1, h2, hm, hb => by
    obtain ⟨m, rfl, ho⟩ := headD_ok hm (by simp at h2; omega)
    match vs, hb with
    | [v], hb =>
      have h0 : v < m := by simpa using hb.2 0 (by simp)
      simp [dec, enc, fin_dec ho h0 t]
    | [], hb => have := hb.1; simp at this
    | _ :: _ :: _, hb => have := hb.1; simp at this
  | f + 1, vs, ms, t, h1, h2, hm, hb => by
    rw [dec, enc, hb.1]
    by_cases h : ms.length ≤ 1
    · rw [if_pos h, if_pos h]
      obtain ⟨m, rfl, ho⟩ := headD_ok hm (by omega)
      match vs, hb with
      | [v], hb =>
        have h0 : v < m := by simpa using hb.2 0 (by simp)
        simp [fin_dec ho h0 t]
      | [], hb => have := hb.1; simp at this
      | _ :: _ :: _, hb => have := hb.1; simp at this
    · rw [if_neg h, if_neg h, List.append_assoc]
      obtain ⟨e1, e2, e3⟩ := er_mod vs ms hb.1
      have hd : (dl ms ((er vs ms).1 ++ (enc f (er vs ms).2.1 (er vs ms).2.2 ++ t))).2 = enc f (er vs ms).2.1 (er vs ms).2.2 ++ t := by
        rw [dl_rest, List.drop_append_of_le_length (by rw [e2]; exact Nat.le_refl _), List.drop_of_length_le (by rw [e2]; exact Nat.le_refl _), List.nil_append]
      simp only
      rw [hd, e1, dec_enc f _ (mr ms) t (by rw [mr_length]; omega) (by rw [mr_length]; rw [Nat.pow_succ] at h2; omega) (mr_ok ms hm) (er_below vs ms hb)]
      exact cb_er vs ms _ hb

/-! ### lengths -/
theorem bl_le : ∀ ms : List Nat, bl ms ≤ ms.length
  | [] => by simp [bl]
  | [_] => by simp [bl]
  | m0 :: m1 :: ms => by
    have h1 := bl_le ms
    have h2 : pk m0 m1 ≤ 2 := sk_le _ _ _
    rw [bl]
    simp only [List.length_cons]
    omega
theorem nb_le : ∀ f (ms : List Nat), 1 ≤ ms.length → nb f ms ≤ 2 * ms.length + f
  | 0, ms, h => by
    have h2 : fk (ms.headD 0) ≤ 2 := sk_le _ _ _
    rw [nb]
    omega
  | f + 1, ms, h => by
    rw [nb]
    split
    · have h2 : fk (ms.headD 0) ≤ 2 := sk_le _ _ _
      omega
    · have h1 := bl_le ms
      have h2 := nb_le f (mr ms) (by rw [mr_length]; omega)
      rw [mr_length] at h2
      omega

/-! ### one round, pair by pair -/
theorem drop_two {l : List Nat} {i : Nat} (h : i + 1 < l.length) : l.drop i = l.getD i 0 :: l.getD (i + 1) 0 :: l.drop (i + 2) := by
  rw [List.drop_eq_getElem_cons (by omega), List.drop_eq_getElem_cons h]
  simp [List.getD, h, show i < l.length by omega]
theorem drop_one {l : List Nat} {i : Nat} (h : i + 1 = l.length) : l.drop i = [l.getD i 0] := by
  rw [List.drop_eq_getElem_cons (by omega), List.drop_of_length_le (by omega)]
  simp [List.getD, show i < l.length by omega]

/-- The rest of a round, the lists cut at 2 i. -/
structure RoundEq (V M : List Nat) (i : Nat) (O X Y G1 G2 G3 : List Nat) : Prop where
  o : O ++ (er (V.drop (2 * i)) (M.drop (2 * i))).1 = G1
  x : X ++ (er (V.drop (2 * i)) (M.drop (2 * i))).2.1 = G2
  y : Y ++ (er (V.drop (2 * i)) (M.drop (2 * i))).2.2 = G3

theorem RoundEq.pair {V M : List Nat} {i : Nat} {O X Y G1 G2 G3 : List Nat} (h : RoundEq V M i O X Y G1 G2 G3) (hl : M.length = V.length) (hi : 2 * i + 1 < V.length) {v0 v1 m0 m1 : Nat} (e0 : V.getD (2 * i) 0 = v0) (e1 : V.getD (2 * i + 1) 0 = v1) (e2 : M.getD (2 * i) 0 = m0) (e3 : M.getD (2 * i + 1) 0 = m1) :
    RoundEq V M (i + 1) (O ++ bts (pk m0 m1) (v0 + m0 * v1)) (X ++ [(v0 + m0 * v1) / 256 ^ pk m0 m1]) (Y ++ [pn m0 m1]) G1 G2 G3 := by
  obtain ⟨h1, h2, h3⟩ := h
  rw [drop_two hi, drop_two (l := M) (by omega), e0, e1, e2, e3] at h1 h2 h3
  simp only [er] at h1 h2 h3
  refine ⟨?_, ?_, ?_⟩
  · rw [← h1, List.append_assoc]; rfl
  · rw [← h2, List.append_assoc]; rfl
  · rw [← h3, List.append_assoc]; rfl

theorem RoundEq.odd {V M : List Nat} {i : Nat} {O X Y G1 G2 G3 : List Nat} (h : RoundEq V M i O X Y G1 G2 G3) (hl : M.length = V.length) (hi : 2 * i + 1 = V.length) : O = G1 ∧ X ++ [V.getD (2 * i) 0] = G2 ∧ Y ++ [M.getD (2 * i) 0] = G3 := by
  obtain ⟨h1, h2, h3⟩ := h
  rw [drop_one hi, drop_one (l := M) (by omega)] at h1 h2 h3
  simp only [er] at h1 h2 h3
  exact ⟨by simpa using h1, h2, h3⟩

theorem RoundEq.even {V M : List Nat} {i : Nat} {O X Y G1 G2 G3 : List Nat} (h : RoundEq V M i O X Y G1 G2 G3) (hl : M.length = V.length) (hi : 2 * i = V.length) : O = G1 ∧ X = G2 ∧ Y = G3 := by
  obtain ⟨h1, h2, h3⟩ := h
  rw [List.drop_of_length_le (l := V) (by omega), List.drop_of_length_le (l := M) (by omega)] at h1 h2 h3
  simp only [er] at h1 h2 h3
  exact ⟨by simpa using h1, by simpa using h2, by simpa using h3⟩

/-- One byte shed. -/
theorem shed_step {T f n v : Nat} (h : T ≤ n) : sk T (f + 1) n = sk T f (cut n) + 1 ∧ sn T (f + 1) n = sn T f (cut n) ∧ bts (sk T (f + 1) n) v = v % 256 :: bts (sk T f (cut n)) (v / 256) ∧ v / 256 ^ sk T (f + 1) n = v / 256 / 256 ^ sk T f (cut n) := by
  have e : sk T (f + 1) n = sk T f (cut n) + 1 := by rw [sk, if_pos h]
  refine ⟨e, by rw [sn, if_pos h], by rw [e, bts], ?_⟩
  rw [e, Nat.pow_succ, Nat.mul_comm, ← Nat.div_div_eq_div_mul]
theorem shed_stop {T f n v : Nat} (h : n < T) : sk T f n = 0 ∧ sn T f n = n := by
  cases f with
  | zero => exact ⟨rfl, rfl⟩
  | succ f => exact ⟨by rw [sk, if_neg (by omega)], by rw [sn, if_neg (by omega)]⟩

end Go.Proofs.Qxb6603826a
