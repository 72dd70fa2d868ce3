/- decodeList, whole; ZZDecodeList; what the laws of decode hold. -/
import Derived.Test.Qxb6603826aDec
import Derived.Test.Qxb6603826aLawEnc
namespace Go.Proofs.Qxb6603826a
open Go.RowKit
set_option linter.unusedVariables false

theorem dec_one (f m : Nat) (B : List Nat) : dec f [m] B = ([fromB (B.take (fk m)) % m], B.drop (fk m)) := by
  cases f with
  | zero => rfl
  | succ f => rw [dec, if_pos (by simp)]; rfl
theorem nb_one (f m : Nat) : nb f [m] = fk m := by
  cases f with
  | zero => rfl
  | succ f => rw [nb, if_pos (by simp)]; rfl

theorem decode_leaf (f : Nat) (vb : Value) (B : List Nat) (gm om cm : Nat) (M : List Nat) (w0 w : World) (h1 : M.length = 1) (hM : ∀ x, x ∈ M → OkM x) (hS : MS w gm om M) (hw0 : Below w0.heap.size w0 w) (hB : BS w0 vb B) (hn : nb f M ≤ B.length) :
    Calls Try.prog 21 #[vb, .slice (some ⟨gm, om, none⟩) M.length cm] w (DPost w0 w (dec f M B).1 (dec f M B).2) := by
  obtain ⟨m, rfl, ho⟩ := headD_ok hM h1
  rw [nb_one] at hn
  rw [dec_one]
  exact leaf_any vb gm om cm m w ho (hS 0 (by simp)) B w0 hw0 hB hn

theorem decode_any : ∀ (f : Nat) (vb : Value) (B : List Nat) (gm om cm : Nat) (M : List Nat) (w0 w : World), 1 ≤ M.length → M.length ≤ 65536 → M.length ≤ 2 ^ f → (∀ x, x ∈ M → OkM x) → MS w gm om M → Below w0.heap.size w0 w → BS w0 vb B → nb f M ≤ B.length →
      Calls Try.prog 21 #[vb, .slice (some ⟨gm, om, none⟩) M.length cm] w (DPost w0 w (dec f M B).1 (dec f M B).2)
  | 0, vb, B, gm, om, cm, M, w0, w, h1, h2, h3, hM, hS, hw0, hB, hn => decode_leaf 0 vb B gm om cm M w0 w (by simp at h3; omega) hM hS hw0 hB hn
  | f + 1, vb, B, gm, om, cm, M, w0, w, h1, h2, h3, hM, hS, hw0, hB, hn => by
    by_cases h : M.length = 1
    · exact decode_leaf (f + 1) vb B gm om cm M w0 w h hM hS hw0 hB hn
    · exact dec_step f (decode_any f) vb B gm om cm M w0 w (by omega) h2 h3 hM hS hw0 hB hn

set_option maxHeartbeats 400000 in
theorem zzDecode_any (vb : Value) (B : List Nat) (gm cm : Nat) (M : List Nat) (w : World) (h1 : 1 ≤ M.length) (h2 : M.length ≤ 65536) (hM : ∀ x, x ∈ M → OkM x) (hS : w.ownsRow 0 24 1 (.slice (some ⟨gm, 0, none⟩) M.length cm) M.length (c32 M)) (hB : BS w vb B) (hn : nb 16 M ≤ B.length) :
    Calls Try.prog 14 #[vb, .slice (some ⟨gm, 0, none⟩) M.length cm] w (DPost w w (dec 16 M B).1 (dec 16 M B).2) := by
  have hms : MS w gm 0 M := fun j hj => by
    have h9 := hS.cellAt j (by omega)
    rw [c32_get M hj] at h9
    rw [Nat.zero_add]
    exact h9
  have hc := decode_any 16 vb B gm 0 cm M w w h1 h2 (by simpa using h2) hM hms (Below.refl _ _) hB hn
  generalize (dec 16 M B).1 = R at hc ⊢
  generalize (dec 16 M B).2 = T at hc ⊢
  have HC := hide hc
  clear hc hB hM hS hms
  go_enter Try.func14, Try.ntmps14
  go_wp2_with fail
  refine (unhide HC).mono ?_
  rintro e w' ⟨v, vb', rfl, hp⟩
  have HP := hide hp
  clear hp HC
  go_wp2
  go_ret2
  exact ⟨_, _, rfl, unhide HP⟩

/-! ### what the laws hold -/
theorem LI.addv {w wr w' : World} {rows : List Rw} {t : TypeId} {v : Value} {xs : List Value} (h : LI w wr rows) (ho : w'.ownsRow 0 t 1 v xs.length xs) (hn : ∀ j, v.ownBlock = some j → wr.heap.size ≤ j) (hb : Below wr.heap.size wr w') : LI w w' (⟨t, v, xs⟩ :: rows) := by
  obtain ⟨v', he, hl⟩ := h.add (e := .returned v) ⟨v, rfl, ho, hn, hb⟩
  cases he
  exact hl

theorem LI.dec {w wr w' : World} {rows : List Rw} {R B : List Nat} {e : Ending} (h : LI w wr rows) (hp : DPost wr wr R B e w') : ∃ v vb, e = .returned (.tuple #[v, vb]) ∧ LI w w' (⟨24, v, c32 R⟩ :: rows) ∧ BS w' vb B := by
  obtain ⟨v, vb, he, ho, hB, hb⟩ := hp
  refine ⟨v, vb, he, h.addv (by rw [c32_length]; exact own_base ho (Nat.zero_le _)) (fun j hj => (ho.lt j hj).1) hb, hB.below (Nat.le_refl _) hb⟩

theorem LI.push {w wr w' : World} {rows : List Rw} {t : TypeId} {v : Value} {xs news : List Value} {g cap : Nat} (h : LI w wr (⟨t, v, xs⟩ :: rows)) (ho : w'.ownsRow 0 t 1 (.slice (some ⟨g, 0, none⟩) (xs ++ news).length cap) (xs ++ news).length (xs ++ news)) (hg : wr.grownBy w' v.ownBlock) (hat : v.ownBlock = some g ∨ wr.heap.size ≤ g) :
    LI w w' (⟨t, .slice (some ⟨g, 0, none⟩) (xs ++ news).length cap, xs ++ news⟩ :: rows) := by
  refine ⟨Fam.push (pre := []) (w1 := wr) h.fam h.fam (Nat.le_refl _) ho hg hat, h.bel.grown hg h.size (fun k hk => h.new ⟨t, v, xs⟩ (by simp) k hk), fun r hr j hj => ?_⟩
  rcases List.mem_cons.1 hr with rfl | hr
  · simp only [Value.ownBlock, Option.some.injEq] at hj
    subst hj
    rcases hat with h' | h'
    · exact h.new ⟨t, v, xs⟩ (by simp) g h'
    · exact Nat.le_trans h.size h'
  · exact h.new r (List.mem_cons_of_mem _ hr) j hj

theorem LI.alloc {w wr : World} {rows : List Rw} (h : LI w wr rows) (o : Obj) : LI w (wr.alloc o) rows :=
  ⟨h.fam.alloc o, h.bel.alloc h.size o, h.new⟩

theorem own_BS {w : World} {v : Value} {L : List Nat} (h : w.ownsRow 0 5 1 v L.length (c8 L)) (hb : ∀ x, x ∈ L → x < 256) : BS w v L := by
  refine ⟨hb, ?_⟩
  rcases h.2 with ⟨hv, h0⟩ | ⟨g, cap, cur, hv, _, _, hle, _⟩
  · exact .inl ⟨hv, List.length_eq_zero_iff.1 h0⟩
  · refine .inr ⟨g, 0, cap, hv, hle, fun j hj => ?_⟩
    subst hv
    have h9 := h.cellAt j (by omega)
    rw [c8_get L hj] at h9
    rw [Nat.zero_add]
    exact h9

theorem BS.row {w : World} {v : Value} {L : List Nat} (h : BS w v L) : ∃ a c, v = .slice a L.length c ∧ VRow w a L.length (fun j => .int .u8 (L.getD j 0 : Nat)) := by
  obtain ⟨_, ⟨rfl, rfl⟩ | ⟨g, o, c, rfl, _, h⟩⟩ := h
  · exact ⟨none, 0, rfl, .inl rfl⟩
  · exact ⟨_, c, rfl, .inr ⟨g, o, rfl, h⟩⟩

theorem own_row8 {w : World} {v : Value} {L : List Nat} (h : w.ownsRow 0 5 1 v L.length (c8 L)) : ∃ a c, v = .slice a L.length c ∧ VRow w a L.length (fun j => .int .u8 (L.getD j 0 : Nat)) := by
  rcases h.2 with ⟨hv, h0⟩ | ⟨g, cap, cur, hv, _, _, hle, _⟩
  · exact ⟨none, 0, by rw [h0]; exact hv, .inl h0⟩
  · refine ⟨_, cap, hv, .inr ⟨g, 0, rfl, fun j hj => ?_⟩⟩
    subst hv
    have h9 := h.cellAt j (by omega)
    rw [c8_get L hj] at h9
    rw [Nat.zero_add]
    exact h9
theorem own_row32 {w : World} {v : Value} {L : List Nat} (h : w.ownsRow 0 24 1 v L.length (c32 L)) : ∃ a c, v = .slice a L.length c ∧ VRow w a L.length (fun j => .int .u32 (L.getD j 0 : Nat)) := by
  rcases h.2 with ⟨hv, h0⟩ | ⟨g, cap, cur, hv, _, _, hle, _⟩
  · exact ⟨none, 0, by rw [h0]; exact hv, .inl h0⟩
  · refine ⟨_, cap, hv, .inr ⟨g, 0, rfl, fun j hj => ?_⟩⟩
    subst hv
    have h9 := h.cellAt j (by omega)
    rw [c32_get L hj] at h9
    rw [Nat.zero_add]
    exact h9

end Go.Proofs.Qxb6603826a
