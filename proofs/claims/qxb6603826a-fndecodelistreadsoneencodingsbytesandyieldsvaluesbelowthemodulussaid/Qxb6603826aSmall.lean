/- The small functions, and what a law holds side by side. -/
import Derived.Test.Qxb6603826aEnc
import Derived.BigQuiet
namespace Go.Proofs.Qxb6603826a
open Go.RowKit
set_option linter.unusedVariables false

/-! ### what a law holds -/
/-- A new row in a new block. -/
def NPost (t : TypeId) (xs : List Value) (w : World) (e : Ending) (w' : World) : Prop :=
  ∃ v, e = .returned v ∧ w'.ownsRow 0 t 1 v xs.length xs ∧ (∀ j, v.ownBlock = some j → w.heap.size ≤ j) ∧ Below w.heap.size w w'

/-- Rows of the law's own, side by side; nothing that was there has turned. -/
structure LI (w wr : World) (rows : List Rw) : Prop where
  fam : Fam wr rows
  bel : Below w.heap.size w wr
  new : ∀ r, r ∈ rows → ∀ j, r.v.ownBlock = some j → w.heap.size ≤ j

theorem LI.start (w : World) : LI w w [] := ⟨Fam.nil w, Below.refl _ _, by simp⟩

theorem LI.size {w wr : World} {rows : List Rw} (h : LI w wr rows) : w.heap.size ≤ wr.heap.size := h.bel.size

theorem LI.add {w wr w' : World} {rows : List Rw} {t : TypeId} {xs : List Value} {e : Ending} (h : LI w wr rows) (hp : NPost t xs wr e w') : ∃ v, e = .returned v ∧ LI w w' (⟨t, v, xs⟩ :: rows) := by
  obtain ⟨v, he, ho, hn, hb⟩ := hp
  refine ⟨v, he, ⟨h.fam.consNew (row := none) (fun s hs => (h.fam.own s hs).kept (grown_of_below hb) (by cases s.v.ownBlock <;> simp)) ho hn, h.bel.trans (hb.mono h.size), fun r hr j hj => ?_⟩⟩
  rcases List.mem_cons.1 hr with rfl | hr
  · exact Nat.le_trans h.size (hn j hj)
  · exact h.new r hr j hj

theorem LI.nil {w wr : World} {rows : List Rw} (h : LI w wr rows) (t : TypeId) : LI w wr (⟨t, .slice none 0 0, []⟩ :: rows) :=
  ⟨h.fam.consNil t, h.bel, fun r hr j hj => by
    rcases List.mem_cons.1 hr with rfl | hr
    · simp [Value.ownBlock] at hj
    · exact h.new r hr j hj⟩

theorem LI.sub {w wr : World} {rows rows' : List Rw} (h : LI w wr rows) (hs : rows'.Sublist rows) : LI w wr rows' :=
  ⟨h.fam.sub hs, h.bel, fun r hr => h.new r (hs.subset hr)⟩

theorem LI.drewN {w wr : World} {rows : List Rw} (h : LI w wr rows) (m : Nat) : LI w (wr.drewN m) rows :=
  ⟨h.fam.drewN m, ⟨h.bel.os, h.bel.tape, h.bel.output, h.bel.size, h.bel.block⟩, h.new⟩

theorem LI.enc {w wr w' : World} {rows : List Rw} {vo0 : Value} {xs : List Value} {R : List Nat} {e : Ending} (h : LI w wr (⟨5, vo0, xs⟩ :: rows)) (hp : EPost wr vo0 R e w') : ∃ v, e = .returned v ∧ LI w w' (⟨5, v, c8 R⟩ :: rows) := by
  obtain ⟨v, he, ho, hg, hn⟩ := hp
  obtain ⟨ap1, ap2⟩ := List.pairwise_cons.1 h.fam.apart
  have hr0 : Fam wr rows := h.fam.sub (List.sublist_cons_self _ _)
  have hne : ∀ r, r ∈ rows → r.v.ownBlock = none ∨ r.v.ownBlock ≠ vo0.ownBlock := fun r hr => by
    rcases ap1 r hr with h' | h' | h'
    · cases hb : r.v.ownBlock with
      | none => exact .inl rfl
      | some j => exact .inr (by simp only at h'; rw [h']; simp)
    · exact .inl h'
    · exact .inr (Ne.symm h')
  have hk := hr0.kept hg hne
  refine ⟨v, he, ⟨hk.cons ho (fun s hs => ?_), h.bel.grown hg h.size (fun k hk => h.new ⟨5, vo0, xs⟩ (by simp) k hk), fun r hr j hj => ?_⟩⟩
  · cases hb : v.ownBlock with
    | none => exact .inl rfl
    | some j =>
      cases hs' : s.v.ownBlock with
      | none => exact .inr (.inl rfl)
      | some i =>
        refine .inr (.inr ?_)
        rcases hn j hb with h' | h'
        · have := hr0.lt hs hs'
          simp
          omega
        · rcases hne s hs with h'' | h''
          · rw [hs'] at h''; cases h''
          · rw [hs', h'] at h''
            exact Ne.symm h''
  · rcases List.mem_cons.1 hr with rfl | hr
    · rcases hn j hj with h' | h'
      · exact Nat.le_trans h.size h'
      · exact h.new ⟨5, vo0, xs⟩ (by simp) j h'
    · exact h.new r (List.mem_cons_of_mem _ hr) j hj

/-- The form of an owned slice. -/
theorem row_form {w : World} {t : TypeId} {v : Value} {n : Nat} {xs : List Value} (h : w.ownsRow 0 t 1 v n xs) : ∃ a c, v = .slice a n c ∧ (0 < n → ∃ g, a = some ⟨g, 0, none⟩) := by
  rcases h.2 with ⟨hv, h0⟩ | ⟨g, cap, cur, hv, _⟩
  · subst h0
    exact ⟨none, 0, hv, fun h => absurd h (Nat.lt_irrefl _)⟩
  · exact ⟨_, cap, hv, fun _ => ⟨g, rfl⟩⟩

def toL (n : Nat) (K : Nat → Nat) : List Nat := (List.range n).map K
theorem toL_length (n : Nat) (K : Nat → Nat) : (toL n K).length = n := by simp [toL]
theorem toL_get {n : Nat} {K : Nat → Nat} {j : Nat} (h : j < n) : (toL n K).getD j 0 = K j := by simp [toL, List.getD, h]
theorem toL_mem {n : Nat} {K : Nat → Nat} {x : Nat} (h : x ∈ toL n K) : ∃ j, j < n ∧ K j = x := by simpa [toL] using h

theorem cloneB (a : Option Addr) (n c : Nat) (K : Nat → Nat) (w : World) (hn : n ≤ 2097152) (ha : a = none → n = 0) (h : VRow w a n (fun j => .int .u8 (K j : Nat))) :
    Calls Try.prog 9 #[.slice a n c] w (NPost 5 (c8 (toL n K)) w) :=
  (cloneBytes_any a n c K w hn ha h).mono fun e w' ⟨hd, h1, h2, h3, h4, h5⟩ => ⟨hd.val, h1, by
    have e : (c8 (toL n K)).length = n := by rw [c8_length, toL_length]
    have e2 : c8 (toL n K) = (List.range n).map (fun j => (fun x : Nat => Value.int .u8 (x : Int)) (K j)) := by simp [c8, toL, Function.comp_def]
    rw [e, e2]; exact h3, h4, h5⟩
theorem cloneW (a : Option Addr) (n c : Nat) (K : Nat → Nat) (w : World) (hn : n ≤ 2097152) (ha : a = none → n = 0) (h : VRow w a n (fun j => .int .u32 (K j : Nat))) :
    Calls Try.prog 10 #[.slice a n c] w (NPost 24 (c32 (toL n K)) w) :=
  (cloneWords_any a n c K w hn ha h).mono fun e w' ⟨hd, h1, h2, h3, h4, h5⟩ => ⟨hd.val, h1, by
    have e : (c32 (toL n K)).length = n := by rw [c32_length, toL_length]
    have e2 : c32 (toL n K) = (List.range n).map (fun j => (fun x : Nat => Value.int .u32 (x : Int)) (K j)) := by simp [c32, toL, Function.comp_def]
    rw [e, e2]; exact h3, h4, h5⟩

/-! ### b1Uniform -/
set_option maxHeartbeats 400000 in
theorem uniform_any (n x : Nat) (w : World) (hn : n ≤ 2097152) : Calls Try.prog 12 #[.int .i64 n, .int .u32 x] w (NPost 24 (c32 (List.replicate n x)) w) := by
  have hmk := make23 n hn
  go_enter Try.func12, Try.ntmps12
  go_wp2
  go_loopw [6] (fun i wr => ∃ k : Nat, k ≤ n ∧ i = .int .i64 k ∧ Hid (Filled wr w.heap.size 24 n k (fun _ => .int .u32 x)) ∧ Hid (Below w.heap.size w wr)) (fun i _ => n - (intOf i).toNat)
  case atStart => exact ⟨0, Nat.zero_le _, rfl, Filled.start w 24 n _ _ (size_madeCells _ _), (Below.refl _ _).alloc (Nat.le_refl _) _⟩
  case round =>
    obtain ⟨k, hk, rfl, HF, HB⟩ := hrel
    clear hmk
    by_cases hlt : k < n
    · obtain ⟨v, hv⟩ := (unhide HF).cell hlt
      have hfr := (unhide HF).free k
      have HST := hide ((unhide HF).step hlt)
      go_wp2
      go_roundw
      case rel => exact ⟨k + 1, by omega, by go_num, HST, (unhide HB).setCell (Nat.le_refl _) _⟩
      case measure => simp [intOf]; omega
    · have hk' : k = n := by omega
      subst hk'
      go_wp2
      go_ret
      refine ⟨_, rfl, ?_, (fun j hj => by simp [Value.ownBlock] at hj; omega), unhide HB⟩
      have hown := (unhide HF).owned (by simp [maxLen]; omega)
      have hc : (List.range k).map (fun _ => Value.int .u32 (x : Int)) = c32 (List.replicate k x) := by simp [c32, List.map_const']
      have hl : (c32 (List.replicate k x)).length = k := by simp [c32]
      rw [hl, ← hc]
      exact hown

/-! ### b1AllBelow -/
def allB (n : Nat) (K : Nat → Nat) (q : Nat) : Bool := (toL n K).all (fun x => decide (x < q))
theorem allB_true {n : Nat} {K : Nat → Nat} {q : Nat} (h : ∀ j, j < n → K j < q) : allB n K q = true := by
  simp only [allB, List.all_eq_true, decide_eq_true_eq]
  intro x hx
  obtain ⟨j, hj, rfl⟩ := toL_mem hx
  exact h j hj
theorem allB_false {n : Nat} {K : Nat → Nat} {q j : Nat} (h : j < n) (hq : ¬ K j < q) : allB n K q = false := by
  cases hb : allB n K q with
  | false => rfl
  | true =>
    simp only [allB, List.all_eq_true, decide_eq_true_eq] at hb
    exact absurd (hb (K j) (by simp only [toL, List.mem_map, List.mem_range]; exact ⟨j, h, rfl⟩)) hq
theorem allB_of {n : Nat} {K : Nat → Nat} {q : Nat} (hb : allB n K q = true) : ∀ x, x ∈ toL n K → x < q := by
  simpa only [allB, List.all_eq_true, decide_eq_true_eq] using hb

set_option maxHeartbeats 400000 in
theorem allBelow_any (a : Option Addr) (n c : Nat) (K : Nat → Nat) (q : Nat) (w : World) (hn : n ≤ 2097152) (h : VRow w a n (fun j => .int .u32 (K j : Nat))) :
    Calls Try.prog 8 #[.slice a n c, .int .u32 q] w fun e w' => e = .returned (.bool (allB n K q)) ∧ w = w' := by
  have H := hide h
  clear h
  go_enter Try.func8, Try.ntmps8
  go_wp2
  go_loop [5] (fun i => ∃ k : Nat, k ≤ n ∧ i = .int .i64 k ∧ Hid (∀ j, j < k → K j < q)) (fun i => n - (intOf i).toNat)
  case atStart => exact ⟨0, Nat.zero_le _, rfl, fun j hj => absurd hj (Nat.not_lt_zero _)⟩
  case round =>
    obtain ⟨k, hk, rfl, HA⟩ := hrel
    by_cases hlt : k < n
    · rcases unhide H with h0 | ⟨b, o, rfl, hc⟩
      · omega
      · have hc0 : w.cell? ⟨b, o + k, none⟩ = some (.int .u32 (K k : Nat)) := hc k hlt
        by_cases hq : K k < q
        · have HN : Hid (∀ j, j < k + 1 → K j < q) := fun j hj => by
            by_cases e : j = k
            · subst e; exact hq
            · exact unhide HA j (by omega)
          clear hc
          generalize K k = x at hc0 hq
          have hq' : (x : Int) < (q : Int) := by omega
          go_wp2
          go_round
          case rel => exact ⟨k + 1, by omega, by go_num, HN⟩
          case measure => simp [intOf]; omega
        · have HF := hide (allB_false hlt hq)
          clear hc
          generalize K k = x at hc0 hq
          have hq' : ¬ (x : Int) < (q : Int) := by omega
          go_wp2
          go_ret
          exact ⟨by rw [unhide HF]; rfl, rfl⟩
    · have hk' : k = n := by omega
      subst hk'
      have HF := hide (allB_true (unhide HA))
      go_wp2
      go_ret
      exact ⟨by rw [unhide HF]; rfl, rfl⟩

set_option maxHeartbeats 400000 in
theorem sameWords_eq (a a' : Option Addr) (n c c' : Nat) (K : Nat → Nat) (w : World) (hn : n ≤ 2097152) (h : VRow w a n (fun j => .int .u32 (K j : Nat))) (h' : VRow w a' n (fun j => .int .u32 (K j : Nat))) :
    Calls Try.prog 15 #[.slice a n c, .slice a' n c'] w fun e w' => e = .returned (.bool true) ∧ ∃ m, w' = w.drewN m := by
  have H := hide h
  have H' := hide h'
  clear h h'
  go_enter Try.func15, Try.ntmps15
  go_wp2
  go_loopw [5] (fun i wr => ∃ k m : Nat, k ≤ n ∧ i = .int .i64 k ∧ wr = w.drewN m) (fun i _ => n - (intOf i).toNat)
  case atStart => exact ⟨0, 0, Nat.zero_le _, rfl, rfl⟩
  case round =>
    obtain ⟨k, m, hk, rfl, rfl⟩ := hrel
    by_cases hlt : k < n
    · rcases unhide H with h0 | ⟨b, o, rfl, hc⟩
      · omega
      · rcases unhide H' with h0 | ⟨b', o', rfl, hc'⟩
        · omega
        · have hc0 : (w.drewN m).cell? ⟨b, o + k, none⟩ = some (.int .u32 (K k : Nat)) := hc k hlt
          have hc1 : (w.drewN m).cell? ⟨b', o' + k, none⟩ = some (.int .u32 (K k : Nat)) := hc' k hlt
          have hlt' : (k : Int) < (n : Int) := by omega
          clear hc hc' H H'
          generalize K k = x at hc0 hc1
          generalize hW : w.drewN m = W at hc0 hc1 ⊢
          have HW := hide hW
          clear hW
          go_wp2
          go_quiet (fail)
          go_wp2
          go_roundw
          case rel => rw [← unhide HW]; exact ⟨k + 1, _, by omega, by go_num, World.drewN_drewN _ _ _⟩
          case measure => simp [intOf]; omega
    · have hk' : k = n := by omega
      subst hk'
      go_wp2
      go_ret
      exact ⟨rfl, m, rfl⟩

set_option maxHeartbeats 400000 in
theorem sameBytes_eq (a a' : Option Addr) (n c c' : Nat) (K : Nat → Nat) (w : World) (hn : n ≤ 2097152) (h : VRow w a n (fun j => .int .u8 (K j : Nat))) (h' : VRow w a' n (fun j => .int .u8 (K j : Nat))) :
    Calls Try.prog 16 #[.slice a n c, .slice a' n c'] w fun e w' => e = .returned (.bool true) ∧ ∃ m, w' = w.drewN m := by
  have H := hide h
  have H' := hide h'
  clear h h'
  go_enter Try.func16, Try.ntmps16
  go_wp2
  go_loopw [5] (fun i wr => ∃ k m : Nat, k ≤ n ∧ i = .int .i64 k ∧ wr = w.drewN m) (fun i _ => n - (intOf i).toNat)
  case atStart => exact ⟨0, 0, Nat.zero_le _, rfl, rfl⟩
  case round =>
    obtain ⟨k, m, hk, rfl, rfl⟩ := hrel
    by_cases hlt : k < n
    · rcases unhide H with h0 | ⟨b, o, rfl, hc⟩
      · omega
      · rcases unhide H' with h0 | ⟨b', o', rfl, hc'⟩
        · omega
        · have hc0 : (w.drewN m).cell? ⟨b, o + k, none⟩ = some (.int .u8 (K k : Nat)) := hc k hlt
          have hc1 : (w.drewN m).cell? ⟨b', o' + k, none⟩ = some (.int .u8 (K k : Nat)) := hc' k hlt
          have hlt' : (k : Int) < (n : Int) := by omega
          clear hc hc' H H'
          generalize K k = x at hc0 hc1
          generalize hW : w.drewN m = W at hc0 hc1 ⊢
          have HW := hide hW
          clear hW
          go_wp2
          go_quiet (fail)
          go_wp2
          go_roundw
          case rel => rw [← unhide HW]; exact ⟨k + 1, _, by omega, by go_num, World.drewN_drewN _ _ _⟩
          case measure => simp [intOf]; omega
    · have hk' : k = n := by omega
      subst hk'
      go_wp2
      go_ret
      exact ⟨rfl, m, rfl⟩

/-! ### zzBytes -/
def zz2 (n0 n1 : Nat) : Bool := decide (n0 + n1 ≤ 1048576)
def zz3 (n0 n1 n2 : Nat) : Bool := decide (n0 + n1 + n2 ≤ 1048576)

set_option maxHeartbeats 400000 in
theorem zz7_any (a0 a1 : Option Addr) (n0 c0 n1 c1 : Nat) (q : Int) (w : World) (hm0 : n0 ≤ maxLen) (hm1 : n1 ≤ maxLen) :
    Calls Try.prog 7 #[.slice a0 n0 c0, .slice a1 n1 c1, .int .u32 q] w fun e w' => e = .returned (.bool (zz2 n0 n1)) ∧ w = w' := by
  have e : maxLen = 9223372036854775807 := rfl
  rw [e] at hm0 hm1
  clear e
  by_cases h0 : n0 ≤ 1048576
  · by_cases h1 : n1 ≤ 1048576
    · by_cases h2 : n0 + n1 ≤ 1048576
      · (have HF : Hid (zz2 n0 n1 = true) := decide_eq_true (by omega)
         have i2 : (n0 : Int) + (n1 : Int) ≤ 1048576 := by omega
         go_enter Try.func7, Try.ntmps7
         go_wp2
         go_ret
         exact ⟨by rw [unhide HF]; rfl, rfl⟩)
      · (have HF : Hid (zz2 n0 n1 = false) := decide_eq_false (by omega)
         have i2 : ¬ (n0 : Int) + (n1 : Int) ≤ 1048576 := by omega
         go_enter Try.func7, Try.ntmps7
         go_wp2
         go_ret
         exact ⟨by rw [unhide HF]; rfl, rfl⟩)
    · (have HF : Hid (zz2 n0 n1 = false) := decide_eq_false (by omega)
       go_enter Try.func7, Try.ntmps7
       go_wp2
       go_ret
       exact ⟨by rw [unhide HF]; rfl, rfl⟩)
  · (have HF : Hid (zz2 n0 n1 = false) := decide_eq_false (by omega)
     go_enter Try.func7, Try.ntmps7
     go_wp2
     go_ret
     exact ⟨by rw [unhide HF]; rfl, rfl⟩)

set_option maxHeartbeats 400000 in
theorem zz17_any (a0 a1 : Option Addr) (n0 c0 n1 c1 : Nat) (w : World) (hm0 : n0 ≤ maxLen) (hm1 : n1 ≤ maxLen) :
    Calls Try.prog 17 #[.slice a0 n0 c0, .slice a1 n1 c1] w fun e w' => e = .returned (.bool (zz2 n0 n1)) ∧ w = w' := by
  have e : maxLen = 9223372036854775807 := rfl
  rw [e] at hm0 hm1
  clear e
  by_cases h0 : n0 ≤ 1048576
  · by_cases h1 : n1 ≤ 1048576
    · by_cases h2 : n0 + n1 ≤ 1048576
      · (have HF : Hid (zz2 n0 n1 = true) := decide_eq_true (by omega)
         have i2 : (n0 : Int) + (n1 : Int) ≤ 1048576 := by omega
         go_enter Try.func17, Try.ntmps17
         go_wp2
         go_ret
         exact ⟨by rw [unhide HF]; rfl, rfl⟩)
      · (have HF : Hid (zz2 n0 n1 = false) := decide_eq_false (by omega)
         have i2 : ¬ (n0 : Int) + (n1 : Int) ≤ 1048576 := by omega
         go_enter Try.func17, Try.ntmps17
         go_wp2
         go_ret
         exact ⟨by rw [unhide HF]; rfl, rfl⟩)
    · (have HF : Hid (zz2 n0 n1 = false) := decide_eq_false (by omega)
       go_enter Try.func17, Try.ntmps17
       go_wp2
       go_ret
       exact ⟨by rw [unhide HF]; rfl, rfl⟩)
  · (have HF : Hid (zz2 n0 n1 = false) := decide_eq_false (by omega)
     go_enter Try.func17, Try.ntmps17
     go_wp2
     go_ret
     exact ⟨by rw [unhide HF]; rfl, rfl⟩)

/-! ### ZZEncode -/
set_option maxHeartbeats 400000 in
theorem zzEncode_any (vo0 : Value) (O0 : List Nat) (gv cv : Nat) (V : List Nat) (m : Nat) (w : World) (h1 : 1 ≤ V.length) (h2 : V.length ≤ 65536) (hO : O0.length ≤ 1048576) (hm : OkM m) (hV : ∀ x, x ∈ V → x < m)
    (hf : Fam w [⟨5, vo0, c8 O0⟩, ⟨24, .slice (some ⟨gv, 0, none⟩) V.length cv, c32 V⟩]) :
    Calls Try.prog 11 #[vo0, .slice (some ⟨gv, 0, none⟩) V.length cv, .int .u32 m] w (EPost w vo0 (O0 ++ enc 16 V (List.replicate V.length m))) := by
  have hc := encode_any vo0 O0 gv cv V m w h1 h2 hO hm hV hf
  generalize O0 ++ enc 16 V (List.replicate V.length m) = R at hc ⊢
  have HC := hide hc
  clear hc hf hV
  go_enter Try.func11, Try.ntmps11
  go_wp2_with fail
  refine (unhide HC).mono ?_
  rintro e w' ⟨vo, rfl, hp⟩
  have HP := hide hp
  clear hp HC
  go_wp2
  go_ret
  exact ⟨vo, rfl, unhide HP⟩

end Go.Proofs.Qxb6603826a
