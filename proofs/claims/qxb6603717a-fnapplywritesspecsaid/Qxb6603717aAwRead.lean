/- FnApplyWritesSpec: the functions that only read: valAt, boolAt, keyAt, seenBefore, lastIndex, sameSlice. -/
import Derived.Test.Qxb6603717aProg
import Derived.Test.Qxb6603717aAwBase
import Derived.Test.Qxb6603717aEq
namespace Go.Proofs.Qxb6603717a.Aw
open Go.RowKit
set_option linter.unusedVariables false

set_option maxHeartbeats 400000 in
theorem valAt_out (ao : Option Addr) (n c i : Nat) (w : World) (hi : n ≤ i) (hn : i ≤ 2097152) :
    Calls Try.prog 22 #[.slice ao n c, .int .i64 i] w fun e w' => e = .returned (.slice none 0 0) ∧ w = w' := by
  go_enter Try.func22, Try.ntmps22
  go_wp2
  go_ret
  exact ⟨rfl, rfl⟩

set_option maxHeartbeats 400000 in
theorem valAt_in (b o n c i : Nat) (x : Option Addr) (y z : Nat) (w : World) (hi : i < n) (hn : n ≤ 2097152) (hc : w.cell? ⟨b, o + i, none⟩ = some (.slice x y z)) :
    Calls Try.prog 22 #[.slice (some ⟨b, o, none⟩) n c, .int .i64 i] w fun e w' => e = .returned (.slice x y z) ∧ w = w' := by
  go_enter Try.func22, Try.ntmps22
  go_wp2
  go_ret
  exact ⟨rfl, rfl⟩

theorem valAt_any (ao : Option Addr) (n c i : Nat) (V : Nat → Hd) (w : World) (hn : n ≤ 2097152) (hi : i ≤ 2097152) (h : VRow w ao n (fun j => (V j).val)) :
    Calls Try.prog 22 #[.slice ao n c, .int .i64 i] w fun e w' => e = .returned (valOf V n i).val ∧ w = w' := by
  by_cases hlt : i < n
  · rcases h with h | ⟨b, o, rfl, hc⟩
    · omega
    · exact (valAt_in b o n c i _ _ _ w hlt hn (hc i hlt)).mono fun e w' ⟨h1, h2⟩ => ⟨by simp [valOf, hlt, h1, Hd.val], h2⟩
  · exact (valAt_out ao n c i w (by omega) hi).mono fun e w' ⟨h1, h2⟩ => ⟨by simp [valOf, hlt, h1, Hd.val, Hd.nil], h2⟩

set_option maxHeartbeats 400000 in
theorem boolAt_out (ao : Option Addr) (n c i : Nat) (w : World) (hi : n ≤ i) (hn : i ≤ 2097152) :
    Calls Try.prog 21 #[.slice ao n c, .int .i64 i] w fun e w' => e = .returned (.bool false) ∧ w = w' := by
  go_enter Try.func21, Try.ntmps21
  go_wp2
  go_ret
  exact ⟨rfl, rfl⟩

set_option maxHeartbeats 400000 in
theorem boolAt_in (b o n c i : Nat) (x : Bool) (w : World) (hi : i < n) (hn : n ≤ 2097152) (hc : w.cell? ⟨b, o + i, none⟩ = some (.bool x)) :
    Calls Try.prog 21 #[.slice (some ⟨b, o, none⟩) n c, .int .i64 i] w fun e w' => e = .returned (.bool x) ∧ w = w' := by
  go_enter Try.func21, Try.ntmps21
  go_wp2
  go_ret
  exact ⟨rfl, rfl⟩

theorem boolAt_any (ao : Option Addr) (n c i : Nat) (D : Nat → Bool) (w : World) (hn : n ≤ 2097152) (hi : i ≤ 2097152) (h : VRow w ao n (fun j => .bool (D j))) :
    Calls Try.prog 21 #[.slice ao n c, .int .i64 i] w fun e w' => e = .returned (.bool (boolOf D n i)) ∧ w = w' := by
  by_cases hlt : i < n
  · rcases h with h | ⟨b, o, rfl, hc⟩
    · omega
    · exact (boolAt_in b o n c i _ w hlt hn (hc i hlt)).mono fun e w' ⟨h1, h2⟩ => ⟨by simp [boolOf, hlt, h1], h2⟩
  · exact (boolAt_out ao n c i w (by omega) hi).mono fun e w' ⟨h1, h2⟩ => ⟨by simp [boolOf, hlt, h1], h2⟩

set_option maxHeartbeats 400000 in
theorem keyAt_fst (b o n c : Nat) (a2 : Option Addr) (n2 c2 i : Nat) (x : ByteArray) (w : World) (hi : i < n) (hn : n ≤ 2097152) (hc : w.cell? ⟨b, o + i, none⟩ = some (.string x)) :
    Calls Try.prog 18 #[.slice (some ⟨b, o, none⟩) n c, .slice a2 n2 c2, .int .i64 i] w fun e w' => e = .returned (.string x) ∧ w = w' := by
  go_enter Try.func18, Try.ntmps18
  go_wp2
  go_ret
  exact ⟨rfl, rfl⟩

set_option maxHeartbeats 400000 in
theorem keyAt_snd (a1 : Option Addr) (n1 c1 b o n c i : Nat) (x : ByteArray) (w : World) (hi : i < n) (hn1 : n1 ≤ 2097152) (hn : n ≤ 2097152) (hc : w.cell? ⟨b, o + i, none⟩ = some (.string x)) :
    Calls Try.prog 18 #[.slice a1 n1 c1, .slice (some ⟨b, o, none⟩) n c, .int .i64 ((n1 + i : Nat) : Int)] w fun e w' => e = .returned (.string x) ∧ w = w' := by
  have e1 : ((n1 + i : Nat) : Int) - (n1 : Int) = (i : Int) := by omega
  go_enter Try.func18, Try.ntmps18
  go_wp2
  go_ret
  exact ⟨rfl, rfl⟩

theorem keyAt_any (a1 : Option Addr) (n1 c1 : Nat) (a2 : Option Addr) (n2 c2 i : Nat) (K1 K2 : Nat → ByteArray) (w : World) (hn1 : n1 ≤ 2097152) (hn2 : n2 ≤ 2097152) (hi : i < n1 + n2)
    (h1 : VRow w a1 n1 (fun j => .string (K1 j))) (h2 : VRow w a2 n2 (fun j => .string (K2 j))) :
    Calls Try.prog 18 #[.slice a1 n1 c1, .slice a2 n2 c2, .int .i64 i] w fun e w' => e = .returned (.string (keyOf2 K1 n1 K2 i)) ∧ w = w' := by
  by_cases hlt : i < n1
  · rcases h1 with h | ⟨b, o, rfl, hc⟩
    · omega
    · exact (keyAt_fst b o n1 c1 a2 n2 c2 i _ w hlt hn1 (hc i hlt)).mono fun e w' ⟨h1, h2⟩ => ⟨by simp [keyOf2, hlt, h1], h2⟩
  · rcases h2 with h | ⟨b, o, rfl, hc⟩
    · omega
    · obtain ⟨m, rfl⟩ := Nat.exists_eq_add_of_le (Nat.le_of_not_lt hlt)
      have := keyAt_snd a1 n1 c1 b o n2 c2 m _ w (by omega) hn1 hn2 (hc m (by omega))
      exact this.mono fun e w' ⟨h1, h2⟩ => ⟨by rw [h1, keyOf2, if_neg hlt, Nat.add_sub_cancel_left], h2⟩


theorem seenB_of_lt (K : Nat → ByteArray) (k : ByteArray) {m : Nat} (he : ((K m).toList == k.toList) = true) : ∀ i, m < i → seenB K i k = true
  | 0, h => absurd h (Nat.not_lt_zero _)
  | i + 1, h => by
    by_cases e : m = i
    · subst e
      rw [seenB, he, Bool.or_true]
    · rw [seenB, seenB_of_lt K k he i (by omega), Bool.true_or]

set_option maxHeartbeats 800000 in
theorem seenBefore_any (a1 : Option Addr) (n1 c1 : Nat) (a2 : Option Addr) (n2 c2 i : Nat) (k : ByteArray) (K1 K2 : Nat → ByteArray) (w : World) (hn1 : n1 ≤ 1048576) (hn2 : n2 ≤ 1048576) (hi : i < n1 + n2)
    (h1 : VRow w a1 n1 (fun j => .string (K1 j))) (h2 : VRow w a2 n2 (fun j => .string (K2 j))) :
    Calls Try.prog 19 #[.slice a1 n1 c1, .slice a2 n2 c2, .int .i64 i, .string k] w fun e w' => e = .returned (.bool (seenB (keyOf2 K1 n1 K2) i k)) ∧ w = w' := by
  have H1 : Hid (VRow w a1 n1 (fun j => .string (K1 j))) := h1
  have H2 : Hid (VRow w a2 n2 (fun j => .string (K2 j))) := h2
  clear h1 h2
  go_enter Try.func19, Try.ntmps19
  go_wp2
  go_loop [9] (fun j => ∃ m : Nat, m ≤ i ∧ j = .int .i64 m ∧ Hid (seenB (keyOf2 K1 n1 K2) m k = false)) (fun j => i - (intOf j).toNat)
  case atStart => exact ⟨0, Nat.zero_le _, rfl, rfl⟩
  case round =>
    obtain ⟨m, hm, rfl, HS⟩ := hrel
    by_cases hlt : m < i
    · generalize hx : keyOf2 K1 n1 K2 m = x
      have HX : Hid (keyOf2 K1 n1 K2 m = x) := hx
      clear hx
      by_cases he : (x.toList == k.toList) = true
      · have hs : seenB (keyOf2 K1 n1 K2) i k = true := seenB_of_lt _ k (by rw [HX.out]; exact he) i hlt
        have HT : Hid (seenB (keyOf2 K1 n1 K2) i k = true) := hs
        clear hs
        go_wp2_with (go_at_call 18; refine (keyAt_any a1 n1 c1 a2 n2 c2 m K1 K2 _ (by omega) (by omega) (by omega) H1.out H2.out).mono ?_; rintro e w' ⟨rfl, rfl⟩; rw [HX.out])
        go_ret
        exact ⟨by rw [HT.out]; rfl, rfl⟩
      · have he' : (x.toList == k.toList) = false := by simpa using he
        clear he
        go_wp2_with (go_at_call 18; refine (keyAt_any a1 n1 c1 a2 n2 c2 m K1 K2 _ (by omega) (by omega) (by omega) H1.out H2.out).mono ?_; rintro e w' ⟨rfl, rfl⟩; rw [HX.out])
        go_round
        case rel => exact ⟨m + 1, by omega, by go_num, by show seenB _ (m + 1) k = false; rw [seenB, HS.out, HX.out, he']; rfl⟩
        case measure => simp [intOf]; omega
    · have hm' : m = i := by omega
      subst hm'
      go_wp2
      go_ret
      exact ⟨by rw [HS.out]; rfl, rfl⟩

set_option maxHeartbeats 800000 in
theorem lastIndex_any (ao : Option Addr) (n c : Nat) (k : ByteArray) (K : Nat → ByteArray) (w : World) (hn : n ≤ 1048576) (h : VRow w ao n (fun j => .string (K j))) :
    Calls Try.prog 20 #[.slice ao n c, .string k] w fun e w' => e = .returned (.int .i64 (idx (lastI K n k))) ∧ w = w' := by
  have H1 : Hid (VRow w ao n (fun j => .string (K j))) := h
  clear h
  go_enter Try.func20, Try.ntmps20
  go_wp2
  go_loop [5] (fun j => ∃ m : Nat, m ≤ n ∧ j = .int .i64 ((m : Int) - 1) ∧ Hid (lastI K n k = lastI K m k)) (fun j => (intOf j + 1).toNat)
  case atStart => exact ⟨n, Nat.le_refl _, rfl, rfl⟩
  case round =>
    obtain ⟨m, hm, rfl, HS⟩ := hrel
    cases m with
    | zero =>
      go_wp2
      go_ret
      exact ⟨by rw [HS.out]; rfl, rfl⟩
    | succ m =>
      obtain ⟨b, o, hab, hcell⟩ : ∃ b o, ao = some ⟨b, o, none⟩ ∧ w.cell? ⟨b, o + m, none⟩ = some (.string (K m)) := by
        rcases H1.out with h | ⟨b, o, h, hc⟩
        · omega
        · exact ⟨b, o, h, hc m (by omega)⟩
      subst hab
      have e1 : (((m + 1 : Nat) : Int) - 1) = (m : Int) := by omega
      rw [e1]
      have HK : Hid (lastI K (m + 1) k = if ((K m).toList == k.toList) = true then some m else lastI K m k) := rfl
      generalize K m = x at hcell HK
      by_cases he : (x.toList == k.toList) = true
      · have HR : Hid (lastI K n k = some m) := by
          show lastI K n k = some m
          rw [HS.out, HK.out, if_pos he]
        go_wp2
        go_ret
        exact ⟨by rw [HR.out]; rfl, rfl⟩
      · have he' : (x.toList == k.toList) = false := by simpa using he
        have HR : Hid (lastI K n k = lastI K m k) := by
          show lastI K n k = _
          rw [HS.out, HK.out, if_neg he]
        clear he
        go_wp2
        go_round
        case rel => exact ⟨m, by omega, by go_num, HR⟩
        case measure => simp [intOf]

theorem equalBytes_self (h : Hd) (lo : Nat) (w : World) (g : Good lo w h) : Calls Try.prog 8 #[.slice h.a h.n h.c, .slice h.a h.n h.c] w fun e w' => e = .returned (.bool true) ∧ ∃ m, w' = w.drewN m := by
  obtain ⟨h1, h2, Z, h3⟩ := g
  obtain ⟨a, n, c⟩ := h
  rcases h3 with h3 | ⟨b, o, hl, h3, hc⟩
  · simp only at h3
    subst h3
    exact (equalBytes_nil a a c c w).mono fun e w' ⟨h1, h2⟩ => ⟨h1, 0, h2⟩
  · simp only at h1 h3 hc ⊢
    subst h3
    have := equalBytes_pos ((List.range n).map Z) ((List.range n).map Z) n b o b o c c w (by simp) (by omega) (by simp) (fun j hj => by rw [hc j hj]; simp [List.getD, hj]) (fun j hj => by rw [hc j hj]; simp [List.getD, hj])
    exact this.mono fun e w' ⟨h1, h2⟩ => ⟨by simpa using h1, h2⟩

set_option maxHeartbeats 400000 in
theorem sameSlice_self (h : Hd) (lo : Nat) (w : World) (g : Good lo w h) :
    Calls Try.prog 23 #[h.val, h.val] w fun e w' => e = .returned (.bool true) ∧ ∃ m, w' = w.drewN m := by
  have H := hide (equalBytes_self h lo w g)
  have h2 := g.2.1
  clear g
  obtain ⟨a, n, c⟩ := h
  simp only [Hd.val]
  have hnil := fun (a : Option Addr) (n c : Nat) (w : World) => Lib.run_eql_slice_nil (P := Try.prog) w 23 5 a n c 0 0 Try.underlying23
  cases a with
  | none =>
    clear h2
    go_enter Try.func23, Try.ntmps23
    go_wp2_with (go_at_call 8; refine (unhide H).mono ?_; rintro e w' ⟨rfl, m, rfl⟩)
    go_ret
    exact ⟨rfl, m, rfl⟩
  | some x =>
    clear h2
    go_enter Try.func23, Try.ntmps23
    go_wp2_with (go_at_call 8; refine (unhide H).mono ?_; rintro e w' ⟨rfl, m, rfl⟩)
    go_ret
    exact ⟨rfl, m, rfl⟩

end Go.Proofs.Qxb6603717a.Aw
