/- FnApplyWritesSpec: buildObjects, addWrites, buildWrites. -/
import Derived.Test.Qxb6603717aAwRead
import Derived.Test.Qxb6603717aAwMap
import Derived.Deep.RegionWith
namespace Go.Proofs.Qxb6603717a.Aw
open Go.RowKit
set_option linter.unusedVariables false

theorem law : Maps.Keyed Try.prog 9 := Maps.string_keyed Try.underlying9

/-- What has been built after k rounds. -/
def ObjIn (w wr : World) (K1 : Nat → ByteArray) (V1 : Nat → Hd) (m1 k : Nat) : Prop :=
  ∃ D, wr.ownsMap Try.prog 9 R1 w.heap.size k D ∧ Reads D (objF K1 V1 m1 k) ∧ Below w.heap.size w wr

theorem ObjIn.start (w : World) (K1 : Nat → ByteArray) (V1 : Nat → Hd) (m1 : Nat) : ObjIn w (w.alloc (.map #[] 0)) K1 V1 m1 0 :=
  ⟨_, World.ownsMap_made _ _ _ _, Reads.empty, (Below.refl _ _).alloc (Nat.le_refl _) _⟩

theorem ObjIn.step {w wr : World} {K1 : Nat → ByteArray} {V1 : Nat → Hd} {m1 k : Nat} (h : ObjIn w wr K1 V1 m1 k) (hk : k < maxLen) (hs : (K1 k).size ≤ maxLen) :
    ∃ w1, (Instr.mapUpdate 35 (.map (some w.heap.size)) (.string (K1 k)) (valOf V1 m1 k).val).run Try.prog wr.drew = .ok () w1 ∧ ObjIn w w1 K1 V1 m1 (k + 1) := by
  obtain ⟨D, h1, h2, h3⟩ := h
  obtain ⟨w1, hr, h4, h5⟩ := h1.drew.update law Try.underlying35 hk (WideMaps.keyOf_string_mk Try.underlying9 hs) (R1_mk (valOf V1 m1 k))
  refine ⟨w1, hr, _, h4, ?_, h3.drew.grown h5 h3.size (fun j hj => by cases hj; exact Nat.le_refl _)⟩
  refine h2.put h1.isMap (K1 k) _ ?_ (fun t ht => ?_)
  · simp [objF, lastI_same]
  · simp [objF, lastI_other K1 k t ht]

set_option maxHeartbeats 800000 in
theorem buildObjects_any (a1 : Option Addr) (n1 c1 : Nat) (a2 : Option Addr) (m1 c2 : Nat) (K1 : Nat → ByteArray) (V1 : Nat → Hd) (w : World) (hn1 : n1 ≤ 1048576) (hm1 : m1 ≤ 1048576)
    (hs : ∀ j, j < n1 → (K1 j).size ≤ maxLen) (h1 : VRow w a1 n1 (fun j => .string (K1 j))) (h2 : VRow w a2 m1 (fun j => (V1 j).val)) :
    Calls Try.prog 15 #[.slice a1 n1 c1, .slice a2 m1 c2] w fun e w' => e = .returned (.map (some w.heap.size)) ∧ ObjIn w w' K1 V1 m1 n1 := by
  have hmm := fun (n : Nat) (w : World) => run_makeMap_hint (P := Try.prog) Try.underlying35 n w
  have H1 := hide h1
  have H2 := hide h2
  have HS := hide hs
  clear h1 h2 hs
  go_enter Try.func15, Try.ntmps15
  go_wp2
  go_loopw [6] (fun i wr => ∃ k : Nat, k ≤ n1 ∧ i = .int .i64 k ∧ Hid (ObjIn w wr K1 V1 m1 k)) (fun i _ => n1 - (intOf i).toNat)
  case atStart => exact ⟨0, Nat.zero_le _, rfl, ObjIn.start w K1 V1 m1⟩
  case round =>
    obtain ⟨k, hk, rfl, HF⟩ := hrel
    clear hmm
    by_cases hlt : k < n1
    · have hb : Below w.heap.size w wr := by obtain ⟨D, _, _, h3⟩ := unhide HF; exact h3
      obtain ⟨b, o, hab, hcell⟩ : ∃ b o, a1 = some ⟨b, o, none⟩ ∧ wr.cell? ⟨b, o + k, none⟩ = some (.string (K1 k)) := by
        rcases (unhide H1).below hb with h | ⟨b, o, h, hc⟩
        · omega
        · exact ⟨b, o, h, hc k hlt⟩
      obtain ⟨w1, hrun, hnew⟩ := (unhide HF).step (by simp [maxLen]; omega) (unhide HS k hlt)
      have hv : VRow wr.drew a2 m1 (fun j => (V1 j).val) := (unhide H2).below hb.drew
      have HV := hide hv
      clear hv
      have HN := hide hnew
      clear hb hnew H1
      generalize K1 k = s at hcell hrun
      generalize hx : valOf V1 m1 k = x at hrun
      have HX := hide hx
      clear hx
      obtain ⟨xa, xn, xc⟩ := x
      simp only [Hd.val] at hrun
      subst hab
      have hlt' : (k : Int) < (n1 : Int) := by omega
      go_wp2_with fail
      go_region_with (go_at_call 22; refine (valAt_any a2 m1 c2 k V1 wr.drew (by omega) (by omega) (unhide HV)).mono ?_; rintro e w' ⟨rfl, rfl⟩; rw [unhide HX]; simp only [Hd.val])
      all_goals
        go_wp2
        go_roundw
        case rel => exact ⟨k + 1, by omega, by go_num, HN⟩
        case measure => simp [intOf]; omega
    · have hk' : k = n1 := by omega
      subst hk'
      go_wp2
      go_ret
      exact ⟨rfl, unhide HF⟩

/-- The writes built after k rounds. -/
def WrIn (w wr : World) (K2 : Nat → ByteArray) (V2 : Nat → Hd) (m2 : Nat) (B2 : Nat → Bool) (p2 k : Nat) : Prop :=
  ∃ D, wr.ownsMap Try.prog 9 R2 w.heap.size k D ∧ Reads D (wrF K2 V2 m2 B2 p2 k) ∧ Below w.heap.size w wr

theorem WrIn.start (w : World) (K2 : Nat → ByteArray) (V2 : Nat → Hd) (m2 : Nat) (B2 : Nat → Bool) (p2 : Nat) : WrIn w (w.alloc (.map #[] 0)) K2 V2 m2 B2 p2 0 :=
  ⟨_, World.ownsMap_made _ _ _ _, Reads.empty, (Below.refl _ _).alloc (Nat.le_refl _) _⟩

theorem WrIn.step {w wr : World} {K2 : Nat → ByteArray} {V2 : Nat → Hd} {m2 : Nat} {B2 : Nat → Bool} {p2 k : Nat} (h : WrIn w wr K2 V2 m2 B2 p2 k) (hk : k < maxLen) (hs : (K2 k).size ≤ maxLen) (o : Obj) :
    ∃ w1, (Instr.mapUpdate 37 (.map (some w.heap.size)) (.string (K2 k)) (wval (valOf V2 m2 k) (boolOf B2 p2 k))).run Try.prog (wr.alloc o).drew = .ok () w1 ∧ WrIn w w1 K2 V2 m2 B2 p2 (k + 1) := by
  obtain ⟨D, h1, h2, h3⟩ := h
  obtain ⟨w1, hr, h4, h5⟩ := (h1.alloc o).drew.update law Try.underlying37 hk (WideMaps.keyOf_string_mk Try.underlying9 hs) (R2_mk (valOf V2 m2 k) (boolOf B2 p2 k))
  have h6 : Below w.heap.size w (wr.alloc o).drew := (h3.alloc h3.size o).drew
  refine ⟨w1, hr, _, h4, ?_, h6.grown h5 h6.size (fun j hj => by cases hj; exact Nat.le_refl _)⟩
  refine h2.put h1.isMap (K2 k) _ ?_ (fun t ht => ?_)
  · simp [wrF, lastI_same]
  · simp [wrF, lastI_other K2 k t ht]

set_option maxHeartbeats 400000 in
theorem makeWrite_any (a : Option Addr) (n c : Nat) (b : Bool) (w : World) :
    Calls Try.prog 28 #[.slice a n c, .bool b] w fun e w' => e = .returned (.agg #[.slice a n c, .bool b]) ∧ w.alloc (.cells #[.slice a n c, .bool b] 49) = w' := by
  go_enter Try.func28, Try.ntmps28
  go_wp2
  exact bodyPost_ret (v := .agg #[.slice a n c, .bool b]) (by simp [results, Try.results28, go_sem]) rfl ⟨rfl, rfl⟩

set_option maxHeartbeats 800000 in
theorem addWrites_any (a1 : Option Addr) (n1 c1 : Nat) (a2 : Option Addr) (m2 c2 : Nat) (a3 : Option Addr) (p2 c3 : Nat) (K2 : Nat → ByteArray) (V2 : Nat → Hd) (B2 : Nat → Bool) (w w0 : World) (hn1 : n1 ≤ 1048576) (hm2 : m2 ≤ 1048576) (hp2 : p2 ≤ 1048576)
    (hs : ∀ j, j < n1 → (K2 j).size ≤ maxLen) (h1 : VRow w a1 n1 (fun j => .string (K2 j))) (h2 : VRow w a2 m2 (fun j => (V2 j).val)) (h3 : VRow w a3 p2 (fun j => .bool (B2 j))) (h0 : WrIn w w0 K2 V2 m2 B2 p2 0) :
    Calls Try.prog 26 #[.map (some w.heap.size), .slice a1 n1 c1, .slice a2 m2 c2, .slice a3 p2 c3] w0 fun e w' => e = .returned (.tuple #[]) ∧ WrIn w w' K2 V2 m2 B2 p2 n1 := by
  have H0 := hide h0
  have H1 := hide h1
  have H2 := hide h2
  have H3 := hide h3
  have HS := hide hs
  clear h0 h1 h2 h3 hs
  go_enter Try.func26, Try.ntmps26
  go_wp2
  go_loopw [8] (fun i wr => ∃ k : Nat, k ≤ n1 ∧ i = .int .i64 k ∧ Hid (WrIn w wr K2 V2 m2 B2 p2 k)) (fun i _ => n1 - (intOf i).toNat)
  case atStart => exact ⟨0, Nat.zero_le _, rfl, H0⟩
  case round =>
    obtain ⟨k, hk, rfl, HF⟩ := hrel
    clear H0
    by_cases hlt : k < n1
    · have hb : Below w.heap.size w wr := by obtain ⟨D, _, _, h3⟩ := unhide HF; exact h3
      obtain ⟨b, o, hab, hcell⟩ : ∃ b o, a1 = some ⟨b, o, none⟩ ∧ wr.cell? ⟨b, o + k, none⟩ = some (.string (K2 k)) := by
        rcases (unhide H1).below hb with h | ⟨b, o, h, hc⟩
        · omega
        · exact ⟨b, o, h, hc k hlt⟩
      have hstep := (unhide HF).step (by simp [maxLen]; omega) (unhide HS k hlt) (.cells #[(valOf V2 m2 k).val, .bool (boolOf B2 p2 k)] 49)
      obtain ⟨w1, hrun, hnew⟩ := hstep
      have hv : VRow wr.drew a2 m2 (fun j => (V2 j).val) := (unhide H2).below hb.drew
      have HV := hide hv
      have hv3 : VRow wr.drew a3 p2 (fun j => .bool (B2 j)) := (unhide H3).below hb.drew
      have HB := hide hv3
      have HN := hide hnew
      have hc2 : ∀ ob, (wr.alloc ob).cell? ⟨b, o + k, none⟩ = some (.string (K2 k)) := fun ob => by
        rw [World.cell?_of_block (w := wr)]
        · exact hcell
        · exact Below.heap_alloc _ _ _ (World.block_lt_of_cell? wr _ hcell)
      clear hv hv3 hb hnew H1
      generalize K2 k = s at hcell hrun hc2
      generalize hx : valOf V2 m2 k = x at hrun
      generalize hy : boolOf B2 p2 k = y at hrun
      have HX := hide hx
      have HY := hide hy
      clear hx hy
      obtain ⟨xa, xn, xc⟩ := x
      simp only [Hd.val, wval] at hrun
      subst hab
      have hlt' : (k : Int) < (n1 : Int) := by omega
      go_wp2_with fail
      go_region_with (first | (go_at_call 22; refine (valAt_any a2 m2 c2 k V2 wr.drew (by omega) (by omega) (unhide HV)).mono ?_; rintro e w' ⟨rfl, rfl⟩; rw [unhide HX]; simp only [Hd.val]) | (go_at_call 21; refine (boolAt_any a3 p2 c3 k B2 wr.drew (by omega) (by omega) (unhide HB)).mono ?_; rintro e w' ⟨rfl, rfl⟩; rw [unhide HY]) | (go_at_call 28; refine (makeWrite_any xa xn xc y _).mono ?_; rintro e w' ⟨rfl, rfl⟩))
      all_goals
        go_wp2
        go_roundw
        case rel => exact ⟨k + 1, by omega, by go_num, HN⟩
        case measure => simp [intOf]; omega
    · have hk' : k = n1 := by omega
      subst hk'
      go_wp2
      go_end0
      exact ⟨rfl, unhide HF⟩

set_option maxHeartbeats 400000 in
theorem buildWrites_any (a1 : Option Addr) (n1 c1 : Nat) (a2 : Option Addr) (m2 c2 : Nat) (a3 : Option Addr) (p2 c3 : Nat) (K2 : Nat → ByteArray) (V2 : Nat → Hd) (B2 : Nat → Bool) (w : World) (hn1 : n1 ≤ 1048576) (hm2 : m2 ≤ 1048576) (hp2 : p2 ≤ 1048576)
    (hs : ∀ j, j < n1 → (K2 j).size ≤ maxLen) (h1 : VRow w a1 n1 (fun j => .string (K2 j))) (h2 : VRow w a2 m2 (fun j => (V2 j).val)) (h3 : VRow w a3 p2 (fun j => .bool (B2 j))) :
    Calls Try.prog 16 #[.slice a1 n1 c1, .slice a2 m2 c2, .slice a3 p2 c3] w fun e w' => e = .returned (.map (some w.heap.size)) ∧ WrIn w w' K2 V2 m2 B2 p2 n1 := by
  have hmm := fun (n : Nat) (w : World) => run_makeMap_hint (P := Try.prog) Try.underlying37 n w
  have H := hide (addWrites_any a1 n1 c1 a2 m2 c2 a3 p2 c3 K2 V2 B2 w _ hn1 hm2 hp2 hs h1 h2 h3 (WrIn.start w K2 V2 m2 B2 p2))
  clear hs h1 h2 h3
  go_enter Try.func16, Try.ntmps16
  go_wp2_with (go_at_call 26; refine (unhide H).mono ?_; rintro e w' ⟨rfl, hnew⟩)
  go_ret
  exact ⟨rfl, hnew⟩

end Go.Proofs.Qxb6603717a.Aw
