import Derived.Test.Qxb6600738aDoorKeys
import Derived.Deep.RegionWith
/-! ZZKeysAdd, the readers of a Keys, zzLowMask, zzBuild. -/
namespace Go.Proofs.Qxb6600738aDoor
open Go.RowKit

theorem ret_u64 {a b : Int} (h : a = b) : Ending.returned (.int .u64 a) = .returned (.int .u64 b) := by rw [h]

set_option maxHeartbeats 400000 in
theorem zzadd_walk (ao : Option Addr) (n c : Nat) (r o r' : Nat) (L : List ByteArray) (s : ByteArray) (req : Bool) (w : World)
    (hadd : ∀ wx, Below w.heap.size w wx → Calls Tryd.prog 38 #[keysV (.slice ao n c) r o, .string s, .bool req] wx (Added wx L s r' o n)) :
    Calls Tryd.prog 22 #[keysV (.slice ao n c) r o, .string s, .bool req] w (Added w L s r' o n) := by
  go_enter Tryd.func22, Tryd.ntmps22
  go_wp2_with fail
  refine (hadd _ (((Below.refl _ _).alloc (Nat.le_refl _) _).alloc (by simp) _)).mono ?_
  rintro e w1 ⟨⟨g, c1, rfl, hg, hs1⟩, hb1⟩
  have hsz : w.heap.size + 2 ≤ w1.heap.size := by have := hb1.size; simp at this; omega
  have g0 : w1.cell? ⟨w.heap.size + 1, 0, none⟩ = some (.slice none 0 0) := (hb1.cell (by simp)).trans (by go_simp)
  have g1 : w1.cell? ⟨w.heap.size + 1, 1, none⟩ = some (.int .u64 0) := (hb1.cell (by simp)).trans (by go_simp)
  have g2 : w1.cell? ⟨w.heap.size + 1, 2, none⟩ = some (.int .u64 0) := (hb1.cell (by simp)).trans (by go_simp)
  have g3 : w1.frozen? ⟨w.heap.size + 1, 0, none⟩ = false := (hb1.frozen (by simp)).trans (by go_simp)
  have g4 : w1.frozen? ⟨w.heap.size + 1, 1, none⟩ = false := (hb1.frozen (by simp)).trans (by go_simp)
  have g5 : w1.frozen? ⟨w.heap.size + 1, 2, none⟩ = false := (hb1.frozen (by simp)).trans (by go_simp)
  have hgs : w.heap.size + 2 ≤ g := by simp at hg; omega
  have HS : Hid (Ss w1 (.slice (some ⟨g, 0, none⟩) (n + 1) c1) (L ++ [s])) := hs1
  have hbw : Below w.heap.size w w1 := below2 (((Below.refl _ _).alloc (Nat.le_refl _) _).alloc (by simp) _) hb1
  clear hs1 hb1 hg hadd
  go_wp2_with fail
  refine bodyPost_ret (v := keysV (.slice (some ⟨g, 0, none⟩) (n + 1) c1) r' o) (by simp [results, Tryd.results22, go_sem, g0, g1, g2]) rfl ⟨⟨g, c1, rfl, by omega, ?_⟩, ?_⟩
  · exact HS.out.of_block (fun j => by rw [set_other _ _ _ _ (by simp; omega), set_other _ _ _ _ (by simp; omega), set_other _ _ _ _ (by simp; omega)]) ((((Below.refl 0 w1).setCell (Nat.zero_le _) _).setCell (Nat.zero_le _) _).setCell (Nat.zero_le _) _).size
  · exact ((hbw.setCell (by simp) _).setCell (by simp) _).setCell (by simp) _

set_option maxHeartbeats 400000 in
theorem names_walk (v : Value) (hv : ∃ ao n c, v = .slice ao n c) (r o : Int) (w : World) : Calls Tryd.prog 15 #[keysV v r o] w fun e w' => e = .returned v ∧ Below w.heap.size w w' := by
  obtain ⟨ao, n, c, rfl⟩ := hv
  go_enter Tryd.func15, Tryd.ntmps15
  go_wp2
  go_ret
  exact ⟨rfl, (Below.refl _ _).alloc (Nat.le_refl _) _⟩
set_option maxHeartbeats 400000 in
theorem required_walk (v : Value) (hv : ∃ ao n c, v = .slice ao n c) (r o : Int) (w : World) : Calls Tryd.prog 16 #[keysV v r o] w fun e w' => e = .returned (.int .u64 r) ∧ Below w.heap.size w w' := by
  obtain ⟨ao, n, c, rfl⟩ := hv
  go_enter Tryd.func16, Tryd.ntmps16
  go_wp2
  go_ret
  exact ⟨rfl, (Below.refl _ _).alloc (Nat.le_refl _) _⟩
set_option maxHeartbeats 400000 in
theorem oneOf_walk (v : Value) (hv : ∃ ao n c, v = .slice ao n c) (r o : Int) (w : World) : Calls Tryd.prog 18 #[keysV v r o] w fun e w' => e = .returned (.int .u64 o) ∧ Below w.heap.size w w' := by
  obtain ⟨ao, n, c, rfl⟩ := hv
  go_enter Tryd.func18, Tryd.ntmps18
  go_wp2
  go_ret
  exact ⟨rfl, (Below.refl _ _).alloc (Nat.le_refl _) _⟩

set_option maxHeartbeats 400000 in
/-- zzLowMask. -/
theorem mask_walk (n : Nat) (hn : n ≤ 64) (w : World) : Calls Tryd.prog 17 #[.int .i64 (n : Int)] w fun e w' => e = .returned (.int .u64 (mask n : Int)) ∧ w' = w := by
  by_cases h64 : n = 64
  · subst h64
    go_enter Tryd.func17, Tryd.ntmps17
    go_wp2
    go_ret
    exact ⟨rfl, rfl⟩
  · by_cases h0 : n = 0
    · subst h0
      go_enter Tryd.func17, Tryd.ntmps17
      go_wp2
      go_ret
      exact ⟨rfl, rfl⟩
    · have hm := mask_eq (show n < 64 by omega)
      have HM : Hid (IntKind.u64.wrap (IntKind.u64.wrap (2 ^ n) - 1) = (mask n : Int)) := hm
      clear hm
      have hlt : n < 64 := by omega
      go_enter Tryd.func17, Tryd.ntmps17
      go_wp2
      go_ret
      exact ⟨ret_u64 HM.out, rfl⟩

/-- The cells of zzBuild's two blocks. -/
def Two (B : Nat) (w : World) (ao : Option Addr) (k c r : Nat) : Prop :=
  w.cell? ⟨B, 0, none⟩ = some (.slice none 0 0) ∧ w.cell? ⟨B, 1, none⟩ = some (.int .u64 0) ∧ w.cell? ⟨B, 2, none⟩ = some (.int .u64 0) ∧ w.frozen? ⟨B, 0, none⟩ = false ∧ w.frozen? ⟨B, 1, none⟩ = false ∧ w.frozen? ⟨B, 2, none⟩ = false ∧
  w.cell? ⟨B + 1, 0, none⟩ = some (.slice ao k c) ∧ w.cell? ⟨B + 1, 1, none⟩ = some (.int .u64 r) ∧ w.cell? ⟨B + 1, 2, none⟩ = some (.int .u64 0) ∧ w.frozen? ⟨B + 1, 0, none⟩ = false ∧ w.frozen? ⟨B + 1, 1, none⟩ = false ∧ w.frozen? ⟨B + 1, 2, none⟩ = false
theorem Two.later {B : Nat} {w w' : World} {ao : Option Addr} {k c r : Nat} (h : Two B w ao k c r) (hb : Below w.heap.size w w') (hB : B + 1 < w.heap.size) : Two B w' ao k c r := by
  obtain ⟨a0, a1, a2, a3, a4, a5, b0, b1, b2, b3, b4, b5⟩ := h
  have hc : ∀ b o, b = B ∨ b = B + 1 → w'.cell? ⟨b, o, none⟩ = w.cell? ⟨b, o, none⟩ := fun b o h => hb.cell (by rcases h with rfl | rfl <;> simp <;> omega)
  have hf : ∀ b o, b = B ∨ b = B + 1 → w'.frozen? ⟨b, o, none⟩ = w.frozen? ⟨b, o, none⟩ := fun b o h => hb.frozen (by rcases h with rfl | rfl <;> simp <;> omega)
  exact ⟨(hc _ _ (.inl rfl)).trans a0, (hc _ _ (.inl rfl)).trans a1, (hc _ _ (.inl rfl)).trans a2, (hf _ _ (.inl rfl)).trans a3, (hf _ _ (.inl rfl)).trans a4, (hf _ _ (.inl rfl)).trans a5,
    (hc _ _ (.inr rfl)).trans b0, (hc _ _ (.inr rfl)).trans b1, (hc _ _ (.inr rfl)).trans b2, (hf _ _ (.inr rfl)).trans b3, (hf _ _ (.inr rfl)).trans b4, (hf _ _ (.inr rfl)).trans b5⟩
theorem two_set {B : Nat} {w : World} {ao ao' : Option Addr} {k c r k' c' r' : Nat} (h : Two B w ao k c r) : Two B (((w.setCell ⟨B + 1, 0, none⟩ (.slice ao' k' c')).setCell ⟨B + 1, 1, none⟩ (.int .u64 r')).setCell ⟨B + 1, 2, none⟩ (.int .u64 0)) ao' k' c' r' := by
  obtain ⟨a0, a1, a2, a3, a4, a5, b0, b1, b2, b3, b4, b5⟩ := h
  exact ⟨by go_simp, by go_simp, by go_simp, by go_simp, by go_simp, by go_simp, by go_simp, by go_simp, by go_simp, by go_simp, by go_simp, by go_simp⟩

theorem two_after {B : Nat} {w w' : World} {ao : Option Addr} {k c r : Nat} (h : Two B w ao k c r) (hb : Below w.drew.heap.size w.drew w') (hB : B + 2 ≤ w.heap.size) : Two B w' ao k c r :=
  h.later (((Below.refl _ _).drew).trans hb) (by omega)
theorem not_before {L : List ByteArray} {k : Nat} (h : L.Nodup) (hk : k < L.length) : L[k] ∉ L.take k := by
  intro hm
  obtain ⟨j, hj, e⟩ := List.mem_iff_getElem.1 hm
  rw [List.length_take] at hj
  rw [List.getElem_take] at e
  exact List.pairwise_iff_getElem.1 h j k (by omega) hk (by omega) e

/-- nil, or in a block of the call's own behind the first two. -/
def Off (B : Nat) (ao : Option Addr) : Prop := ao = none ∨ ∃ g, ao = some ⟨g, 0, none⟩ ∧ B + 2 ≤ g
theorem Ss.off {B : Nat} {w w' : World} {ao : Option Addr} {n c : Nat} {L : List ByteArray} (h : Ss w (.slice ao n c) L) (ho : Off B ao) (hc : ∀ g j, B + 2 ≤ g → w'.cell? ⟨g, j, none⟩ = w.cell? ⟨g, j, none⟩) (hs : w.heap.size ≤ w'.heap.size) : Ss w' (.slice ao n c) L := by
  rcases ho with rfl | ⟨g, rfl, hg⟩
  · rcases h with h | ⟨a, d, h, _⟩ | ⟨b, p, d, h, _⟩
    · exact .inl h
    · cases h
    · cases h
  · exact h.of_block (fun j => hc g j hg) hs
theorem build_next {w wr w1 : World} {ak : Option Addr} {k ck r r' g c1 : Nat} {L : List ByteArray} {s : ByteArray} (hT : Two w.heap.size w1 ak k ck r) (hg : wr.drew.heap.size ≤ g) (hs1 : Ss w1 (.slice (some ⟨g, 0, none⟩) (k + 1) c1) (L.take k ++ [s]))
    (hb1 : Below wr.drew.heap.size wr.drew w1) (hbk : Below w.heap.size w wr) (hsz : w.heap.size + 2 ≤ wr.heap.size) (e : L.take (k + 1) = L.take k ++ [s]) :
    Two w.heap.size (((w1.setCell ⟨w.heap.size + 1, 0, none⟩ (.slice (some ⟨g, 0, none⟩) (k + 1) c1)).setCell ⟨w.heap.size + 1, 1, none⟩ (.int .u64 r')).setCell ⟨w.heap.size + 1, 2, none⟩ (.int .u64 0)) (some ⟨g, 0, none⟩) (k + 1) c1 r' ∧
    Ss (((w1.setCell ⟨w.heap.size + 1, 0, none⟩ (.slice (some ⟨g, 0, none⟩) (k + 1) c1)).setCell ⟨w.heap.size + 1, 1, none⟩ (.int .u64 r')).setCell ⟨w.heap.size + 1, 2, none⟩ (.int .u64 0)) (.slice (some ⟨g, 0, none⟩) (k + 1) c1) (L.take (k + 1)) ∧
    Below w.heap.size w (((w1.setCell ⟨w.heap.size + 1, 0, none⟩ (.slice (some ⟨g, 0, none⟩) (k + 1) c1)).setCell ⟨w.heap.size + 1, 1, none⟩ (.int .u64 r')).setCell ⟨w.heap.size + 1, 2, none⟩ (.int .u64 0)) ∧
    w.heap.size + 2 ≤ (((w1.setCell ⟨w.heap.size + 1, 0, none⟩ (.slice (some ⟨g, 0, none⟩) (k + 1) c1)).setCell ⟨w.heap.size + 1, 1, none⟩ (.int .u64 r')).setCell ⟨w.heap.size + 1, 2, none⟩ (.int .u64 0)).heap.size ∧ Off w.heap.size (some ⟨g, 0, none⟩) := by
  have hg' : wr.heap.size ≤ g := hg
  have hbw1 : Below w.heap.size w w1 := below2 (hbk.drew) hb1
  have hsz1 : wr.heap.size ≤ w1.heap.size := hb1.size
  have hsS := ((((Below.refl 0 w1).setCell (Nat.zero_le (⟨w.heap.size + 1, 0, none⟩ : Addr).block) (.slice (some ⟨g, 0, none⟩) (k + 1) c1)).setCell (Nat.zero_le (⟨w.heap.size + 1, 1, none⟩ : Addr).block) (.int .u64 r')).setCell (Nat.zero_le (⟨w.heap.size + 1, 2, none⟩ : Addr).block) (.int .u64 0)).size
  refine ⟨two_set hT, ?_, ((hbw1.setCell (by simp) _).setCell (by simp) _).setCell (by simp) _, by omega, .inr ⟨g, rfl, by omega⟩⟩
  rw [e]
  exact hs1.of_block (fun j => by rw [set_other _ _ _ _ (by simp; omega), set_other _ _ _ _ (by simp; omega), set_other _ _ _ _ (by simp; omega)]) hsS

set_option maxHeartbeats 400000 in
set_option maxRecDepth 100000 in
/-- zzBuild. -/
theorem build_walk (ao : Option Addr) (n c : Nat) (req : Nat) (L : List ByteArray) (w : World) (h : Ss w (.slice ao n c) L) (hn : n ≤ 64) (hnd : L.Nodup) (hr : req < 18446744073709551616) :
    Calls Tryd.prog 13 #[.slice ao n c, .int .u64 (req : Int)] w fun e w' => (∃ ao' c', e = .returned (keysV (.slice ao' n c') (low req n) 0) ∧ Ss w' (.slice ao' n c') L) ∧ Below w.heap.size w w' := by
  have HL : Hid (n = L.length) := h.len
  have HR : Hid (req < 18446744073709551616) := hr
  have HD : Hid L.Nodup := hnd
  clear hr hnd
  go_enter Tryd.func13, Tryd.ntmps13
  go_wp2
  go_loopw [6] (fun i wr => ∃ (k : Nat) (ao' : Option Addr) (c' : Nat), k ≤ n ∧ i = .int .i64 k ∧ Two w.heap.size wr ao' k c' (low req k) ∧ Ss wr (.slice ao' k c') (L.take k) ∧ Below w.heap.size w wr ∧ w.heap.size + 2 ≤ wr.heap.size ∧ Off w.heap.size ao') (fun i _ => n - (intOf i).toNat)
  case atStart =>
    refine ⟨0, none, 0, Nat.zero_le _, rfl, ?_, .inl ⟨rfl, by simp⟩, ((Below.refl _ _).alloc (Nat.le_refl _) _).alloc (by simp) _, by simp, .inl rfl⟩
    rw [low_zero]
    exact ⟨by go_simp, by go_simp, by go_simp, by go_simp, by go_simp, by go_simp, by go_simp, by go_simp, by go_simp, by go_simp, by go_simp, by go_simp⟩
  case round =>
    obtain ⟨k, ak, ck, hk, rfl, hT, hSk, hbk, hsz, hoff⟩ := hrel
    by_cases hlt : k < n
    · obtain ⟨b, o, rfl, hq1, hA, hbw⟩ := h.at (by omega)
      clear hq1
      have hkL : k < L.length := by have := HL.out; omega
      have hcell : wr.cell? ⟨b, o + k, none⟩ = some (.string L[k]) := (hbk.cell (p := ⟨b, o + k, none⟩) hbw).trans (hA k hkL)
      obtain ⟨s, hs⟩ : ∃ s, s = L[k] := ⟨_, rfl⟩
      rw [← hs] at hcell
      have hni : s ∉ L.take k := by rw [hs]; exact not_before HD.out hkL
      have hbit := bit_form (r := req) (k := k) HR.out (by omega)
      have cadd : ∀ wx, Below wr.heap.size wr wx → Calls Tryd.prog 22 #[keysV (.slice ak k ck) (low req k) (0 : Nat), .string s, .bool (req.testBit k)] wx (Added wx (L.take k) s (low req (k + 1)) (0 : Nat) k) := fun wx hx =>
        zzadd_walk ak k ck (low req k) 0 (low req (k + 1)) (L.take k) s (req.testBit k) wx fun wy hy => by
          have := add_walk ak k ck (low req k) 0 (L.take k) s (req.testBit k) wy ((hSk.later hx).later hy) (by omega) hni (low_64lt (by omega))
          rw [rq_low] at this
          exact this
      have HS : Hid (s = L[k]) := hs
      have HT : Hid (Two w.heap.size wr ak k ck (low req k)) := hT
      obtain ⟨a0, a1, a2, a3, a4, a5, b0, b1, b2, b3, b4, b5⟩ := hT
      clear hs hA hni hSk
      go_wp2
      go_region_with (go_at_call 22; refine (cadd _ (by exact (Below.refl _ _).drew)).mono ?_; rintro e w1 ⟨⟨g, c1, rfl, hg, hs1⟩, hb1⟩; obtain ⟨x0, x1, x2, x3, x4, x5, y0, y1, y2, y3, y4, y5⟩ := two_after HT.out hb1 hsz)
      all_goals
        go_wp2
        go_roundw
        case measure => simp [intOf]; omega
        case rel =>
          have HX : Two w.heap.size w1 ak k ck (low req k) := two_after HT.out hb1 hsz
          obtain ⟨r1, r2, r3, r4, r5⟩ := build_next (r' := low req (k + 1)) HX hg hs1 hb1 hbk hsz (by rw [HS.out]; exact List.take_succ_eq_append_getElem hkL)
          exact ⟨k + 1, _, _, by omega, by go_num, r1, r2, r3, r4, r5⟩
    · have hke : k = n := by omega
      subst hke
      have HF : Hid (L.take k = L) := List.take_of_length_le (by rw [← HL.out]; exact Nat.le_refl _)
      obtain ⟨a0, a1, a2, a3, a4, a5, b0, b1, b2, b3, b4, b5⟩ := hT
      go_wp2
      refine bodyPost_ret (v := keysV (.slice ak k ck) (low req k) 0) (by simp [results, Tryd.results13, go_sem, a0, a1, a2]) rfl ⟨⟨ak, ck, rfl, ?_⟩, ?_⟩
      · rw [← HF.out]
        exact hSk.off hoff (fun g j hg => by rw [set_other _ _ _ _ (by simp; omega), set_other _ _ _ _ (by simp; omega), set_other _ _ _ _ (by simp; omega)]) ((((Below.refl 0 wr).setCell (Nat.zero_le _) _).setCell (Nat.zero_le _) _).setCell (Nat.zero_le _) _).size
      · exact ((hbk.setCell (by simp) _).setCell (by simp) _).setCell (by simp) _
end Go.Proofs.Qxb6600738aDoor
