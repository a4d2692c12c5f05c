import Derived.Test.Qxb6600738aDoorWithBits
import Derived.Test.Qxb6600738aDoorMore
import Derived.BigQuiet
import Derived.Deep.QuietTactic
/-! Keys.With, ZZKeysOf, zzWithin. -/
namespace Go.Proofs.Qxb6600738aDoor
open Go.RowKit

set_option maxHeartbeats 400000 in
/-- zzWithin. -/
theorem within_walk (b n : Nat) (hb : b < 18446744073709551616) (hn : n ≤ 64) (w : World) : Calls Tryd.prog 25 #[.int .u64 (b : Int), .int .i64 (n : Int)] w fun e w' => e = .returned (.bool (decide (b < 2 ^ n))) ∧ w' = w := by
  have hf := within_form hb hn
  go_enter Tryd.func25, Tryd.ntmps25
  go_wp2_with fail
  refine (mask_walk n hn w).mono ?_
  rintro e w' ⟨rfl, hw'⟩
  obtain rfl := hw'.symm
  go_wp2_with fail
  go_ret
  exact ⟨rfl, rfl⟩

set_option maxHeartbeats 400000 in
/-- ZZKeysOf. -/
theorem keysOf_walk (ao : Option Addr) (n c : Nat) (r o : Int) (w : World) : Calls Tryd.prog 26 #[.slice ao n c, .int .u64 r, .int .u64 o] w fun e w' => e = .returned (keysV (.slice ao n c) r o) ∧ Below w.heap.size w w' := by
  go_enter Tryd.func26, Tryd.ntmps26
  go_wp2
  refine bodyPost_ret (v := keysV (.slice ao n c) r o) (by simp [results, Tryd.results26, go_sem]) rfl ⟨rfl, ?_⟩
  exact (Below.refl _ _).alloc (Nat.le_refl _) _

/-- The cells of With's three blocks. -/
def Three (B : Nat) (w : World) (ao am : Option Addr) (k c m d r o p q : Nat) : Prop :=
  w.cell? ⟨B, 0, none⟩ = some (.slice ao k c) ∧ w.cell? ⟨B, 1, none⟩ = some (.int .u64 r) ∧ w.cell? ⟨B, 2, none⟩ = some (.int .u64 o) ∧ w.frozen? ⟨B, 0, none⟩ = false ∧ w.frozen? ⟨B, 1, none⟩ = false ∧ w.frozen? ⟨B, 2, none⟩ = false ∧
  w.cell? ⟨B + 1, 0, none⟩ = some (.slice am m d) ∧ w.cell? ⟨B + 1, 1, none⟩ = some (.int .u64 p) ∧ w.cell? ⟨B + 1, 2, none⟩ = some (.int .u64 q) ∧
  w.cell? ⟨B + 1 + 1, 0, none⟩ = some (.slice none 0 0) ∧ w.cell? ⟨B + 1 + 1, 1, none⟩ = some (.int .u64 0) ∧ w.cell? ⟨B + 1 + 1, 2, none⟩ = some (.int .u64 0) ∧ w.frozen? ⟨B + 1 + 1, 0, none⟩ = false ∧ w.frozen? ⟨B + 1 + 1, 1, none⟩ = false ∧ w.frozen? ⟨B + 1 + 1, 2, none⟩ = false
theorem Three.later {B : Nat} {w w' : World} {ao am : Option Addr} {k c m d r o p q : Nat} (h : Three B w ao am k c m d r o p q) (hb : Below w.heap.size w w') (hB : B + 3 ≤ w.heap.size) : Three B w' ao am k c m d r o p q := by
  have hc : ∀ b o, b < B + 3 → w'.cell? ⟨b, o, none⟩ = w.cell? ⟨b, o, none⟩ := fun b o h => hb.cell (by simp; omega)
  have hf : ∀ b o, b < B + 3 → w'.frozen? ⟨b, o, none⟩ = w.frozen? ⟨b, o, none⟩ := fun b o h => hb.frozen (by simp; omega)
  unfold Three at h ⊢
  rw [hc _ 0 (by omega : B < B + 3), hc _ 1 (by omega : B < B + 3), hc _ 2 (by omega : B < B + 3), hf _ 0 (by omega : B < B + 3), hf _ 1 (by omega : B < B + 3), hf _ 2 (by omega : B < B + 3),
    hc _ 0 (by omega : B + 1 < B + 3), hc _ 1 (by omega : B + 1 < B + 3), hc _ 2 (by omega : B + 1 < B + 3),
    hc _ 0 (by omega : B + 1 + 1 < B + 3), hc _ 1 (by omega : B + 1 + 1 < B + 3), hc _ 2 (by omega : B + 1 + 1 < B + 3), hf _ 0 (by omega : B + 1 + 1 < B + 3), hf _ 1 (by omega : B + 1 + 1 < B + 3), hf _ 2 (by omega : B + 1 + 1 < B + 3)]
  exact h
theorem three_set {B : Nat} {w : World} {ao am ao' : Option Addr} {k c m d r o p q k' c' r' : Nat} (h : Three B w ao am k c m d r o p q) : Three B (((w.setCell ⟨B, 0, none⟩ (.slice ao' k' c')).setCell ⟨B, 1, none⟩ (.int .u64 r')).setCell ⟨B, 2, none⟩ (.int .u64 o)) ao' am k' c' m d r' o p q := by
  obtain ⟨a0, a1, a2, a3, a4, a5, b0, b1, b2, d0, d1, d2, d3, d4, d5⟩ := h
  exact ⟨by go_simp, by go_simp, by go_simp, by go_simp, by go_simp, by go_simp, by go_simp, by go_simp, by go_simp, by go_simp, by go_simp, by go_simp, by go_simp, by go_simp, by go_simp⟩
theorem three_or {B : Nat} {w : World} {ao am : Option Addr} {k c m d r o p q o' : Nat} (h : Three B w ao am k c m d r o p q) : Three B (w.setCell ⟨B, 2, none⟩ (.int .u64 o')) ao am k c m d r o' p q := by
  obtain ⟨a0, a1, a2, a3, a4, a5, b0, b1, b2, d0, d1, d2, d3, d4, d5⟩ := h
  exact ⟨by go_simp, by go_simp, by go_simp, by go_simp, by go_simp, by go_simp, by go_simp, by go_simp, by go_simp, by go_simp, by go_simp, by go_simp, by go_simp, by go_simp, by go_simp⟩

/-- Not in one of the call's three blocks. -/
def Away (B n : Nat) (ao : Option Addr) : Prop := n = 0 ∨ ∃ g p, ao = some ⟨g, p, none⟩ ∧ (g < B ∨ B + 3 ≤ g)
theorem Ss.away {w w' : World} {B n c : Nat} {ao : Option Addr} {L : List ByteArray} (h : Ss w (.slice ao n c) L) (ho : Away B n ao) (hc : ∀ g j, g < B ∨ B + 3 ≤ g → w'.cell? ⟨g, j, none⟩ = w.cell? ⟨g, j, none⟩) (hs : w.heap.size ≤ w'.heap.size) : Ss w' (.slice ao n c) L := by
  rcases ho with h0 | ⟨g, p, rfl, hg⟩
  · subst h0
    rcases h with h | ⟨a, d, h, h2⟩ | ⟨b, p, d, h, h1, _⟩
    · exact .inl h
    · exact .inr (.inl ⟨a, d, h, h2⟩)
    · injection h with e1 e2 e3; omega
  · exact h.of_block (fun j => hc g j hg) hs
theorem away_old {w : World} {ao : Option Addr} {n c : Nat} {L : List ByteArray} (h : Ss w (.slice ao n c) L) : Away w.heap.size n ao := by
  by_cases h0 : n = 0
  · exact .inl h0
  · obtain ⟨b, o, rfl, _, _, hb⟩ := h.at (by omega)
    exact .inr ⟨b, o, rfl, .inl hb⟩
theorem rq_true (r n : Nat) : rq true r n = orb r n := if_pos rfl
theorem rq_false (r n : Nat) : rq false r n = r := if_neg (by simp)
theorem set3_other {w : World} {B : Nat} {u v x : Value} (g j : Nat) (hg : g < B ∨ B + 3 ≤ g) : (((w.setCell ⟨B, 0, none⟩ u).setCell ⟨B, 1, none⟩ v).setCell ⟨B, 2, none⟩ x).cell? ⟨g, j, none⟩ = w.cell? ⟨g, j, none⟩ := by
  rw [set_other _ _ _ _ (by simp; omega), set_other _ _ _ _ (by simp; omega), set_other _ _ _ _ (by simp; omega)]

/-- Where something was added the names lie in a block of the call's own. -/
def NewAt (w : World) (m : Nat) (a : Option Addr) : Prop := 0 < m → ∃ g, a = some ⟨g, 0, none⟩ ∧ w.heap.size ≤ g
/-- What With does. -/
def Grown (w : World) (m : Nat) (Z : List ByteArray) (r o : Int) (n : Nat) (e : Ending) (w' : World) : Prop :=
  (∃ a' c', e = .returned (keysV (.slice a' n c') r o) ∧ Ss w' (.slice a' n c') Z ∧ NewAt w m a') ∧ Below w.heap.size w w'
theorem with_next {w wk w1 : World} {ak am : Option Addr} {n k ck m d r o p q r' g c1 : Nat} {L : List ByteArray} {s : ByteArray} (hT : Three w.heap.size w1 ak am n ck m d r o p q) (hg : wk.drew.heap.size ≤ g) (hs1 : Ss w1 (.slice (some ⟨g, 0, none⟩) k c1) (L ++ [s]))
    (hb1 : Below wk.drew.heap.size wk.drew w1) (hbk : Below w.heap.size w wk) (hsz : w.heap.size + 3 ≤ wk.heap.size) :
    Three w.heap.size (((w1.setCell ⟨w.heap.size, 0, none⟩ (.slice (some ⟨g, 0, none⟩) k c1)).setCell ⟨w.heap.size, 1, none⟩ (.int .u64 r')).setCell ⟨w.heap.size, 2, none⟩ (.int .u64 o)) (some ⟨g, 0, none⟩) am k c1 m d r' o p q ∧
    Ss (((w1.setCell ⟨w.heap.size, 0, none⟩ (.slice (some ⟨g, 0, none⟩) k c1)).setCell ⟨w.heap.size, 1, none⟩ (.int .u64 r')).setCell ⟨w.heap.size, 2, none⟩ (.int .u64 o)) (.slice (some ⟨g, 0, none⟩) k c1) (L ++ [s]) ∧
    Below w.heap.size w (((w1.setCell ⟨w.heap.size, 0, none⟩ (.slice (some ⟨g, 0, none⟩) k c1)).setCell ⟨w.heap.size, 1, none⟩ (.int .u64 r')).setCell ⟨w.heap.size, 2, none⟩ (.int .u64 o)) ∧
    w.heap.size + 3 ≤ (((w1.setCell ⟨w.heap.size, 0, none⟩ (.slice (some ⟨g, 0, none⟩) k c1)).setCell ⟨w.heap.size, 1, none⟩ (.int .u64 r')).setCell ⟨w.heap.size, 2, none⟩ (.int .u64 o)).heap.size ∧ Away w.heap.size k (some ⟨g, 0, none⟩) ∧ w.heap.size ≤ g := by
  have hg' : wk.heap.size ≤ g := hg
  have hbw1 : Below w.heap.size w w1 := below2 (hbk.drew) hb1
  have hsz1 : wk.heap.size ≤ w1.heap.size := hb1.size
  have hsS := ((((Below.refl 0 w1).setCell (Nat.zero_le (⟨w.heap.size, 0, none⟩ : Addr).block) (.slice (some ⟨g, 0, none⟩) k c1)).setCell (Nat.zero_le (⟨w.heap.size, 1, none⟩ : Addr).block) (.int .u64 r')).setCell (Nat.zero_le (⟨w.heap.size, 2, none⟩ : Addr).block) (.int .u64 o)).size
  exact ⟨three_set hT, hs1.of_block (fun j => set3_other g j (by omega)) hsS, ((hbw1.setCell (by simp) _).setCell (by simp) _).setCell (by simp) _, by omega, .inr ⟨g, 0, rfl, .inr (by omega)⟩, by omega⟩
theorem three_after {B : Nat} {w w' : World} {ao am : Option Addr} {k c m d r o p q : Nat} (h : Three B w ao am k c m d r o p q) (hb : Below w.drew.heap.size w.drew w') (hB : B + 3 ≤ w.heap.size) : Three B w' ao am k c m d r o p q :=
  h.later (((Below.refl _ _).drew).trans hb) hB
theorem not_in_two {L M : List ByteArray} {k : Nat} (h : (L ++ M).Nodup) (hk : k < M.length) : M[k] ∉ L ++ M.take k := by
  obtain ⟨_, h2, h3⟩ := List.nodup_append.1 h
  intro hm
  rcases List.mem_append.1 hm with hm | hm
  · exact h3 _ hm _ (List.getElem_mem hk) rfl
  · exact not_before h2 hk hm
theorem take_more {L M : List ByteArray} {k : Nat} {s : ByteArray} (hk : k < M.length) (e : s = M[k]) : L ++ M.take (k + 1) = (L ++ M.take k) ++ [s] := by
  rw [List.take_succ_eq_append_getElem hk, e, List.append_assoc]

set_option maxHeartbeats 1000000 in
set_option maxRecDepth 100000 in
/-- Keys.With. -/
theorem with_walk (ao am : Option Addr) (n c m d : Nat) (r o p q : Nat) (L M : List ByteArray) (w : World) (h : Ss w (.slice ao n c) L) (h2 : Ss w (.slice am m d) M) (hnm : n + m ≤ 64) (hnd : (L ++ M).Nodup)
    (hr : r < 18446744073709551616) (ho : o < 18446744073709551616) (hp : p < 18446744073709551616) (hq : q < 18446744073709551616) (hoq : o = 0 ∨ q = 0) :
    Calls Tryd.prog 27 #[keysV (.slice ao n c) r o, keysV (.slice am m d) p q] w (Grown w m (L ++ M) (wset r p n m) (wset o q n m) (n + m)) := by
  have HL : Hid (n = L.length) := h.len
  have HM : Hid (m = M.length) := h2.len
  have HR : Hid (r < 18446744073709551616) := hr
  have HO : Hid (o < 18446744073709551616) := ho
  have HP : Hid (p < 18446744073709551616) := hp
  have HQ : Hid (q < 18446744073709551616) := hq
  have HD : Hid (L ++ M).Nodup := hnd
  clear hr ho hp hq hnd
  go_enter Tryd.func27, Tryd.ntmps27
  have HA : Hid (o = 0 ∨ q = 0) := hoq
  clear hoq
  go_wp2
  rotate_left 1
  · exfalso
    have hz : ((o : Int) != 0) = true ∧ ((q : Int) != 0) = true := by assumption
    have hA := HA.out
    simp at hz
    omega
  all_goals
    first
      | (rename o = 0 => hz; have HY : Hid (o = 0) := hz; clear hz)
      | (rename ((o : Int) != 0) = false ∨ ((q : Int) != 0) = false => hz; clear hz)
    go_loopw [5, 6, 19] (fun _ _ i wk => ∃ (k : Nat) (a' : Option Addr) (c' : Nat), k ≤ m ∧ i = .int .i64 k ∧ Three w.heap.size wk a' am (n + k) c' m d (wset r p n k) (wset o q n k) p q ∧ Ss wk (.slice a' (n + k) c') (L ++ M.take k) ∧ Below w.heap.size w wk ∧ w.heap.size + 3 ≤ wk.heap.size ∧ Away w.heap.size (n + k) a' ∧ NewAt w k a') (fun _ _ i _ => m - (intOf i).toNat)
    case atStart =>
      refine ⟨0, ao, c, Nat.zero_le _, rfl, ?_, ?_, (((Below.refl _ _).alloc (Nat.le_refl _) _).alloc (by simp) _).alloc (by simp; omega) _, by simp, away_old h, fun h => absurd h (Nat.lt_irrefl 0)⟩
      · exact ⟨by go_simp, by go_simp; rfl, by first | (go_simp; rfl) | (rw [HY.out]; go_simp; rfl), by go_simp, by go_simp, by go_simp, by go_simp, by go_simp, by go_simp, by go_simp, by go_simp, by go_simp, by go_simp, by go_simp, by go_simp⟩
      · rw [List.take_zero, List.append_nil]
        exact h.later ((((Below.refl _ _).alloc (Nat.le_refl _) _).alloc (by simp) _).alloc (by simp; omega) _)
    case round =>
      obtain ⟨k, ak, ck, hk, rfl, hT, hS, hbk, hsz, haw, hnew⟩ := hrel
      by_cases hlt : k < m
      · obtain ⟨b, of, rfl, hq1, hA, hbw⟩ := h2.at (by omega)
        clear hq1
        have hkM : k < M.length := by have := HM.out; omega
        have hcell : wr.cell? ⟨b, of + k, none⟩ = some (.string M[k]) := (hbk.cell (p := ⟨b, of + k, none⟩) hbw).trans (hA k hkM)
        obtain ⟨s, hs⟩ : ∃ s, s = M[k] := ⟨_, rfl⟩
        rw [← hs] at hcell
        have hni : s ∉ L ++ M.take k := by rw [hs]; exact not_in_two HD.out hkM
        have cadd : ∀ wx, Below wr.heap.size wr wx → Calls Tryd.prog 38 #[keysV (.slice ak (n + k) ck) (wset r p n k : Nat) (wset o q n k : Nat), .string s, .bool (p.testBit k)] wx (Added wx (L ++ M.take k) s (wset r p n (k + 1) : Nat) (wset o q n k : Nat) (n + k)) := fun wx hx =>
          add_walk ak (n + k) ck (wset r p n k) (wset o q n k) (L ++ M.take k) s (p.testBit k) wx (hS.later hx) (by omega) hni (wset_lt HR.out (by omega))
        have hbit := and_bit_ne (b := p) (j := k) HP.out (by omega)
        have hbit2 := and_bit_ne (b := q) (j := k) HQ.out (by omega)
        have hor := or_bit (r := wset o q n k) (n := n + k) (wset_lt HO.out (by omega)) (by omega)
        have HS : Hid (s = M[k]) := hs
        have HT : Hid (Three w.heap.size wr ak (some ⟨b, of, none⟩) (n + k) ck m d (wset r p n k) (wset o q n k) p q) := hT
        obtain ⟨a0, a1, a2, a3, a4, a5, b0, b1, b2, d0, d1, d2, d3, d4, d5⟩ := hT
        clear hs hA hni hS
        go_wp2
        go_region_with (go_at_call 38; refine (cadd _ (by exact (Below.refl _ _).drew)).mono ?_; rintro e w1 ⟨⟨g, c1, rfl, hg, hs1⟩, hb1⟩; obtain ⟨x0, x1, x2, x3, x4, x5, y0, y1, y2, z0, z1, z2, z3, z4, z5⟩ := three_after HT.out hb1 hsz)
        all_goals
          have HX : Three w.heap.size w1 ak (some ⟨b, of, none⟩) (n + k) ck m d (wset r p n k) (wset o q n k) p q := three_after HT.out hb1 hsz
          obtain ⟨T2, S2, B2, Z2, A2, N2⟩ := with_next (r' := wset r p n (k + 1)) HX hg hs1 hb1 hbk hsz
          generalize (((w1.setCell ⟨w.heap.size, 0, none⟩ (.slice (some ⟨g, 0, none⟩) (n + k + 1) c1)).setCell ⟨w.heap.size, 1, none⟩ (.int .u64 (wset r p n (k + 1) : Nat))).setCell ⟨w.heap.size, 2, none⟩ (.int .u64 (wset o q n k : Nat))) = w2 at T2 S2 B2 Z2 ⊢
          clear x0 x1 x2 x3 x4 x5 y0 y1 y2 z0 z1 z2 z3 z4 z5 HX hs1 hb1 hg a0 a1 a2 a3 a4 a5 b0 b1 b2 d0 d1 d2 d3 d4 d5 hcell cadd HT hbk hsz haw hnew w1 hbit
          have HT2 : Hid (Three w.heap.size w2 (some ⟨g, 0, none⟩) (some ⟨b, of, none⟩) (n + k + 1) c1 m d (wset r p n (k + 1)) (wset o q n k) p q) := T2
          obtain ⟨a0, a1, a2, a3, a4, a5, b0, b1, b2, d0, d1, d2, d3, d4, d5⟩ := T2
          cases hqb : q.testBit k
          · rw [hqb] at hbit2
            go_wp2_with fail
            go_quiet (fail)
            go_wp2_with fail
            have hwz : wset o q n (k + 1) = wset o q n k := by rw [wset_succ, hqb, rq_false]
            go_roundw
            case measure => simp [intOf]; omega
            case rel =>
              have hb9 := below_drewN (Below.refl w2.heap.size w2) nq
              exact ⟨k + 1, some ⟨g, 0, none⟩, c1, by omega, by go_num, by rw [hwz]; exact HT2.out.later hb9 Z2, by rw [take_more hkM HS.out]; exact S2.later hb9, below2 B2 hb9, Nat.le_trans Z2 hb9.size, A2, fun _ => ⟨g, rfl, N2⟩⟩
          · rw [hqb] at hbit2
            go_wp2_with fail
            go_quiet (fail)
            go_wp2_with fail
            have hT3 := (HT2.out).later (below_drewN (Below.refl w2.heap.size w2) nq) Z2
            have hS3 := S2.later (below_drewN (Below.refl w2.heap.size w2) nq)
            have hB3 := below2 B2 (below_drewN (Below.refl w2.heap.size w2) nq)
            have hZ3 := Nat.le_trans Z2 (below_drewN (Below.refl w2.heap.size w2) nq).size
            generalize w2.drewN nq = w3 at hT3 hS3 hB3 hZ3 ⊢
            clear a0 a1 a2 a3 a4 a5 b0 b1 b2 d0 d1 d2 d3 d4 d5 HT2 S2 B2 Z2 w2
            have HT3 : Hid (Three w.heap.size w3 (some ⟨g, 0, none⟩) (some ⟨b, of, none⟩) (n + k + 1) c1 m d (wset r p n (k + 1)) (wset o q n k) p q) := hT3
            obtain ⟨a0, a1, a2, a3, a4, a5, b0, b1, b2, d0, d1, d2, d3, d4, d5⟩ := hT3
            have hwz : wset o q n (k + 1) = orb (wset o q n k) (n + k) := by rw [wset_succ, hqb, rq_true]
            go_region
            all_goals
              go_wp2_with fail
              go_roundw
              case measure => simp [intOf]; omega
              case rel =>
                have hb9 : Below w.heap.size w3 (w3.setCell ⟨w.heap.size, 2, none⟩ (.int .u64 (orb (wset o q n k) (n + k) : Nat))).drew := ((Below.refl w.heap.size w3).setCell (by simp) _).drew
                have hT4 : Three w.heap.size (w3.setCell ⟨w.heap.size, 2, none⟩ (.int .u64 (orb (wset o q n k) (n + k) : Nat))).drew (some ⟨g, 0, none⟩) (some ⟨b, of, none⟩) (n + k + 1) c1 m d (wset r p n (k + 1)) (orb (wset o q n k) (n + k)) p q := three_or HT3.out
                exact ⟨k + 1, some ⟨g, 0, none⟩, c1, by omega, by go_num, by rw [hwz]; exact hT4, by rw [take_more hkM HS.out]; exact hS3.away A2 (fun g j hg => set_other _ _ _ _ (by simp; omega)) hb9.size, hB3.trans hb9, Nat.le_trans hZ3 hb9.size, A2, fun _ => ⟨g, rfl, N2⟩⟩
      · have hke : k = m := by omega
        subst hke
        have HF : Hid (M.take k = M) := List.take_of_length_le (by rw [← HM.out]; exact Nat.le_refl _)
        obtain ⟨a0, a1, a2, a3, a4, a5, b0, b1, b2, d0, d1, d2, d3, d4, d5⟩ := hT
        go_wp2
        refine bodyPost_ret (v := keysV (.slice ak (n + k) ck) (wset r p n k) (wset o q n k)) (by simp [results, Tryd.results27, go_sem, d0, d1, d2]) rfl ⟨⟨ak, ck, rfl, ?_, hnew⟩, ?_⟩
        · rw [← HF.out]
          exact hS.away haw (fun g j hg => by rw [set_other _ _ _ _ (by simp; omega), set_other _ _ _ _ (by simp; omega), set_other _ _ _ _ (by simp; omega)]) ((((Below.refl 0 wr).setCell (Nat.zero_le _) _).setCell (Nat.zero_le _) _).setCell (Nat.zero_le _) _).size
        · exact ((hbk.setCell (by simp; omega) _).setCell (by simp; omega) _).setCell (by simp; omega) _
end Go.Proofs.Qxb6600738aDoor
