import Derived.Test.Qxb6600738aDoorRows
import Derived.WalkKit
import Derived.WalkSpells
import Derived.WalkLawsBesides
import Derived.BigQuiet
import Derived.Deep.QuietTactic
/-! SLICES OF STRINGS: what the walks are told of one, and the small functions over them: zzBytes, zzAddStrings, zzAllDistinct, zzCloneStrings, zzSameStrings. -/
namespace Go.Proofs.Qxb6600738aDoor
open Go.RowKit

theorem ret_bool {a b : Bool} (h : a = b) : Ending.returned (.bool a) = .returned (.bool b) := by rw [h]

/-- It is a bool. -/
def AnswersB (e : Ending) : Prop := ∃ b, e = .returned (.bool b)

/-- The cells at an address hold the strings L. -/
def AtS (w : World) (b o : Nat) (L : List ByteArray) : Prop := ∀ (j : Nat) (h : j < L.length), w.cell? ⟨b, o + j, none⟩ = some (.string L[j])
/-- A slice of strings that reads as L. -/
def Ss (w : World) (v : Value) (L : List ByteArray) : Prop :=
  (v = .slice none 0 0 ∧ L = []) ∨ (∃ a c, v = .slice (some a) 0 c ∧ L = []) ∨
  (∃ b o c, v = .slice (some ⟨b, o, none⟩) L.length c ∧ 0 < L.length ∧ L.length ≤ c ∧ c ≤ maxLen ∧ AtS w b o L ∧ b < w.heap.size)

theorem Ss.form {w : World} {v : Value} {L : List ByteArray} (h : Ss w v L) : ∃ ao c, v = .slice ao L.length c ∧ L.length ≤ c := by
  rcases h with ⟨rfl, rfl⟩ | ⟨a, c, rfl, rfl⟩ | ⟨b, o, c, rfl, _, h, _⟩
  · exact ⟨none, 0, rfl, Nat.le_refl _⟩
  · exact ⟨some a, c, rfl, Nat.zero_le _⟩
  · exact ⟨_, c, rfl, h⟩
/-- At a slice written out. -/
theorem Ss.at {w : World} {ao : Option Addr} {n c : Nat} {L : List ByteArray} (h : Ss w (.slice ao n c) L) (hp : 0 < n) : ∃ b o, ao = some ⟨b, o, none⟩ ∧ n = L.length ∧ AtS w b o L ∧ b < w.heap.size := by
  rcases h with ⟨h, _⟩ | ⟨a, d, h, _⟩ | ⟨b, o, d, h, _, _, _, ha, hb⟩
  · injection h with e1 e2 e3; omega
  · injection h with e1 e2 e3; omega
  · injection h with e1 e2 e3
    exact ⟨b, o, e1, e2, ha, hb⟩
theorem Ss.len {w : World} {ao : Option Addr} {n c : Nat} {L : List ByteArray} (h : Ss w (.slice ao n c) L) : n = L.length := by
  rcases h with ⟨h, rfl⟩ | ⟨a, d, h, rfl⟩ | ⟨b, o, d, h, _⟩
  · injection h with e1 e2 e3
  · injection h with e1 e2 e3
  · injection h with e1 e2 e3
theorem Ss.later {w w' : World} {v : Value} {L : List ByteArray} (h : Ss w v L) (hb : Below w.heap.size w w') : Ss w' v L := by
  rcases h with h | h | ⟨b, o, c, rfl, h1, h2, h3, ha, h4⟩
  · exact .inl h
  · exact .inr (.inl h)
  · exact .inr (.inr ⟨b, o, c, rfl, h1, h2, h3, fun j hj => (hb.cell (p := ⟨b, o + j, none⟩) h4).trans (ha j hj), Nat.lt_of_lt_of_le h4 hb.size⟩)
theorem Ss.nil {w : World} {L : List ByteArray} (h : Ss w (.slice none 0 0) L) : L = [] := by
  rcases h with ⟨_, h⟩ | ⟨a, c, h, _⟩ | ⟨b, o, c, h, _⟩
  · exact h
  · cases h
  · cases h
theorem Ss.none_nil {w : World} {n c : Nat} {L : List ByteArray} (h : Ss w (.slice none n c) L) : L = [] := by
  rcases h with ⟨_, h⟩ | ⟨a, c, h, _⟩ | ⟨b, o, c, h, _⟩
  · exact h
  · cases h
  · cases h
theorem below2 {B : Nat} {w w1 w2 : World} (h : Below B w w1) (h2 : Below w1.heap.size w1 w2) (hB : B ≤ w.heap.size := by simp) : Below B w w2 :=
  h.trans (h2.mono (Nat.le_trans hB h.size))
theorem Ss.drawn {w : World} {v : Value} {L : List ByteArray} (h : Ss w v L) (q : Nat) : Ss (w.drewN q) v L := h.later (below_drewN (Below.refl _ _) q)

set_option maxHeartbeats 400000 in
/-- zzBytes_FnKeysAddBuildsExactly: it answers. -/
theorem bytes9_walk (ao : Option Addr) (n c : Nat) (req : Int) (L : List ByteArray) (w : World) (h : Ss w (.slice ao n c) L) (hn : n ≤ maxLen) :
    Calls Tryd.prog 9 #[.slice ao n c, .int .u64 req] w fun e w' => AnswersB e ∧ w' = w := by
  unfold maxLen at hn
  by_cases hbig : n ≤ 1048576
  · go_enter Tryd.func9, Tryd.ntmps9
    go_wp2
    go_loop [5, 6] (fun z i => ∃ k t : Nat, k ≤ n ∧ t ≤ 1048576 ∧ i = .int .i64 k ∧ z = .int .i64 t) (fun _ i => n - (intOf i).toNat)
    case atStart => exact ⟨0, n, Nat.zero_le _, hbig, rfl, rfl⟩
    case round =>
      obtain ⟨k, t, hk, ht, rfl, rfl⟩ := hrel
      by_cases hlt : k < n
      · obtain ⟨b, o, rfl, hL, hA, _⟩ := h.at (by omega)
        have hcell := hA k (by omega)
        obtain ⟨s, hs⟩ : ∃ s, s = L[k] := ⟨_, rfl⟩
        rw [← hs] at hcell
        clear hs hA hL h
        go_wp2
        · go_ret
          exact ⟨⟨_, rfl⟩, rfl⟩
        · go_ret
          exact ⟨⟨_, rfl⟩, rfl⟩
        · go_round
          case rel => exact ⟨k + 1, t + s.size, by omega, by omega, by go_num, by go_num⟩
          case measure => simp [intOf]; omega
      · go_wp2
        go_ret
        exact ⟨⟨_, rfl⟩, rfl⟩
  · go_enter Tryd.func9, Tryd.ntmps9
    go_wp2
    go_ret
    exact ⟨⟨_, rfl⟩, rfl⟩

set_option maxHeartbeats 400000 in
/-- zzAddStrings: a number from -1 to the limit. -/
theorem addStrings_walk (t0 : Int) (ao : Option Addr) (n c : Nat) (L : List ByteArray) (w : World) (h : Ss w (.slice ao n c) L) (hn : n ≤ maxLen) (ht0 : -1 ≤ t0) (ht1 : t0 ≤ 1048576) :
    Calls Tryd.prog 10 #[.int .i64 t0, .slice ao n c] w fun e w' => (∃ t : Int, e = .returned (.int .i64 t) ∧ -1 ≤ t ∧ t ≤ 1048576) ∧ w' = w := by
  unfold maxLen at hn
  by_cases hneg : t0 < 0
  · go_enter Tryd.func10, Tryd.ntmps10
    go_wp2
    go_ret
    exact ⟨⟨-1, rfl, by omega, by omega⟩, rfl⟩
  · by_cases hbig : 65536 < n
    · go_enter Tryd.func10, Tryd.ntmps10
      go_wp2
      go_ret
      exact ⟨⟨-1, rfl, by omega, by omega⟩, rfl⟩
    · by_cases hsum : 1048576 < t0 + 16 * (n : Int)
      · go_enter Tryd.func10, Tryd.ntmps10
        go_wp2
        go_ret
        exact ⟨⟨-1, rfl, by omega, by omega⟩, rfl⟩
      · go_enter Tryd.func10, Tryd.ntmps10
        go_wp2
        go_loop [0, 5] (fun z i => ∃ (k : Nat) (t : Int), k ≤ n ∧ 0 ≤ t ∧ t ≤ 1048576 ∧ i = .int .i64 k ∧ z = .int .i64 t) (fun _ i => n - (intOf i).toNat)
        case atStart => exact ⟨0, t0 + 16 * (n : Int), Nat.zero_le _, by omega, by omega, rfl, rfl⟩
        case round =>
          obtain ⟨k, t, hk, hta, htb, rfl, rfl⟩ := hrel
          by_cases hlt : k < n
          · obtain ⟨b, o, rfl, hL, hA, _⟩ := h.at (by omega)
            have hcell := hA k (by omega)
            obtain ⟨s, hs⟩ : ∃ s, s = L[k] := ⟨_, rfl⟩
            rw [← hs] at hcell
            clear hs hA hL h
            by_cases hbb : 1048576 - t < (s.size : Int)
            · go_wp2
              go_ret
              exact ⟨⟨-1, rfl, by omega, by omega⟩, rfl⟩
            · go_wp2
              go_round
              case rel => exact ⟨k + 1, t + s.size, by omega, by omega, by omega, by go_num, rfl⟩
              case measure => simp [intOf]; omega
          · go_wp2
            go_ret
            exact ⟨⟨t, rfl, by omega, by omega⟩, rfl⟩

/-- The first k strings are alike. -/
def sameS (L M : List ByteArray) (k : Nat) : Prop := L.take k = M.take k
theorem sameS_zero (L M : List ByteArray) : sameS L M 0 := by simp [sameS]
theorem sameS_succ {L M : List ByteArray} {k : Nat} (hx : k < L.length) (hy : k < M.length) (h : sameS L M k) (e : L[k] = M[k]) : sameS L M (k + 1) := by
  unfold sameS at *
  rw [List.take_succ_eq_append_getElem hx, List.take_succ_eq_append_getElem hy, h, e]
theorem sameS_all {L M : List ByteArray} (hl : L.length = M.length) (h : sameS L M L.length) : L = M := by
  unfold sameS at h
  rwa [List.take_of_length_le (Nat.le_refl _), List.take_of_length_le (by omega)] at h
theorem str_eq {a b : ByteArray} (h : (a.toList == b.toList) = true) : a = b := by
  rw [beq_iff_eq, ByteArray.toList_eq, ByteArray.toList_eq] at h
  exact WideShapes.bytes_inj h
theorem str_ne {a b : ByteArray} (h : (a.toList == b.toList) = false) : a ≠ b := by
  rintro rfl
  simp at h

set_option maxHeartbeats 400000 in
/-- zzSameStrings. -/
theorem same_walk (ao am : Option Addr) (n m c d : Nat) (L M : List ByteArray) (w : World) (h : Ss w (.slice ao n c) L) (h2 : Ss w (.slice am m d) M) (hn : n ≤ 1048576) (hm : m ≤ 1048576) :
    Calls Tryd.prog 14 #[.slice ao n c, .slice am m d] w fun e w' => e = .returned (.bool (decide (L = M))) ∧ ∃ q, w' = w.drewN q := by
  have hL := h.len
  have hM := h2.len
  by_cases hnm : n = m
  · subst hnm
    have HL : Hid (n = L.length) := hL
    have HM : Hid (n = M.length) := hM
    clear hL hM
    go_enter Tryd.func14, Tryd.ntmps14
    go_wp2
    go_loopw [5] (fun i wr => ∃ k : Nat, k ≤ n ∧ i = .int .i64 k ∧ Hid (sameS L M k) ∧ ∃ q, wr = w.drewN q) (fun i _ => n - (intOf i).toNat)
    case atStart => exact ⟨0, Nat.zero_le _, rfl, sameS_zero L M, 0, rfl⟩
    case round =>
      obtain ⟨k, hk, rfl, HK, q, rfl⟩ := hrel
      by_cases hlt : k < n
      · obtain ⟨b, o, rfl, hq1, hA, hq2⟩ := h.at (by omega)
        obtain ⟨b2, o2, rfl, hq3, hB, hq4⟩ := h2.at (by omega)
        clear hq1 hq2 hq3 hq4
        have hkL : k < L.length := by have := HL.out; omega
        have hkM : k < M.length := by have := HM.out; omega
        have hca := hA k hkL
        have hcb := hB k hkM
        obtain ⟨s, hs⟩ : ∃ s, s = L[k] := ⟨_, rfl⟩
        obtain ⟨t, ht⟩ : ∃ t, t = M[k] := ⟨_, rfl⟩
        rw [← hs] at hca
        rw [← ht] at hcb
        have HS : Hid (s = L[k]) := hs
        have HT : Hid (t = M[k]) := ht
        clear hs ht hA hB h h2
        go_wp2
        go_quiet (fail)
        go_wp2
        · have hne : (!s.toList == t.toList) = true := by assumption
          have HE : Hid (¬ L = M) := fun e => str_ne (by simpa using hne) (by rw [HS.out, HT.out]; simp [e])
          go_ret
          exact ⟨ret_bool (decide_eq_false HE.out).symm, q + nq, World.drewN_drewN ..⟩
        · have heq : (!s.toList == t.toList) = false := by assumption
          go_roundw
          case rel => exact ⟨k + 1, by omega, by go_num, sameS_succ hkL hkM HK.out (by rw [← HS.out, ← HT.out]; exact str_eq (by simpa using heq)), q + nq, rfl⟩
          case measure => simp [intOf]; omega
      · have hke : k = n := by omega
        subst hke
        have HE : Hid (L = M) := sameS_all (by rw [← HL.out, ← HM.out]) (HL.out ▸ HK.out)
        go_wp2
        go_ret
        exact ⟨ret_bool (decide_eq_true HE.out).symm, q, rfl⟩
  · have hne : ¬ L = M := fun e => hnm (by rw [hL, hM, e])
    have HE : Hid (¬ L = M) := hne
    clear hne hL hM h h2
    go_enter Tryd.func14, Tryd.ntmps14
    go_wp2
    all_goals go_ret
    all_goals exact ⟨ret_bool (decide_eq_false HE.out).symm, 0, rfl⟩

theorem nodup_no {L : List ByteArray} {a b : Nat} (ha : a < L.length) (hb : b < L.length) (hab : a < b) (e : L[a] = L[b]) : ¬ L.Nodup := by
  intro h
  exact List.pairwise_iff_getElem.1 h a b ha hb hab e
/-- No string before place k stands again. -/
def apartS (L : List ByteArray) (k : Nat) : Prop := ∀ (a b : Nat) (ha : a < L.length) (hb : b < L.length), a < k → a < b → L[a] ≠ L[b]
theorem apartS_all {L : List ByteArray} (h : apartS L L.length) : L.Nodup :=
  List.pairwise_iff_getElem.2 fun a b ha hb hab => h a b ha hb ha hab

theorem inner_step {L : List ByteArray} {k m : Nat} (h : ∀ (b : Nat) (ha : k < L.length) (hb : b < L.length), k < b → b < m → L[k] ≠ L[b]) {hk : k < L.length} {hm : m < L.length} (e : L[k] ≠ L[m]) :
    ∀ (b : Nat) (ha : k < L.length) (hb : b < L.length), k < b → b < m + 1 → L[k] ≠ L[b] := by
  intro b ha hb h1 h2
  by_cases hbm : b = m
  · subst hbm; exact e
  · exact h b ha hb h1 (by omega)
theorem outer_step {L : List ByteArray} {k : Nat} (h : apartS L k) (h2 : ∀ (b : Nat) (ha : k < L.length) (hb : b < L.length), k < b → b < L.length → L[k] ≠ L[b]) : apartS L (k + 1) := by
  intro a b ha hb h1 h3
  by_cases hak : a = k
  · subst hak; exact h2 b ha hb h3 hb
  · exact h a b ha hb (by omega) h3

set_option maxHeartbeats 400000 in
/-- zzAllDistinct. -/
theorem distinct_walk (ao : Option Addr) (n c : Nat) (L : List ByteArray) (w : World) (h : Ss w (.slice ao n c) L) (hn : n ≤ 1048576) :
    Calls Tryd.prog 11 #[.slice ao n c] w fun e w' => e = .returned (.bool (decide L.Nodup)) ∧ ∃ q, w' = w.drewN q := by
  have HL : Hid (n = L.length) := h.len
  go_enter Tryd.func11, Tryd.ntmps11
  go_wp2
  go_loopw [3] (fun i wr => ∃ k : Nat, k ≤ n ∧ i = .int .i64 k ∧ Hid (apartS L k) ∧ ∃ q, wr = w.drewN q) (fun i _ => n - (intOf i).toNat)
  case atStart => exact ⟨0, Nat.zero_le _, rfl, fun a b ha hb h0 => by omega, 0, rfl⟩
  case round =>
    obtain ⟨k, hk, rfl, HK, q, rfl⟩ := hrel
    by_cases hlt : k < n
    · go_wp2
      go_loopw [4] (fun j wq => ∃ m : Nat, k < m ∧ m ≤ n ∧ j = .int .i64 m ∧ Hid (∀ (b : Nat) (ha : k < L.length) (hb : b < L.length), k < b → b < m → L[k] ≠ L[b]) ∧ ∃ q2, wq = w.drewN q2) (fun j _ => n - (intOf j).toNat)
      case atStart => exact ⟨k + 1, by omega, by omega, by go_num, fun b ha hb h1 h2 => by omega, q, rfl⟩
      case round =>
        obtain ⟨m, hkm, hm, rfl, HM, q2, rfl⟩ := hrel
        by_cases hml : m < n
        · obtain ⟨b, o, rfl, hq1, hA, hq2⟩ := h.at (by omega)
          clear hq1 hq2
          have hkL : k < L.length := by have := HL.out; omega
          have hmL : m < L.length := by have := HL.out; omega
          have hca := hA k hkL
          have hcb := hA m hmL
          obtain ⟨s, hs⟩ : ∃ s, s = L[k] := ⟨_, rfl⟩
          obtain ⟨t, ht⟩ : ∃ t, t = L[m] := ⟨_, rfl⟩
          rw [← hs] at hca
          rw [← ht] at hcb
          have HS : Hid (s = L[k]) := hs
          have HT : Hid (t = L[m]) := ht
          clear hs ht hA h
          go_wp2
          go_quiet (fail)
          go_wp2
          · have heq : (s.toList == t.toList) = true := by assumption
            have HE : Hid (¬ L.Nodup) := nodup_no hkL hmL hkm (by rw [← HS.out, ← HT.out]; exact str_eq heq)
            go_ret
            exact ⟨ret_bool (decide_eq_false HE.out).symm, q2 + nq, World.drewN_drewN ..⟩
          · have hne : (s.toList == t.toList) = false := by assumption
            go_roundw
            case rel => exact ⟨m + 1, by omega, by omega, by go_num, inner_step HM.out (by rw [← HS.out, ← HT.out]; exact str_ne hne), q2 + nq, rfl⟩
            case measure => simp [intOf]; omega
        · have hme : m = n := by omega
          subst hme
          go_wp2
          go_roundw
          case rel => exact ⟨k + 1, by omega, by go_num, outer_step HK.out (HL.out ▸ HM.out), q2, rfl⟩
          case measure => simp [intOf]; omega
    · have hke : k = n := by omega
      subst hke
      have HE : Hid L.Nodup := apartS_all (HL.out ▸ HK.out)
      go_wp2
      go_ret
      exact ⟨ret_bool (decide_eq_true HE.out).symm, q, rfl⟩

theorem Tryd.info9 : (Tryd.prog.info? 9).map (fun i => (i.zero, i.size, i.bytes)) = some (some (.string ByteArray.empty), 1, 16) := by kernel_rfl
/-- n empty strings. -/
def zs (n : Nat) : Array Value := (List.replicate n (Value.string ByteArray.empty)).toArray
theorem make_run (n : Nat) (hn : n ≤ 1048576) (w : World) : (Instr.makeSlice 22 (.int .i64 (n : Int)) (.int .i64 (n : Int))).run Tryd.prog w =
    .ok (.slice (some ⟨w.heap.size, 0, none⟩) n n) (w.alloc (.cells (zs n) 9)) := by
  obtain ⟨i0, hi, hz0, hz1, hz2⟩ := info_parts Tryd.info9
  have h := run_make (P := Tryd.prog) w 22 9 i0 (.string ByteArray.empty) Tryd.underlying22 hi hz0 .i64 .i64 (n : Int) (n : Int) (by omega) (by omega) (by rw [hz2]; omega) (by omega)
  rw [h, hz1, Int.toNat_natCast, Nat.mul_one]
  have e : madeCells (Value.string ByteArray.empty).cells n = zs n := by
    apply Array.toList_inj.1
    have := toList_madeCells_one (.string ByteArray.empty) n
    rw [show (Value.string ByteArray.empty).cells = #[Value.string ByteArray.empty] from rfl, this, zs]
  rw [e]
/-- What zzCloneStrings has laid behind k rounds. -/
def fc (L : List ByteArray) (k : Nat) : Array Value := ((L.take k).map Value.string ++ List.replicate (L.length - k) (Value.string ByteArray.empty)).toArray
theorem fc_zero (L : List ByteArray) : fc L 0 = zs L.length := by simp [fc, zs]
theorem fc_all (L : List ByteArray) : fc L L.length = (L.map Value.string).toArray := by simp [fc]
theorem fc_old (L : List ByteArray) (k : Nat) (h : k < L.length) : (fc L k)[k]? = some (.string ByteArray.empty) := by
  unfold fc
  have hl : ((L.take k).map Value.string).length = k := by simp; omega
  rw [List.getElem?_toArray, List.getElem?_append_right (by omega), hl, Nat.sub_self, List.getElem?_replicate, if_pos (by omega)]
theorem fc_step (L : List ByteArray) (k : Nat) (h : k < L.length) : (fc L k).setIfInBounds k (.string L[k]) = fc L (k + 1) := by
  have hl : ((L.take k).map Value.string).length = k := by simp; omega
  have hr : L.length - k = (L.length - (k + 1)) + 1 := by omega
  unfold fc
  rw [List.setIfInBounds_toArray, List.set_append_right _ _ (by omega), hl, Nat.sub_self, hr, List.replicate_succ, List.set_cons_zero, List.take_succ_eq_append_getElem h]
  simp only [List.map_append, List.map_cons, List.map_nil, List.append_assoc, List.cons_append, List.nil_append]
theorem ss_of_block {w : World} {g n : Nat} {L : List ByteArray} (h : w.heap[g]? = some (.cells (L.map Value.string).toArray 9 (0, 0))) (hn : n = L.length) (nx : n ≤ 1048576) : Ss w (.slice (some ⟨g, 0, none⟩) n n) L := by
  subst hn
  by_cases h0 : L.length = 0
  · have : L = [] := List.length_eq_zero_iff.1 h0
    subst this
    exact .inr (.inl ⟨_, _, rfl, rfl⟩)
  · refine .inr (.inr ⟨g, 0, L.length, rfl, by omega, Nat.le_refl _, by unfold maxLen; omega, fun j hj => ?_, ?_⟩)
    · simp [World.cell?, h, hj]
    · exact (Array.getElem?_eq_some_iff.1 h).1

set_option maxHeartbeats 400000 in
/-- zzCloneStrings. -/
theorem clone_walk (ao : Option Addr) (n c : Nat) (L : List ByteArray) (w : World) (h : Ss w (.slice ao n c) L) (hn : n ≤ 1048576) :
    Calls Tryd.prog 12 #[.slice ao n c] w fun e w' => (∃ v', e = .returned v' ∧ Ss w' v' L) ∧ Below w.heap.size w w' := by
  have hq : ∀ a l d wx, (binOp .eql 22 (.slice a l d) (.slice none 0 0)).run Tryd.prog wx = .ok (.bool a.isNone) wx := fun a l d wx => Lib.run_eql_slice_nil wx 22 9 a l d 0 0 Tryd.underlying22
  have hmk := make_run n hn
  have HL : Hid (n = L.length) := h.len
  cases ao with
  | none =>
    go_enter Tryd.func12, Tryd.ntmps12
    go_wp2
    go_ret
    exact ⟨⟨_, rfl, .inl ⟨rfl, h.none_nil⟩⟩, Below.refl _ _⟩
  | some a =>
    go_enter Tryd.func12, Tryd.ntmps12
    go_wp2
    go_loopw [4] (fun i wr => ∃ k : Nat, k ≤ n ∧ i = .int .i64 k ∧ wr = w.alloc (.cells (fc L k) 9)) (fun i _ => n - (intOf i).toNat)
    case atStart => exact ⟨0, Nat.zero_le _, rfl, by rw [fc_zero, ← HL.out]⟩
    case round =>
      obtain ⟨k, hk, rfl, rfl⟩ := hrel
      by_cases hlt : k < n
      · obtain ⟨b, o, hab, hq1, hA, hbw⟩ := h.at (by omega)
        obtain rfl := Option.some.inj hab
        clear hq1 hab
        have hkL : k < L.length := by have := HL.out; omega
        have hcell := hA k hkL
        have hold := fc_old L k hkL
        have HS : Hid ((fc L k).setIfInBounds k (.string L[k]) = fc L (k + 1)) := fc_step L k hkL
        go_wp2
        go_roundw
        case rel => exact ⟨k + 1, by omega, by go_num, by rw [HS.out]⟩
        case measure => simp [intOf]; omega
      · have hke : k = n := by omega
        subst hke
        go_wp2
        go_ret
        exact ⟨⟨_, rfl, ss_of_block (by rw [HL.out, fc_all]; exact heap_alloc_new _ _) HL.out hn⟩, (Below.refl _ _).alloc (Nat.le_refl _) _⟩
end Go.Proofs.Qxb6600738aDoor
