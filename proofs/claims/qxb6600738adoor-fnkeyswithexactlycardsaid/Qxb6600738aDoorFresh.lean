import Derived.Test.Qxb6600738aDoorMore
/-! zzFreshName, zzBytes_FnKeysWithExactly. -/
namespace Go.Proofs.Qxb6600738aDoor
open Go.RowKit

/-- It answers, and where it answers yes no string is long. -/
def AnswersFit (L M : List ByteArray) (e : Ending) : Prop := ∃ b, e = .returned (.bool b) ∧ (b = true → (L.length ≤ 1048576 ∧ M.length ≤ 1048576) ∧ (∀ s ∈ L, s.size ≤ 1048576) ∧ ∀ s ∈ M, s.size ≤ 1048576)
theorem fit_no (L M : List ByteArray) : AnswersFit L M (.returned (.bool false)) := ⟨false, rfl, fun h => by cases h⟩
/-- The first k are not long. -/
def fitS (L : List ByteArray) (t k : Nat) : Prop := ∀ s ∈ L.take k, s.size ≤ t
theorem fitS_zero (L : List ByteArray) (t : Nat) : fitS L t 0 := by intro s hs; simp at hs
theorem fitS_step {L : List ByteArray} {t k : Nat} {s : ByteArray} (h : fitS L t k) (hk : k < L.length) (e : s = L[k]) (hs : s.size ≤ t) : fitS L t (k + 1) := by
  intro u hu
  rw [List.take_succ_eq_append_getElem hk, ← e] at hu
  rcases List.mem_append.1 hu with hu | hu
  · exact h u hu
  · rw [List.mem_singleton.1 hu]; exact hs
theorem fitS_mono {L : List ByteArray} {t u k : Nat} (h : fitS L t k) (hu : t ≤ u) : fitS L u k := fun s hs => Nat.le_trans (h s hs) hu
theorem fitS_all {L : List ByteArray} {t : Nat} (h : fitS L t L.length) : ∀ s ∈ L, s.size ≤ t := by
  unfold fitS at h
  rw [List.take_of_length_le (Nat.le_refl _)] at h
  exact h

set_option maxHeartbeats 1000000 in
/-- zzBytes_FnKeysWithExactly. -/
theorem bytes24_walk (ao am : Option Addr) (n m c d : Nat) (r o p q : Int) (L M : List ByteArray) (w : World) (h : Ss w (.slice ao n c) L) (h2 : Ss w (.slice am m d) M) (hn : n ≤ maxLen) (hm : m ≤ maxLen) :
    Calls Tryd.prog 24 #[.slice ao n c, .int .u64 r, .int .u64 o, .slice am m d, .int .u64 p, .int .u64 q] w fun e w' => AnswersFit L M e ∧ w' = w := by
  have HL : Hid (n = L.length) := h.len
  have HM : Hid (m = M.length) := h2.len
  unfold maxLen at hn hm
  by_cases hbig : n ≤ 1048576
  · go_enter Tryd.func24, Tryd.ntmps24
    go_wp2
    go_loop [13, 14] (fun z i => ∃ k t : Nat, k ≤ n ∧ t ≤ 1048576 ∧ i = .int .i64 k ∧ z = .int .i64 t ∧ Hid (fitS L 1048576 k)) (fun _ i => n - (intOf i).toNat)
    case atStart => exact ⟨0, n, Nat.zero_le _, hbig, rfl, rfl, fitS_zero _ _⟩
    case round =>
      obtain ⟨k, t, hk, ht, rfl, rfl, HK⟩ := hrel
      by_cases hlt : k < n
      · obtain ⟨b, of, rfl, hL, hA, hq2⟩ := h.at (by omega)
        have hkL : k < L.length := by have := HL.out; omega
        have hcell := hA k hkL
        obtain ⟨s, hs⟩ : ∃ s, s = L[k] := ⟨_, rfl⟩
        rw [← hs] at hcell
        have HS : Hid (s = L[k]) := hs
        clear hs hA hL h hq2
        by_cases hsz : s.size ≤ 1048576
        · go_wp2
          · go_ret
            exact ⟨fit_no _ _, rfl⟩
          · go_round
            case rel => exact ⟨k + 1, t + s.size, by omega, by omega, by go_num, by go_num, fitS_step HK.out hkL HS.out hsz⟩
            case measure => simp [intOf]; omega
        · go_wp2
          go_ret
          exact ⟨fit_no _ _, rfl⟩
      · have hke : k = n := by omega
        subst hke
        have HF : Hid (∀ s ∈ L, s.size ≤ 1048576) := fitS_all (HL.out ▸ HK.out)
        clear h
        by_cases hmb : m ≤ 1048576
        · by_cases htm : t + m ≤ 1048576
          · go_wp2
            go_loop [13, 15] (fun z i => ∃ j t : Nat, j ≤ m ∧ t ≤ 1048576 ∧ i = .int .i64 j ∧ z = .int .i64 t ∧ Hid (fitS M 1048576 j)) (fun _ i => m - (intOf i).toNat)
            case atStart => exact ⟨0, t + m, Nat.zero_le _, htm, rfl, by go_num, fitS_zero _ _⟩
            case round =>
              obtain ⟨j, t2, hj, ht2, rfl, rfl, HJ⟩ := hrel
              by_cases hjt : j < m
              · obtain ⟨b, of, rfl, hL, hA, hq2⟩ := h2.at (by omega)
                have hjM : j < M.length := by have := HM.out; omega
                have hcell := hA j hjM
                obtain ⟨s, hs⟩ : ∃ s, s = M[j] := ⟨_, rfl⟩
                rw [← hs] at hcell
                have HS : Hid (s = M[j]) := hs
                clear hs hA hL h2 hq2
                by_cases hsz : s.size ≤ 1048576
                · go_wp2
                  · go_ret
                    exact ⟨fit_no _ _, rfl⟩
                  · go_round
                    case rel => exact ⟨j + 1, t2 + s.size, by omega, by omega, by go_num, by go_num, fitS_step HJ.out hjM HS.out hsz⟩
                    case measure => simp [intOf]; omega
                · go_wp2
                  go_ret
                  exact ⟨fit_no _ _, rfl⟩
              · have hje : j = m := by omega
                subst hje
                go_wp2
                go_ret
                exact ⟨⟨true, rfl, fun _ => ⟨⟨by rw [← HL.out]; exact hbig, by rw [← HM.out]; exact hmb⟩, HF.out, fitS_all (HM.out ▸ HJ.out)⟩⟩, rfl⟩
          · go_wp2
            go_ret
            exact ⟨fit_no _ _, rfl⟩
        · go_wp2
          go_ret
          exact ⟨fit_no _ _, rfl⟩
  · go_enter Tryd.func24, Tryd.ntmps24
    go_wp2
    go_ret
    exact ⟨fit_no _ _, rfl⟩

theorem Tryd.info5 : (Tryd.prog.info? 5).map (fun i => (i.zero, i.size, i.bytes)) = some (some (.int .u8 0), 1, 1) := by kernel_rfl
/-- k z's and then zeros, n in all. -/
def fz (n k : Nat) : Array Value := (List.replicate k (Value.int .u8 122) ++ List.replicate (n - k) (Value.int .u8 0)).toArray
theorem make56_run (n : Nat) (hn : n ≤ 1048577) (w : World) : (Instr.makeSlice 56 (.int .i64 (n : Int)) (.int .i64 (n : Int))).run Tryd.prog w =
    .ok (.slice (some ⟨w.heap.size, 0, none⟩) n n) (w.alloc (.cells (fz n 0) 5)) := by
  obtain ⟨i0, hi, hz0, hz1, hz2⟩ := info_parts Tryd.info5
  have h := run_make (P := Tryd.prog) w 56 5 i0 (.int .u8 0) Tryd.underlying56 hi hz0 .i64 .i64 (n : Int) (n : Int) (by omega) (by omega) (by rw [hz2]; omega) (by omega)
  rw [h, hz1, Int.toNat_natCast, Nat.mul_one]
  have e : madeCells (Value.int .u8 0).cells n = fz n 0 := by
    apply Array.toList_inj.1
    have := toList_madeCells_one (.int .u8 0) n
    rw [show (Value.int .u8 0).cells = #[Value.int .u8 0] from rfl, this, fz]
    simp
  rw [e]
theorem fz_old (n k : Nat) (h : k < n) : (fz n k)[k]? = some (.int .u8 0) := by
  unfold fz
  rw [List.getElem?_toArray, List.getElem?_append_right (by simp), List.length_replicate, Nat.sub_self, List.getElem?_replicate, if_pos (by omega)]
theorem fz_step (n k : Nat) (h : k < n) : (fz n k).setIfInBounds k (.int .u8 122) = fz n (k + 1) := by
  have hr : n - k = (n - (k + 1)) + 1 := by omega
  unfold fz
  rw [List.setIfInBounds_toArray, List.set_append_right _ _ (by simp), List.length_replicate, Nat.sub_self, hr, List.replicate_succ, List.set_cons_zero, List.replicate_succ']
  simp only [List.append_assoc, List.cons_append, List.nil_append]
/-- n z's. -/
def zz (n : Nat) : ByteArray := ⟨(List.replicate n (122 : UInt8)).toArray⟩
theorem zz_size (n : Nat) : (zz n).size = n := by simp [zz, ByteArray.size]
theorem zz_run (n c : Nat) (w : World) : (convert 56 9 (.slice (some ⟨w.heap.size, 0, none⟩) n c)).run Tryd.prog (w.alloc (.cells (fz n n) 5)) = .ok (.string (zz n)) (w.alloc (.cells (fz n n) 5)) := by
  have h := run_convert_bytes_back (P := Tryd.prog) (w.alloc (.cells (fz n n) 5)) 56 9 5 ⟨w.heap.size, 0, none⟩ c (List.replicate n (122 : UInt8)) Tryd.underlying56 Tryd.underlying5 Tryd.underlying9 (fun j hj => by
    rw [WideShapes.add_plain, Nat.zero_add]
    have hj' : j < n := by simpa using hj
    have e : (fz n n)[j]? = some (.int .u8 122) := by simp [fz, hj']
    rw [List.getElem_replicate]
    go_simp)
  rw [List.length_replicate] at h
  exact h

set_option maxHeartbeats 1000000 in
/-- zzFreshName. -/
theorem fresh_walk (ao : Option Addr) (n c : Nat) (L : List ByteArray) (w : World) (h : Ss w (.slice ao n c) L) (hn : n ≤ 1048576) (hfit : ∀ s ∈ L, s.size ≤ 1048576) :
    Calls Tryd.prog 28 #[.slice ao n c] w fun e w' => (∃ s, e = .returned (.string s) ∧ s ∉ L) ∧ Below w.heap.size w w' := by
  have HL : Hid (n = L.length) := h.len
  have HF : Hid (∀ s ∈ L, s.size ≤ 1048576) := hfit
  clear hfit
  go_enter Tryd.func28, Tryd.ntmps28
  go_wp2
  go_loop [3, 4] (fun z i => ∃ k t : Nat, k ≤ n ∧ t ≤ 1048576 ∧ i = .int .i64 k ∧ z = .int .i64 t ∧ Hid (fitS L t k)) (fun _ i => n - (intOf i).toNat)
  case atStart => exact ⟨0, 0, Nat.zero_le _, by omega, rfl, rfl, fitS_zero _ _⟩
  case round =>
    obtain ⟨k, t, hk, ht, rfl, rfl, HK⟩ := hrel
    by_cases hlt : k < n
    · obtain ⟨b, of, rfl, hL, hA, hq2⟩ := h.at (by omega)
      have hkL : k < L.length := by have := HL.out; omega
      have hcell := hA k hkL
      have hfs : L[k].size ≤ 1048576 := HF.out _ (List.getElem_mem hkL)
      obtain ⟨s, hs⟩ : ∃ s, s = L[k] := ⟨_, rfl⟩
      rw [← hs] at hcell hfs
      have HS : Hid (s = L[k]) := hs
      clear hs hA hL h hq2
      by_cases hgt : t < s.size
      · go_wp2
        go_round
        case rel => exact ⟨k + 1, s.size, by omega, hfs, by go_num, rfl, fitS_step (fitS_mono HK.out (by omega)) hkL HS.out (Nat.le_refl _)⟩
        case measure => simp [intOf]; omega
      · go_wp2
        go_round
        case rel => exact ⟨k + 1, t, by omega, ht, by go_num, rfl, fitS_step HK.out hkL HS.out (by omega)⟩
        case measure => simp [intOf]; omega
    · have hke : k = n := by omega
      subst hke
      have HT : Hid (∀ s ∈ L, s.size ≤ t) := fitS_all (HL.out ▸ HK.out)
      have hmk := make56_run (t + 1) (by omega)
      have hmk2 : ∀ wx : World, (Instr.makeSlice 56 (.int .i64 ((t : Int) + 1)) (.int .i64 ((t : Int) + 1))).run Tryd.prog wx = .ok (.slice (some ⟨wx.heap.size, 0, none⟩) (t + 1) (t + 1)) (wx.alloc (.cells (fz (t + 1) 0) 5)) := hmk
      clear h hmk
      go_wp2
      go_loopw [6] (fun i wr => ∃ j : Nat, j ≤ t + 1 ∧ i = .int .i64 j ∧ wr = w.alloc (.cells (fz (t + 1) j) 5)) (fun i _ => t + 1 - (intOf i).toNat)
      case atStart => exact ⟨0, Nat.zero_le _, rfl, rfl⟩
      case round =>
        obtain ⟨j, hj, rfl, rfl⟩ := hrel
        by_cases hjt : j < t + 1
        · have hold := fz_old (t + 1) j hjt
          have HS : Hid ((fz (t + 1) j).setIfInBounds j (.int .u8 122) = fz (t + 1) (j + 1)) := fz_step (t + 1) j hjt
          go_wp2
          go_roundw
          case rel => exact ⟨j + 1, by omega, by go_num, by rw [HS.out]⟩
          case measure => simp [intOf]; omega
        · have hje : j = t + 1 := by omega
          subst hje
          have hcv := zz_run (t + 1) (t + 1) w
          go_wp2
          go_ret
          exact ⟨⟨zz (t + 1), rfl, fun hm => by have := HT.out _ hm; rw [zz_size] at this; omega⟩, (Below.refl _ _).alloc (Nat.le_refl _) _⟩
end Go.Proofs.Qxb6600738aDoor
