import Derived.Test.Qxb6600738aDoorBuild
/-! MORE SMALL FUNCTIONS: zzBytes_FnKeysAddLeavesItsSourceAlone, zzAddString, zzContains, zzConcat. -/
namespace Go.Proofs.Qxb6600738aDoor
open Go.RowKit

set_option maxHeartbeats 1000000 in
/-- zzBytes_FnKeysAddLeavesItsSourceAlone: it answers. -/
theorem bytes19_walk (ao : Option Addr) (n c : Nat) (req : Int) (x y : ByteArray) (p q : Bool) (L : List ByteArray) (w : World) (h : Ss w (.slice ao n c) L) (hn : n ≤ maxLen) (hx : x.size ≤ maxLen) (hy : y.size ≤ maxLen) :
    Calls Tryd.prog 19 #[.slice ao n c, .int .u64 req, .string x, .bool p, .string y, .bool q] w fun e w' => AnswersB e ∧ w' = w := by
  unfold maxLen at hn hx hy
  by_cases hbig : n ≤ 1048576
  · go_enter Tryd.func19, Tryd.ntmps19
    go_wp2
    go_loop [13, 14] (fun z i => ∃ k t : Nat, k ≤ n ∧ t ≤ 1048576 ∧ i = .int .i64 k ∧ z = .int .i64 t) (fun _ i => n - (intOf i).toNat)
    case atStart => exact ⟨0, n, Nat.zero_le _, hbig, rfl, rfl⟩
    case round =>
      obtain ⟨k, t, hk, ht, rfl, rfl⟩ := hrel
      by_cases hlt : k < n
      · obtain ⟨b, o, rfl, hL, hA, _⟩ := h.at (by omega)
        have hcell := hA k (by omega)
        obtain ⟨s, hs⟩ : ∃ s, s = L[k] := ⟨_, rfl⟩
        rw [← hs] at hcell
        clear hs hA hL h
        go_wp2
        · go_ret
          exact ⟨⟨_, rfl⟩, rfl⟩
        · go_ret
          exact ⟨⟨_, rfl⟩, rfl⟩
        · go_round
          case rel => exact ⟨k + 1, t + s.size, by omega, by omega, by go_num, by go_num⟩
          case measure => simp [intOf]; omega
      · go_wp2
        all_goals
          go_ret
          exact ⟨⟨_, rfl⟩, rfl⟩
  · go_enter Tryd.func19, Tryd.ntmps19
    go_wp2
    go_ret
    exact ⟨⟨_, rfl⟩, rfl⟩

set_option maxHeartbeats 400000 in
/-- zzAddString. -/
theorem addString_walk (t0 : Int) (s : ByteArray) (w : World) (ht0 : -1 ≤ t0) (ht1 : t0 ≤ 1048576) :
    Calls Tryd.prog 20 #[.int .i64 t0, .string s] w fun e w' => (∃ t : Int, e = .returned (.int .i64 t) ∧ -1 ≤ t ∧ t ≤ 1048576) ∧ w' = w := by
  by_cases hneg : t0 < 0
  · go_enter Tryd.func20, Tryd.ntmps20
    go_wp2
    go_ret
    exact ⟨⟨-1, rfl, by omega, by omega⟩, rfl⟩
  · by_cases hb : 1048576 - t0 < (s.size : Int)
    · go_enter Tryd.func20, Tryd.ntmps20
      go_wp2
      go_ret
      exact ⟨⟨-1, rfl, by omega, by omega⟩, rfl⟩
    · go_enter Tryd.func20, Tryd.ntmps20
      go_wp2
      go_ret
      exact ⟨⟨t0 + s.size, rfl, by omega, by omega⟩, rfl⟩

/-- x is one of L. -/
def memb (x : ByteArray) (L : List ByteArray) : Bool := L.any fun y => decide (y = x)
theorem memb_yes {x : ByteArray} {L : List ByteArray} (h : x ∈ L) : memb x L = true := List.any_eq_true.2 ⟨x, h, decide_eq_true rfl⟩
theorem memb_no {x : ByteArray} {L : List ByteArray} (h : x ∉ L) : memb x L = false := by
  cases e : memb x L with
  | false => rfl
  | true =>
    obtain ⟨y, hy, h2⟩ := List.any_eq_true.1 e
    exact absurd ((of_decide_eq_true h2) ▸ hy) h

theorem not_in_step {L : List ByteArray} {k : Nat} {x : ByteArray} (hk : k < L.length) (h : x ∉ L.take k) (e : L[k] ≠ x) : x ∉ L.take (k + 1) := by
  rw [List.take_succ_eq_append_getElem hk, List.mem_append]
  rintro (h1 | h1)
  · exact h h1
  · exact e (List.mem_singleton.1 h1).symm

set_option maxHeartbeats 400000 in
/-- zzContains. -/
theorem contains_walk (ao : Option Addr) (n c : Nat) (x : ByteArray) (L : List ByteArray) (w : World) (h : Ss w (.slice ao n c) L) (hn : n ≤ 1048576) :
    Calls Tryd.prog 21 #[.slice ao n c, .string x] w fun e w' => e = .returned (.bool (memb x L)) ∧ w' = w := by
  have HL : Hid (n = L.length) := h.len
  go_enter Tryd.func21, Tryd.ntmps21
  go_wp2
  go_loop [5] (fun i => ∃ k : Nat, k ≤ n ∧ i = .int .i64 k ∧ Hid (x ∉ L.take k)) (fun i => n - (intOf i).toNat)
  case atStart => exact ⟨0, Nat.zero_le _, rfl, by show x ∉ _; simp⟩
  case round =>
    obtain ⟨k, hk, rfl, HK⟩ := hrel
    by_cases hlt : k < n
    · obtain ⟨b, o, rfl, hq1, hA, hq2⟩ := h.at (by omega)
      clear hq1 hq2
      have hkL : k < L.length := by have := HL.out; omega
      have hca := hA k hkL
      obtain ⟨s, hs⟩ : ∃ s, s = L[k] := ⟨_, rfl⟩
      rw [← hs] at hca
      have HS : Hid (s = L[k]) := hs
      clear hs hA h
      go_wp2
      · have heq : (s.toList == x.toList) = true := by assumption
        have HE : Hid (x ∈ L) := by show x ∈ L; rw [← str_eq heq, HS.out]; exact List.getElem_mem _
        go_ret
        exact ⟨ret_bool (memb_yes HE.out).symm, rfl⟩
      · have hne : (s.toList == x.toList) = false := by assumption
        go_round
        case rel => exact ⟨k + 1, by omega, by go_num, not_in_step hkL HK.out (by rw [← HS.out]; exact str_ne hne)⟩
        case measure => simp [intOf]; omega
    · have hke : k = n := by omega
      subst hke
      have HE : Hid (x ∉ L) := by
        have := HK.out
        rw [HL.out, List.take_of_length_le (Nat.le_refl _)] at this
        exact this
      go_wp2
      go_ret
      exact ⟨ret_bool (memb_no HE.out).symm, rfl⟩

/-- Strings as cells. -/
def sv (L : List ByteArray) : List Value := L.map Value.string

theorem sv_step {L : List ByteArray} {k : Nat} {s : ByteArray} (hk : k < L.length) (e : s = L[k]) : sv (L.take (k + 1)) = sv (L.take k) ++ [.string s] := by
  rw [List.take_succ_eq_append_getElem hk, ← e]
  simp only [sv, List.map_append, List.map_cons, List.map_nil]
theorem sv_step2 {L M : List ByteArray} {k : Nat} {s : ByteArray} (hk : k < M.length) (e : s = M[k]) : sv (L ++ M.take (k + 1)) = sv (L ++ M.take k) ++ [.string s] := by
  rw [List.take_succ_eq_append_getElem hk, ← e]
  simp only [sv, List.map_append, List.map_cons, List.map_nil, List.append_assoc]
theorem below_app {B : Nat} {w0 wr w1 : World} {o : Obj} {g : Nat} (hb : Below B w0 wr) (hg : (wr.alloc o).grownBy w1 (some g)) (h0 : B ≤ w0.heap.size := by simp) (h1 : B ≤ g := by omega) : Below B w0 w1 := by
  have hsz := hb.size
  exact (hb.alloc (by omega) o).grown hg (by simp; omega) (fun k hk => by cases hk; exact h1)
theorem ss_of_own {w : World} {B g n cap : Nat} {L : List ByteArray} (h : w.ownsRow B 9 1 (.slice (some ⟨g, 0, none⟩) n cap) n (sv L)) (hn : n = L.length) (hc : cap ≤ maxLen) : Ss w (.slice (some ⟨g, 0, none⟩) n cap) L := by
  by_cases h0 : n = 0
  · subst h0
    have : L = [] := List.length_eq_zero_iff.1 hn.symm
    subst this
    exact .inr (.inl ⟨_, _, rfl, rfl⟩)
  · obtain ⟨g', cap', e, _, h1, _, _, hA, hg⟩ := own_form (M := L) h (by omega)
    injection e with e1 _ e3
    injection (Option.some.inj e1) with e4
    subst e4; subst e3
    exact .inr (.inr ⟨g, 0, cap, by rw [hn], by omega, by omega, hc, hA, hg⟩)

set_option maxHeartbeats 1000000 in
/-- zzConcat. -/
theorem concat_walk (ao am : Option Addr) (n m c d : Nat) (L M : List ByteArray) (w : World) (h : Ss w (.slice ao n c) L) (h2 : Ss w (.slice am m d) M) (hn : n ≤ 65536) (hm : m ≤ 65536) :
    Calls Tryd.prog 23 #[.slice ao n c, .slice am m d] w fun e w' => e = .returned (.slice (some ⟨w.heap.size, 0, none⟩) (n + m) (n + m)) ∧ Ss w' (.slice (some ⟨w.heap.size, 0, none⟩) (n + m) (n + m)) (L ++ M) ∧ Below w.heap.size w w' := by
  have HL : Hid (n = L.length) := h.len
  have HM : Hid (m = M.length) := h2.len
  obtain ⟨i0, hi, hz0, hz1, hz2⟩ := info_parts Tryd.info9
  have hb2 : i0.bytes * (n + m) ≤ 281474976710656 := by rw [hz2]; omega
  go_enter Tryd.func23, Tryd.ntmps23
  go_wp2_with (at_make; refine wpList_make_own _ rfl _ _ 22 rfl w.heap.size 9 i0 (.string ByteArray.empty) 1 Tryd.underlying22 hi hz0 hz1 .i64 .i64 _ (n + m) rfl rfl (by omega) hb2 (by unfold maxLen; omega) (Nat.le_refl _) ?_; intro w0 hown0 hgrow0)
  go_loopw [5, 6] (fun v i wr => ∃ k : Nat, k ≤ n ∧ i = .int .i64 k ∧ v = .slice (some ⟨w.heap.size, 0, none⟩) k (n + m) ∧ wr.ownsRow w.heap.size 9 1 v k (sv (L.take k)) ∧ Below w.heap.size w wr) (fun _ i _ => n - (intOf i).toNat)
  case atStart => exact ⟨0, Nat.zero_le _, rfl, rfl, by simpa [sv] using hown0, (Below.refl _ _).grown hgrow0 (by simp) (fun _ h => by cases h)⟩
  case round =>
    clear hown0 hgrow0
    obtain ⟨k, hk, rfl, rfl, hown, hb⟩ := hrel
    have hsz := hb.size
    by_cases hlt : k < n
    · obtain ⟨b, o, rfl, hq1, hA, hbw⟩ := h.at (by omega)
      clear hq1
      have hkL : k < L.length := by have := HL.out; omega
      have hcell : wr.cell? ⟨b, o + k, none⟩ = some (.string L[k]) := (hb.cell (p := ⟨b, o + k, none⟩) hbw).trans (hA k hkL)
      obtain ⟨s, hs⟩ : ∃ s, s = L[k] := ⟨_, rfl⟩
      rw [← hs] at hcell
      have HS : Hid (s = L[k]) := hs
      clear hs hA
      go_wp2_with (at_builtin; refine wpList_append_fits _ rfl (.tmp 20) (.tmp 25) 22 rfl w.heap.size 9 i0 1 Tryd.underlying22 hi hz1 w.heap.size k (n + m) _ rfl (hown.alloc _) ⟨wr.heap.size, 0, none⟩ 1 1 [.string s] rfl rfl (cell_one_new _ _ _) (by intro u hu; simp at hu; subst hu; rfl) (by omega) ?_; intro w1 hown1 hgrow1)
      go_roundw
      case rel => exact ⟨k + 1, by omega, by go_num, rfl, by rw [sv_step hkL HS.out]; exact hown1, below_app hb hgrow1⟩
      case measure => simp [intOf]; omega
    · have hke : k = n := by omega
      subst hke
      go_wp2
      go_loopw [5, 7] (fun v i wq => ∃ j : Nat, j ≤ m ∧ i = .int .i64 j ∧ v = .slice (some ⟨w.heap.size, 0, none⟩) (k + j) (k + m) ∧ wq.ownsRow w.heap.size 9 1 v (k + j) (sv (L ++ M.take j)) ∧ Below w.heap.size w wq) (fun _ i _ => m - (intOf i).toNat)
      case atStart => exact ⟨0, Nat.zero_le _, rfl, rfl, by have hf : L.take k = L := List.take_of_length_le (by rw [← HL.out]; exact Nat.le_refl _)
                                                            rw [hf] at hown; simpa using hown, hb⟩
      case round =>
        clear hown
        obtain ⟨j, hj, rfl, rfl, hownq, hbq⟩ := hrel
        have hszq := hbq.size
        by_cases hjm : j < m
        · obtain ⟨b, o, rfl, hq1, hB, hbw⟩ := h2.at (by omega)
          clear hq1
          have hjM : j < M.length := by have := HM.out; omega
          have hcell : wr.cell? ⟨b, o + j, none⟩ = some (.string M[j]) := (hbq.cell (p := ⟨b, o + j, none⟩) hbw).trans (hB j hjM)
          obtain ⟨s, hs⟩ : ∃ s, s = M[j] := ⟨_, rfl⟩
          rw [← hs] at hcell
          have HS : Hid (s = M[j]) := hs
          clear hs hB
          go_wp2_with (at_builtin; refine wpList_append_fits _ rfl (.tmp 33) (.tmp 38) 22 rfl w.heap.size 9 i0 1 Tryd.underlying22 hi hz1 w.heap.size (k + j) (k + m) _ rfl (hownq.alloc _) ⟨wr.heap.size, 0, none⟩ 1 1 [.string s] rfl rfl (cell_one_new _ _ _) (by intro u hu; simp at hu; subst hu; rfl) (by omega) ?_; intro w1 hown1 hgrow1)
          go_roundw
          case rel => exact ⟨j + 1, by omega, by go_num, rfl, by rw [sv_step2 hjM HS.out]; exact hown1, below_app hbq hgrow1⟩
          case measure => simp [intOf]; omega
        · have hje : j = m := by omega
          subst hje
          go_wp2
          go_ret
          refine ⟨rfl, ?_, hbq⟩
          have hf : M.take j = M := List.take_of_length_le (by rw [← HM.out]; exact Nat.le_refl _)
          rw [hf] at hownq
          exact ss_of_own hownq (by rw [List.length_append, ← HL.out, ← HM.out]) (by unfold maxLen; omega)
end Go.Proofs.Qxb6600738aDoor
