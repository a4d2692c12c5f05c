import Derived.Test.Qxb6000950aDoorEnds
import Derived.Deep.DeepCutAuto
/-! THE WALK of FnEndsInNumberModel, out of endsInNumber's and the numeric label's contracts. -/
namespace Go.Proofs.Qxb6000950aDoor
open Go.RowKit

/-- Does the text end in a dot? -/
def dotEnd (s : ByteArray) : Bool := decide (s.data.toList.getLast? = some 46)

theorem last_byte' (s : ByteArray) (h : 0 < s.size) : s.data.toList.getLast? = some s[s.size - 1] := by
  have hlen := (Lib.size_eq s).symm
  rw [List.getLast?_eq_getElem?, hlen, List.getElem?_eq_getElem (by omega)]
  rfl
theorem dot_yes (s : ByteArray) (h : 0 < s.size) : ((s[s.size - 1].toNat : Int) == 46) = dotEnd s := by
  unfold dotEnd
  rw [last_byte' s h, Bool.eq_iff_iff, beq_iff_eq, decide_eq_true_iff, Option.some.injEq]
  constructor
  · intro e; exact byte_is (n := 46) e
  · intro e; rw [e]; rfl
theorem dot_no (s : ByteArray) (h : ¬ 0 < s.size) : false = dotEnd s := by
  unfold dotEnd
  have : s.data.toList = [] := List.length_eq_zero_iff.1 (by rw [← Lib.size_eq]; omega)
  rw [this]; rfl
theorem dot_size (s : ByteArray) (h : dotEnd s = true) : 0 < s.size := by
  rcases Nat.eq_zero_or_pos s.size with h0 | h0
  · rw [← dot_no s (by omega)] at h; cases h
  · exact h0
theorem want_cut (s : ByteArray) (h : dotEnd s = true) : (s.extract 0 (s.size - 1)).data.toList = Plain.want s.data.toList := by
  unfold dotEnd at h
  rw [Lib.extract_from_zero, Plain.want, if_pos (of_decide_eq_true h), List.dropLast_eq_take, ← Lib.size_eq]
theorem want_whole (s : ByteArray) (h : ¬ dotEnd s = true) : s.data.toList = Plain.want s.data.toList := by
  unfold dotEnd at h
  rw [Plain.want, if_neg (fun e => h (decide_eq_true e))]

theorem no_dot_end (t : ByteArray) : ∀ j, t.size ≤ j → t.data.toList[j]? ≠ some 46 := by
  intro j hj
  rw [List.getElem?_eq_none (by rw [← Lib.size_eq]; exact hj)]
  simp

theorem at_byte (t : ByteArray) (j : Nat) (h : j < t.size) : t.data.toList[j]? = some t[j] := by
  rw [List.getElem?_eq_getElem (by rw [← Lib.size_eq]; exact h)]; rfl
theorem no_dot_step (t : ByteArray) (k : Nat) (h0 : 0 < k) (hk : k ≤ t.size) (hb : ((t[k - 1].toNat : Int) != 46) = true) (h : ∀ j, k ≤ j → t.data.toList[j]? ≠ some 46) :
    ∀ j, k - 1 ≤ j → t.data.toList[j]? ≠ some 46 := by
  intro j hj
  by_cases e : k ≤ j
  · exact h j e
  · have : j = k - 1 := by omega
    subst this
    rw [at_byte t _ (by omega)]
    intro he
    rw [Option.some.inj he] at hb
    cases hb
theorem last_is {s t y : ByteArray} {A : List UInt8} {k : Nat} (ht : t.data.toList = Plain.want s.data.toList) (g1 : Plain.want s.data.toList = A ++ y.data.toList)
    (g2 : (46 : UInt8) ∉ y.data.toList) (g3 : A = [] ∨ A.getLast? = some 46) (hk : k ≤ t.size) (h : ∀ j, k ≤ j → t.data.toList[j]? ≠ some 46)
    (h0 : k = 0 ∨ ∃ _ : 0 < k, ((t[k - 1].toNat : Int) != 46) = false) : (t.extract k t.size).data.toList = y.data.toList := by
  rw [Lib.extract_to_end]
  refine Plain.last_label (ht.trans g1) g2 g3 (by rw [← Lib.size_eq]; exact hk) h ?_
  rcases h0 with h0 | ⟨h0, hb⟩
  · exact .inl h0
  · right
    rw [at_byte t _ (by omega), byte_is (b := t[k - 1]) (n := 46) (by simpa using hb)]

set_option maxHeartbeats 400000 in
theorem model_walk (s : ByteArray) (w : World) (hs : s.size ≤ 65536) (y : ByteArray) (A : List UInt8) (g1 : Plain.want s.data.toList = A ++ y.data.toList)
    (g2 : (46 : UInt8) ∉ y.data.toList) (g3 : A = [] ∨ A.getLast? = some 46)
    (he : ∀ wx : World, wx.heap = w.heap → Calls Tryd.prog 12 #[.string s] wx fun e w' => e = .returned (.bool (Plain.num y.data.toList)) ∧ Below wx.heap.size wx w') :
    Calls Tryd.prog 5 #[.string s] w fun e w' => e = .returned (.bool true) ∧ Below w.heap.size w w' := by
  go_enter Tryd.func5, Tryd.ntmps5
  go_upto_region 6 with (go_in)
  go_cut [22] (fun v wx => v = .bool (dotEnd s) ∧ w = wx)
  case first =>
    go_wp2
    · go_meet
      exact ⟨congrArg Value.bool (dot_yes s ‹_›), rfl⟩
    · go_meet
      exact ⟨congrArg Value.bool (dot_no s ‹_›), rfl⟩
  case rest =>
    obtain ⟨rfl, rfl⟩ := hcut
    go_upto_if 22 with fail
    go_cut [3] (fun v wx => ∃ t : ByteArray, v = .string t ∧ Hid (t.data.toList = Plain.want s.data.toList) ∧ t.size ≤ 65536 ∧ w = wx)
    case first =>
      by_cases h0 : 0 < s.size
      · go_wp2
        · go_meet
          exact ⟨_, rfl, want_cut s ‹_›, by rw [ByteArray.size_extract]; omega, rfl⟩
        · go_meet
          exact ⟨_, rfl, want_whole s (Bool.eq_false_iff.1 ‹_›), hs, rfl⟩
      · have hd0 : dotEnd s = false := (dot_no s h0).symm
        have HD0 : Hid (dotEnd s = false) := hd0
        clear hd0
        go_wp2
        · have hx : dotEnd s = true := by assumption
          exact absurd hx (by rw [HD0.out]; simp)
        · go_meet
          exact ⟨_, rfl, want_whole s (Bool.eq_false_iff.1 HD0.out), hs, rfl⟩
    case rest =>
      obtain ⟨t, rfl, HT, hts, rfl⟩ := hcut
      go_wp2
      go_loop [4] (fun i => ∃ k : Nat, k ≤ t.size ∧ i = .int .i64 k ∧ Hid (∀ j, k ≤ j → t.data.toList[j]? ≠ some 46)) (fun i => (intOf i).toNat)
      case atStart => exact ⟨t.size, Nat.le_refl _, rfl, no_dot_end t⟩
      case round =>
        obtain ⟨k, hk, rfl, HK⟩ := hrel
        have hez : (t.extract k t.size).size ≤ 65536 := by rw [ByteArray.size_extract]; omega
        by_cases hk0 : 0 < k
        · go_wp2
          · go_round
            case rel => exact ⟨k - 1, by omega, by go_num, no_dot_step t k hk0 hk ‹_› HK.out⟩
            case measure => simp [intOf]; omega
          · have HE : Hid ((t.extract k t.size).data.toList = y.data.toList) := last_is HT.out g1 g2 g3 hk HK.out (.inr ⟨hk0, ‹_›⟩)
            have hnm : ∀ wx : World, Calls Tryd.prog 13 #[.string (t.extract k t.size)] wx fun e w' => e = .returned (.bool (Plain.num y.data.toList)) ∧ w' = wx := fun wx => HE.out ▸ num_walk _ wx hez
            go_region_with (first
              | (go_at_call 12; refine (he _ (by rfl)).mono ?_; rintro e w1 ⟨rfl, hb1⟩)
              | (go_at_call 13; refine (hnm _).mono ?_; rintro e w2 ⟨rfl, rfl⟩))
            go_wp2
            go_ret
            exact ⟨ret_bool rfl, ((Below.refl _ _).drew).trans hb1⟩
        · have HE : Hid ((t.extract k t.size).data.toList = y.data.toList) := last_is HT.out g1 g2 g3 hk HK.out (.inl (by omega))
          have hnm : ∀ wx : World, Calls Tryd.prog 13 #[.string (t.extract k t.size)] wx fun e w' => e = .returned (.bool (Plain.num y.data.toList)) ∧ w' = wx := fun wx => HE.out ▸ num_walk _ wx hez
          go_wp2
          go_region_with (first
              | (go_at_call 12; refine (he _ (by rfl)).mono ?_; rintro e w1 ⟨rfl, hb1⟩)
              | (go_at_call 13; refine (hnm _).mono ?_; rintro e w2 ⟨rfl, rfl⟩))
          go_wp2
          go_ret
          exact ⟨ret_bool rfl, ((Below.refl _ _).drew).trans hb1⟩

set_option maxHeartbeats 400000 in
/-- A text that is too long. -/
theorem model_long (s : ByteArray) (w : World) (hm : s.size ≤ maxLen) (hs : 65536 < s.size) :
    Calls Tryd.prog 5 #[.string s] w fun e w' => e = .returned (.bool true) ∧ Below w.heap.size w w' := by
  unfold maxLen at hm
  go_enter Tryd.func5, Tryd.ntmps5
  go_wp2
  all_goals
    go_ret
    exact ⟨rfl, Below.refl _ _⟩
end Go.Proofs.Qxb6000950aDoor
