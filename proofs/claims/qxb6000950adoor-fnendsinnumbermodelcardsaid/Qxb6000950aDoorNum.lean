import Derived.Test.Qxb6000950aDoorHost
import Derived.Test.Qxb6000950aDoorNumPlain
/-! THE WALKS of zzIsDecB1, zzIsLowerHexB1, zzNumericLabelB1. -/
namespace Go.Proofs.Qxb6000950aDoor
open Go.RowKit

theorem ret_bool {a b : Bool} (h : a = b) : Ending.returned (.bool a) = .returned (.bool b) := by rw [h]
theorem dec_yes {b : UInt8} (h : (48 : Int) ≤ b.toNat) : decide ((b.toNat : Int) ≤ 57) = Plain.isDec b := by
  unfold Plain.isDec
  rw [decide_eq_true (show 48 ≤ b.toNat by omega), Bool.true_and]
  exact decide_eq_decide.2 (by omega)
theorem dec_no {b : UInt8} (h : (b.toNat : Int) < 48) : false = Plain.isDec b := by
  unfold Plain.isDec
  rw [decide_eq_false (show ¬ 48 ≤ b.toNat by omega), Bool.false_and]
theorem hex_dec {b : UInt8} (h : Plain.isDec b = true) : true = Plain.isHex b := by
  unfold Plain.isHex
  rw [h, Bool.true_or]
theorem hex_yes {b : UInt8} (h : ¬ Plain.isDec b = true) (h2 : (97 : Int) ≤ b.toNat) : decide ((b.toNat : Int) ≤ 102) = Plain.isHex b := by
  unfold Plain.isHex
  rw [Bool.eq_false_iff.2 h, Bool.false_or, decide_eq_true (show 97 ≤ b.toNat by omega), Bool.true_and]
  exact decide_eq_decide.2 (by omega)
theorem hex_no {b : UInt8} (h : ¬ Plain.isDec b = true) (h2 : (b.toNat : Int) < 97) : false = Plain.isHex b := by
  unfold Plain.isHex
  rw [Bool.eq_false_iff.2 h, Bool.false_or, decide_eq_false (show ¬ 97 ≤ b.toNat by omega), Bool.false_and]

set_option maxHeartbeats 400000 in
theorem dec_walk (b : UInt8) (w : World) :
    Calls Tryd.prog 18 #[.int .u8 (b.toNat : Int)] w fun e w' => e = .returned (.bool (Plain.isDec b)) ∧ w' = w := by
  go_enter Tryd.func18, Tryd.ntmps18
  go_wp2
  · go_ret
    exact ⟨ret_bool (dec_yes ‹_›), rfl⟩
  · go_ret
    exact ⟨ret_bool (dec_no ‹_›), rfl⟩

set_option maxHeartbeats 400000 in
theorem hex_walk (b : UInt8) (w : World) :
    Calls Tryd.prog 19 #[.int .u8 (b.toNat : Int)] w fun e w' => e = .returned (.bool (Plain.isHex b)) ∧ w' = w := by
  go_enter Tryd.func19, Tryd.ntmps19
  go_wp2_with (go_at_call 18; refine (dec_walk b _).mono ?_; rintro e w' ⟨rfl, rfl⟩)
  · go_ret
    exact ⟨ret_bool (hex_dec ‹_›), rfl⟩
  · go_ret
    exact ⟨ret_bool (hex_yes ‹_› ‹_›), rfl⟩
  · go_ret
    exact ⟨ret_bool (hex_no ‹_› ‹_›), rfl⟩

/-- Of the first k bytes all are decimal. -/
def decK (l : ByteArray) (k : Nat) : Bool := (l.data.toList.take k).all Plain.isDec
/-- Of the bytes from the third to before the k-th all are hexadecimal. -/
def hexK (l : ByteArray) (k : Nat) : Bool := ((l.data.toList.take k).drop 2).all Plain.isHex

theorem byte_at (l : ByteArray) (k : Nat) (h : k < l.size) : l.data.toList.take (k + 1) = l.data.toList.take k ++ [l[k]] := by
  rw [List.take_succ_eq_append_getElem (by rw [← Lib.size_eq]; exact h)]; rfl
theorem decK_succ (l : ByteArray) (k : Nat) (h : k < l.size) : decK l (k + 1) = (decK l k && Plain.isDec l[k]) := by
  unfold decK; rw [byte_at l k h]; simp
theorem hexK_succ (l : ByteArray) (k : Nat) (h : k < l.size) (h2 : 2 ≤ k) : hexK l (k + 1) = (hexK l k && Plain.isHex l[k]) := by
  unfold hexK
  rw [byte_at l k h, List.drop_append_of_le_length (by rw [List.length_take, ← Lib.size_eq]; omega)]; simp

theorem not_true {b : Bool} (h : (!b) = true) : b = false := by simpa using h
theorem not_false {b : Bool} (h : (!b) = false) : b = true := by simpa using h
theorem decK_all (l : ByteArray) : decK l l.size = l.data.toList.all Plain.isDec := by
  unfold decK; rw [List.take_of_length_le (by rw [← Lib.size_eq]; exact Nat.le_refl _)]
theorem hexK_all (l : ByteArray) : hexK l l.size = (l.data.toList.drop 2).all Plain.isHex := by
  unfold hexK; rw [List.take_of_length_le (by rw [← Lib.size_eq]; exact Nat.le_refl _)]
theorem hexK_two (l : ByteArray) : hexK l 2 = true := by
  unfold hexK; rw [List.drop_eq_nil_of_le (List.length_take_le _ _)]; rfl
theorem hexK_mono (l : ByteArray) (k : Nat) (h : hexK l k = false) : hexK l l.size = false := by
  rw [hexK_all]
  unfold hexK at h
  cases hh : (l.data.toList.drop 2).all Plain.isHex with
  | false => rfl
  | true =>
    exfalso
    have : (((l.data.toList.take k).drop 2).all Plain.isHex) = true := by
      rw [List.all_eq_true] at hh ⊢
      intro x hx
      rw [List.drop_take] at hx
      exact hh x (List.mem_of_mem_take hx)
    rw [this] at h; cases h
theorem num_all {l : ByteArray} (h : decK l l.size = true) (h0 : 0 < l.size) : true = Plain.num l.data.toList := by
  rw [decK_all] at h
  have : l.data.toList.isEmpty = false := by
    rw [List.isEmpty_eq_false_iff]; intro e; have := Lib.size_eq l; rw [e, List.length_nil] at this; omega
  unfold Plain.num
  rw [h, this]; rfl
theorem num_no {l : ByteArray} (h : decK l l.size = false) (hp : Lib.hasPrefix l.data.toList [48, 120] = false) : false = Plain.num l.data.toList := by
  rw [decK_all] at h
  unfold Plain.num
  rw [h, hp]; simp
theorem two_of (l : ByteArray) (h : 2 ≤ l.size) : ∃ t, l.data.toList = l[0] :: l[1] :: t := by
  have e : l.data.toList.length = l.size := (Lib.size_eq l).symm
  have h0 : l.data.toList = l.data.toList[0]'(by omega) :: l.data.toList.drop 1 := List.drop_eq_getElem_cons (i := 0) (by omega)
  have h1 : l.data.toList.drop 1 = l.data.toList[1]'(by omega) :: l.data.toList.drop 2 := List.drop_eq_getElem_cons (i := 1) (by omega)
  refine ⟨l.data.toList.drop 2, ?_⟩
  rw [h1] at h0
  exact h0
theorem pre_two (a b : UInt8) (t : List UInt8) : Lib.hasPrefix (a :: b :: t) [48, 120] = (a == 48 && b == 120) := by
  simp only [Lib.hasPrefix, List.isPrefixOf, Bool.and_true]
  rw [Bool.beq_comm (a := a), Bool.beq_comm (a := b)]
theorem byte_is {b : UInt8} {n : UInt8} (h : (b.toNat : Int) = (n.toNat : Int)) : b = n := UInt8.toNat_inj.1 (by omega)
theorem num_hex {l : ByteArray} (h : decK l l.size = false) (h2 : 2 ≤ l.size) (a : (l[0].toNat : Int) = 48) (b : ((l[1].toNat : Int) == 120) = true) : Plain.num l.data.toList = hexK l l.size := by
  rw [hexK_all]
  rw [decK_all] at h
  have hp : Lib.hasPrefix l.data.toList [48, 120] = true := by
    obtain ⟨t, ht⟩ := two_of l h2
    rw [ht, pre_two, byte_is (b := l[0]) (n := 48) a, byte_is (b := l[1]) (n := 120) (beq_iff_eq.1 b)]; rfl
  unfold Plain.num
  rw [h, hp]; simp
theorem pre_no1 {l : ByteArray} (h2 : 2 ≤ l.size) (b : ((l[1].toNat : Int) == 120) = false) : Lib.hasPrefix l.data.toList [48, 120] = false := by
  obtain ⟨t, ht⟩ := two_of l h2
  rw [ht, pre_two]
  have : (l[1] == 120) = false := by
    rw [beq_eq_false_iff_ne] at b ⊢
    intro e; apply b; rw [e]; rfl
  rw [this, Bool.and_false]
theorem pre_no0 {l : ByteArray} (h2 : 2 ≤ l.size) (b : ¬ (l[0].toNat : Int) = 48) : Lib.hasPrefix l.data.toList [48, 120] = false := by
  obtain ⟨t, ht⟩ := two_of l h2
  rw [ht, pre_two]
  have : (l[0] == 48) = false := by
    rw [beq_eq_false_iff_ne]
    intro e; apply b; rw [e]; rfl
  rw [this, Bool.false_and]
theorem pre_short {l : ByteArray} (h : (l.size : Int) < 2) : Lib.hasPrefix l.data.toList [48, 120] = false := by
  have e := Lib.size_eq l
  match hl : l.data.toList, e with
  | [], _ => rfl
  | [a], _ => simp [Lib.hasPrefix, List.isPrefixOf]
  | a :: b :: t, e => simp at e; omega

set_option maxHeartbeats 400000 in
theorem num_walk_hex (l : ByteArray) (w : World) (hl : l.size ≤ 65536) (h2 : 2 ≤ l.size) (a2 : (l[0].toNat : Int) = 48) (a4 : ((l[1].toNat : Int) == 120) = true) :
    Calls Tryd.prog 13 #[.string l] w fun e w' => e = .returned (.bool (Plain.num l.data.toList)) ∧ w' = w := by
  have h0 : 0 < l.size := by omega
  · go_enter Tryd.func13, Tryd.ntmps13
    go_wp2
    go_loop [3, 4] (fun a i => ∃ k : Nat, k ≤ l.size ∧ i = .int .i64 k ∧ a = .bool (decK l k)) (fun _ i => l.size - (intOf i).toNat)
    case atStart => exact ⟨0, Nat.zero_le _, rfl, rfl⟩
    case round =>
      obtain ⟨k, hk, rfl, rfl⟩ := hrel
      by_cases hlt : k < l.size
      · have HS : Hid (decK l (k + 1) = (decK l k && Plain.isDec l[k])) := decK_succ l k hlt
        go_wp2_with (go_at_call 18; refine (dec_walk _ _).mono ?_; rintro e w' ⟨rfl, rfl⟩)
        · go_round
          case rel => exact ⟨k + 1, by omega, by go_num, by rw [HS.out, not_true (b := Plain.isDec l[k]) ‹_›, Bool.and_false]⟩
          case measure => simp [intOf]; omega
        · go_round
          case rel => exact ⟨k + 1, by omega, by go_num, by rw [HS.out, not_false (b := Plain.isDec l[k]) ‹_›, Bool.and_true]⟩
          case measure => simp [intOf]; omega
      · have hke : k = l.size := by omega
        subst hke
        go_wp2
        · go_ret
          exact ⟨ret_bool (num_all ‹_› h0), rfl⟩
        · have a1 : decK l l.size = false := by assumption
          have HN : Hid (Plain.num l.data.toList = hexK l l.size) := num_hex a1 h2 a2 a4
          go_loop [5] (fun i => ∃ m : Nat, 2 ≤ m ∧ m ≤ l.size ∧ i = .int .i64 m ∧ Hid (hexK l m = true)) (fun i => l.size - (intOf i).toNat)
          case atStart => exact ⟨2, Nat.le_refl _, by omega, rfl, hexK_two l⟩
          case round =>
            obtain ⟨m, hm2, hm, rfl, hx⟩ := hrel
            by_cases hml : m < l.size
            · have HS : Hid (hexK l (m + 1) = (hexK l m && Plain.isHex l[m])) := hexK_succ l m hml hm2
              go_wp2_with (go_at_call 19; refine (hex_walk _ _).mono ?_; rintro e w' ⟨rfl, rfl⟩)
              · go_ret
                exact ⟨ret_bool (by rw [HN.out]; exact (hexK_mono l (m + 1) (by rw [HS.out, not_true (b := Plain.isHex l[m]) ‹_›, Bool.and_false])).symm), rfl⟩
              · go_round
                case rel => exact ⟨m + 1, by omega, by omega, by go_num, by show hexK l (m + 1) = true; rw [HS.out, not_false (b := Plain.isHex l[m]) ‹_›, Bool.and_true]; exact hx.out⟩
                case measure => simp [intOf]; omega
            · have hme : m = l.size := by omega
              subst hme
              go_wp2
              go_ret
              exact ⟨ret_bool (by rw [HN.out]; exact hx.out.symm), rfl⟩

set_option maxHeartbeats 400000 in
theorem num_walk (l : ByteArray) (w : World) (hl : l.size ≤ 65536) :
    Calls Tryd.prog 13 #[.string l] w fun e w' => e = .returned (.bool (Plain.num l.data.toList)) ∧ w' = w := by
  by_cases hq : ∃ h2 : 2 ≤ l.size, (l[0].toNat : Int) = 48 ∧ ((l[1].toNat : Int) == 120) = true
  · obtain ⟨h2, a2, a4⟩ := hq
    exact num_walk_hex l w hl h2 a2 a4
  have HQ : Hid (¬ ∃ h2 : 2 ≤ l.size, (l[0].toNat : Int) = 48 ∧ ((l[1].toNat : Int) == 120) = true) := hq
  clear hq
  by_cases h0 : 0 < l.size
  · go_enter Tryd.func13, Tryd.ntmps13
    go_wp2
    go_loop [3, 4] (fun a i => ∃ k : Nat, k ≤ l.size ∧ i = .int .i64 k ∧ a = .bool (decK l k)) (fun _ i => l.size - (intOf i).toNat)
    case atStart => exact ⟨0, Nat.zero_le _, rfl, rfl⟩
    case round =>
      obtain ⟨k, hk, rfl, rfl⟩ := hrel
      by_cases hlt : k < l.size
      · have HS : Hid (decK l (k + 1) = (decK l k && Plain.isDec l[k])) := decK_succ l k hlt
        go_wp2_with (go_at_call 18; refine (dec_walk _ _).mono ?_; rintro e w' ⟨rfl, rfl⟩)
        · go_round
          case rel => exact ⟨k + 1, by omega, by go_num, by rw [HS.out, not_true (b := Plain.isDec l[k]) ‹_›, Bool.and_false]⟩
          case measure => simp [intOf]; omega
        · go_round
          case rel => exact ⟨k + 1, by omega, by go_num, by rw [HS.out, not_false (b := Plain.isDec l[k]) ‹_›, Bool.and_true]⟩
          case measure => simp [intOf]; omega
      · have hke : k = l.size := by omega
        subst hke
        go_wp2
        · go_ret
          exact ⟨ret_bool (num_all ‹_› h0), rfl⟩
        · have a2 : ((l[0].toNat : Int) = 48) := by assumption
          have a3 : (2 : Int) ≤ l.size := by assumption
          have a4 : ((l[1].toNat : Int) == 120) = true := by assumption
          exact absurd ⟨by omega, a2, a4⟩ HQ.out
        · go_ret
          exact ⟨ret_bool (num_no ‹_› (pre_no1 (by omega) ‹_›)), rfl⟩
        · go_ret
          exact ⟨ret_bool (num_no ‹_› (pre_no0 (by omega) ‹_›)), rfl⟩
        · go_ret
          exact ⟨ret_bool (num_no ‹_› (pre_short ‹_›)), rfl⟩
  · have he : l.data.toList = [] := List.length_eq_zero_iff.1 (by rw [← Lib.size_eq]; omega)
    have HN : Hid (Plain.num l.data.toList = false) := by show _ = _; rw [he]; rfl
    clear he
    go_enter Tryd.func13, Tryd.ntmps13
    go_wp2
    go_ret
    exact ⟨ret_bool HN.out.symm, rfl⟩
end Go.Proofs.Qxb6000950aDoor
