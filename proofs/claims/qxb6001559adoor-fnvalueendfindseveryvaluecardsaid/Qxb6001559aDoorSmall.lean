import Derived.Test.Qxb6001559aDoorBuilder
/-! THE SMALL FUNCTIONS: hexDigit, wsByte, literalText, numberText, isDelim, ZZvalueEnd. -/
namespace Go.Proofs.Qxb6001559aDoor
open Go.RowKit Plain

theorem ret_u8 {a b : Int} (h : a = b) : Ending.returned (.int .u8 a) = .returned (.int .u8 b) := by rw [h]
theorem ret_bool {a b : Bool} (h : a = b) : Ending.returned (.bool a) = .returned (.bool b) := by rw [h]
theorem hexd_nat (v : UInt8) : v.toNat < 16 → (hexd v).toNat = if v.toNat < 10 then 48 + v.toNat else 87 + v.toNat :=
  all_u8 (P := fun v => v.toNat < 16 → (hexd v).toNat = if v.toNat < 10 then 48 + v.toNat else 87 + v.toNat) (by decide +kernel) v

set_option maxHeartbeats 400000 in
theorem hex_walk (v : UInt8) (hv : v.toNat < 16) (w : World) : Calls Tryd.prog 21 #[.int .u8 (v.toNat : Int)] w fun e w' => e = .returned (.int .u8 ((hexd v).toNat : Int)) ∧ w' = w := by
  have HN : Hid ((hexd v).toNat = if v.toNat < 10 then 48 + v.toNat else 87 + v.toNat) := hexd_nat v hv
  obtain ⟨n, hn⟩ : ∃ n, n = v.toNat := ⟨_, rfl⟩
  rw [← hn] at hv HN ⊢
  clear hn
  by_cases h : n < 10
  · go_enter Tryd.func21, Tryd.ntmps21
    go_wp2
    go_ret
    refine ⟨ret_u8 ?_, rfl⟩
    rw [HN.out, if_pos h]; omega
  · go_enter Tryd.func21, Tryd.ntmps21
    go_wp2
    go_ret
    refine ⟨ret_u8 ?_, rfl⟩
    rw [HN.out, if_neg h]; omega

/-- wsByte's answer. -/
def ws (b : UInt8) : UInt8 := if b.toNat % 4 = 0 then 32 else if b.toNat % 4 = 1 then 9 else if b.toNat % 4 = 2 then 10 else 13
theorem ws_dl (b : UInt8) : dl (ws b) ∧ plain (ws b) := by
  unfold ws
  repeat' split
  all_goals exact ⟨by simp [dl], by simp [plain]⟩
set_option maxHeartbeats 400000 in
theorem ws_walk (b : UInt8) (w : World) : Calls Tryd.prog 12 #[.int .u8 (b.toNat : Int)] w fun e w' => e = .returned (.int .u8 ((ws b).toNat : Int)) ∧ w' = w := by
  have HN : Hid (ws b = if b.toNat % 4 = 0 then 32 else if b.toNat % 4 = 1 then 9 else if b.toNat % 4 = 2 then 10 else 13) := rfl
  obtain ⟨n, hn⟩ : ∃ n, n = b.toNat := ⟨_, rfl⟩
  rw [← hn] at HN ⊢
  clear hn
  have hc : n % 4 = 0 ∨ n % 4 = 1 ∨ n % 4 = 2 ∨ n % 4 = 3 := by omega
  rcases hc with h | h | h | h
  all_goals
    have hi : ((n : Int) % 4) = ((n % 4 : Nat) : Int) := by omega
    rw [h] at hi
    have HV : Hid (n % 4 = _) := h
    clear h
    go_enter Tryd.func12, Tryd.ntmps12
    go_wp2
    go_ret
    refine ⟨ret_u8 ?_, rfl⟩
    rw [HN.out, HV.out]
    rfl

instance (c : UInt8) : Decidable (plain c) := by unfold plain; infer_instance
instance (c : UInt8) : Decidable (sc c) := by unfold sc; infer_instance
theorem ret_str {a b : ByteArray} (h : a = b) : Ending.returned (.string a) = .returned (.string b) := by rw [h]
/-- literalText's answer. -/
def lit (b : UInt8) : ByteArray := if b.toNat % 3 = 0 then ⟨#[116, 114, 117, 101]⟩ else if b.toNat % 3 = 1 then ⟨#[102, 97, 108, 115, 101]⟩ else ⟨#[110, 117, 108, 108]⟩
/-- numberText's answer. -/
def num (b : UInt8) : ByteArray :=
  if b.toNat % 6 = 0 then ⟨#[48]⟩ else if b.toNat % 6 = 1 then ⟨#[45, 49, 50]⟩ else if b.toNat % 6 = 2 then ⟨#[51, 46, 53]⟩ else if b.toNat % 6 = 3 then ⟨#[49, 101, 49, 48]⟩
  else if b.toNat % 6 = 4 then ⟨#[45, 48, 46, 50, 53, 69, 45, 51]⟩ else ⟨#[49, 50, 51, 52, 53, 54, 55, 56, 57]⟩
/-- A number's or a literal's text. -/
def Scal (s : ByteArray) : Prop := s.data.toList ≠ [] ∧ (∀ c ∈ s.data.toList, sc c) ∧ 0 < s.size ∧ s.size ≤ 9
theorem lit_scal (b : UInt8) : Scal (lit b) := by
  unfold lit
  repeat' split
  all_goals exact ⟨by decide, by decide, by decide, by decide⟩
theorem num_scal (b : UInt8) : Scal (num b) := by
  unfold num
  repeat' split
  all_goals exact ⟨by decide, by decide, by decide, by decide⟩
set_option maxHeartbeats 400000 in
theorem lit_walk (b : UInt8) (w : World) : Calls Tryd.prog 17 #[.int .u8 (b.toNat : Int)] w fun e w' => e = .returned (.string (lit b)) ∧ w' = w := by
  have HN : Hid (lit b = if b.toNat % 3 = 0 then ⟨#[116, 114, 117, 101]⟩ else if b.toNat % 3 = 1 then ⟨#[102, 97, 108, 115, 101]⟩ else ⟨#[110, 117, 108, 108]⟩) := rfl
  obtain ⟨n, hn⟩ : ∃ n, n = b.toNat := ⟨_, rfl⟩
  obtain ⟨l, hl⟩ : ∃ l, l = lit b := ⟨_, rfl⟩
  rw [← hn, ← hl] at HN
  rw [← hn, ← hl]
  clear hn hl
  have hc : n % 3 = 0 ∨ n % 3 = 1 ∨ n % 3 = 2 := by omega
  rcases hc with h | h | h
  all_goals
    have hi : ((n : Int) % 3) = ((n % 3 : Nat) : Int) := by omega
    rw [h] at hi
    have HV : Hid (n % 3 = _) := h
    clear h
    go_enter Tryd.func17, Tryd.ntmps17
    go_wp2
    go_ret
    refine ⟨ret_str ?_, rfl⟩
    rw [HN.out, HV.out]
    rfl
set_option maxHeartbeats 400000 in
theorem num_walk (b : UInt8) (w : World) : Calls Tryd.prog 18 #[.int .u8 (b.toNat : Int)] w fun e w' => e = .returned (.string (num b)) ∧ w' = w := by
  have HN : Hid (num b = if b.toNat % 6 = 0 then ⟨#[48]⟩ else if b.toNat % 6 = 1 then ⟨#[45, 49, 50]⟩ else if b.toNat % 6 = 2 then ⟨#[51, 46, 53]⟩ else if b.toNat % 6 = 3 then ⟨#[49, 101, 49, 48]⟩
    else if b.toNat % 6 = 4 then ⟨#[45, 48, 46, 50, 53, 69, 45, 51]⟩ else ⟨#[49, 50, 51, 52, 53, 54, 55, 56, 57]⟩) := rfl
  obtain ⟨n, hn⟩ : ∃ n, n = b.toNat := ⟨_, rfl⟩
  obtain ⟨l, hl⟩ : ∃ l, l = num b := ⟨_, rfl⟩
  rw [← hn, ← hl] at HN
  rw [← hn, ← hl]
  clear hn hl
  have hc : n % 6 = 0 ∨ n % 6 = 1 ∨ n % 6 = 2 ∨ n % 6 = 3 ∨ n % 6 = 4 ∨ n % 6 = 5 := by omega
  rcases hc with h | h | h | h | h | h
  all_goals
    have hi : ((n : Int) % 6) = ((n % 6 : Nat) : Int) := by omega
    rw [h] at hi
    have HV : Hid (n % 6 = _) := h
    clear h
    go_enter Tryd.func18, Tryd.ntmps18
    go_wp2
    go_ret
    refine ⟨ret_str ?_, rfl⟩
    rw [HN.out, HV.out]
    rfl

set_option maxHeartbeats 400000 in
theorem delim_walk (b : UInt8) (w : World) : Calls Tryd.prog 8 #[.int .u8 (b.toNat : Int)] w fun e w' => e = .returned (.bool (decide (dl b))) ∧ w' = w := by
  by_cases h : dl b
  · have HD : Hid (decide (dl b) = true) := decide_eq_true h
    rcases h with rfl | rfl | rfl | rfl | rfl | rfl | rfl
    all_goals
      go_enter Tryd.func8, Tryd.ntmps8
      go_wp2
      go_ret
      exact ⟨ret_bool HD.out.symm, rfl⟩
  · have HD : Hid (decide (dl b) = false) := decide_eq_false h
    simp only [dl, not_or] at h
    obtain ⟨a1, a2, a3, a4, a5, a6, a7⟩ := h
    have e1 : ((b.toNat : Int) == 44) = false := byte_neq 44 a1
    have e2 : ((b.toNat : Int) == 125) = false := byte_neq 125 a2
    have e3 : ((b.toNat : Int) == 93) = false := byte_neq 93 a3
    have e4 : ((b.toNat : Int) == 32) = false := byte_neq 32 a4
    have e5 : ((b.toNat : Int) == 9) = false := byte_neq 9 a5
    have e6 : ((b.toNat : Int) == 10) = false := byte_neq 10 a6
    have e7 : ((b.toNat : Int) == 13) = false := byte_neq 13 a7
    clear a1 a2 a3 a4 a5 a6 a7
    go_enter Tryd.func8, Tryd.ntmps8
    go_wp2
    all_goals
      go_ret
      exact ⟨ret_bool HD.out.symm, rfl⟩
end Go.Proofs.Qxb6001559aDoor
