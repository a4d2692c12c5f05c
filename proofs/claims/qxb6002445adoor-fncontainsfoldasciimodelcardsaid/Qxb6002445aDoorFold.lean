import Derived.Test.Qxb6002445aDoorRows
import Derived.Test.Qxb6002445aDoorPlain
import Derived.WalkKit
import Derived.WalkSpells
import Derived.WalkLawsBesides
import Derived.BigQuiet
import Derived.Deep.QuietTactic
/-! THE WALKS of lowerByteG2, upperByteG2, bytes.EqualFold at ASCII bytes. -/
namespace Go.Proofs.Qxb6002445aDoor
open Go.RowKit

theorem ret_u8 {a b : Int} (h : a = b) : Ending.returned (.int .u8 a) = .returned (.int .u8 b) := by rw [h]
theorem ret_bool {a b : Bool} (h : a = b) : Ending.returned (.bool a) = .returned (.bool b) := by rw [h]

set_option maxHeartbeats 400000 in
theorem lower_walk (b : UInt8) (w : World) :
    Calls Tryd.prog 17 #[.int .u8 (b.toNat : Int)] w fun e w' => e = .returned (.int .u8 ((Plain.lower b).toNat : Int)) ∧ w' = w := by
  have hb := b.toNat_lt
  by_cases h : 65 ≤ b.toNat ∧ b.toNat ≤ 90
  · have HL : Hid ((Plain.lower b).toNat = b.toNat + 32) := Plain.lower_up h.1 h.2
    obtain ⟨h1, h2⟩ := h
    go_enter Tryd.func17, Tryd.ntmps17
    go_wp2
    go_ret
    exact ⟨ret_u8 (by rw [HL.out]; omega), rfl⟩
  · have HL : Hid (Plain.lower b = b) := Plain.lower_id h
    go_enter Tryd.func17, Tryd.ntmps17
    go_wp2
    all_goals
      first
      | (exfalso; omega)
      | (go_ret; exact ⟨ret_u8 (by rw [HL.out]), rfl⟩)

/-- The cells at an address hold the bytes x. -/
def At (w : World) (b o : Nat) (x : List UInt8) : Prop := ∀ (j : Nat) (h : j < x.length), w.cell? ⟨b, o + j, none⟩ = some (.int .u8 (x[j].toNat : Int))

set_option maxHeartbeats 400000 in
theorem fold_walk (b1 o1 c1 b2 o2 c2 : Nat) (x y : List UInt8) (w : World) (hn : x.length ≤ 4096) (hl : x.length = y.length) (hx : At w b1 o1 x) (hy : At w b2 o2 y)
    (ax : ∀ b ∈ x, b.toNat < 128) (ay : ∀ b ∈ y, b.toNat < 128) :
    Calls Tryd.prog 22 #[.slice (some ⟨b1, o1, none⟩) x.length c1, .slice (some ⟨b2, o2, none⟩) y.length c2] w fun e w' => e = .returned (.bool (x.map Plain.lower == y.map Plain.lower)) ∧ w' = w := by
  rw [← hl]
  have HL : Hid (x.length = y.length) := hl
  clear hl
  go_enter Tryd.func22, Tryd.ntmps22
  go_wp2
  go_step3
  go_wp2
  go_loop [5] (fun i => ∃ k : Nat, k ≤ x.length ∧ i = .int .i64 k ∧ Hid (Plain.alike x y k)) (fun i => x.length - (intOf i).toNat)
  case atStart => exact ⟨0, Nat.zero_le _, rfl, Plain.alike_zero x y⟩
  case round =>
    obtain ⟨k, hk, rfl, HK⟩ := hrel
    by_cases hlt : k < x.length
    · have hlt2 : k < y.length := by have := HL.out; omega
      obtain ⟨a, ha⟩ : ∃ a, a = x[k] := ⟨_, rfl⟩
      obtain ⟨b, hb⟩ : ∃ b, b = y[k] := ⟨_, rfl⟩
      have hca := hx k hlt
      have hcb := hy k hlt2
      rw [← ha] at hca
      rw [← hb] at hcb
      have ha8 : a.toNat < 128 := ax a (ha ▸ List.getElem_mem _)
      have hb8 : b.toNat < 128 := ay b (hb ▸ List.getElem_mem _)
      have HA : Hid (a = x[k]) := ha
      have HB : Hid (b = y[k]) := hb
      clear ha hb
      have hor : bits .or .u8 (a.toNat : Int) (b.toNat : Int) = ((a.toNat ||| b.toNat : Nat) : Int) := u8_or_nat _ _ (by omega) (by omega)
      have hor128 : ¬ ((128 : Int) ≤ ((a.toNat ||| b.toNat : Nat) : Int)) := by have := Nat.or_lt_two_pow (n := 7) ha8 hb8; omega
      go_wp2
      all_goals (try simp only [beq_iff_eq, beq_eq_false_iff_ne, ne_eq] at *)
      all_goals first
        | (go_round
           case measure => simp [intOf]; omega
           case rel => exact ⟨k + 1, by omega, by go_num, Plain.alike_succ hlt hlt2 HK.out (by rw [← HA.out, ← HB.out]; exact (Plain.fold_iff a b).2 (by omega))⟩)
        | (go_ret
           exact ⟨ret_bool (Plain.alike_not hlt hlt2 (by rw [← HA.out, ← HB.out]; exact fun h => absurd ((Plain.fold_iff a b).1 h) (by omega))).symm, rfl⟩)
    · have hke : k = x.length := by omega
      subst hke
      go_wp2
      go_ret
      exact ⟨ret_bool (Plain.alike_all HL.out HK.out).symm, rfl⟩

set_option maxHeartbeats 400000 in
/-- Two empty ones. -/
theorem fold_none (a1 a2 : Option Addr) (c1 c2 : Nat) (w : World) :
    Calls Tryd.prog 22 #[.slice a1 0 c1, .slice a2 0 c2] w fun e w' => e = .returned (.bool true) ∧ w' = w := by
  go_enter Tryd.func22, Tryd.ntmps22
  go_wp2
  go_step3
  go_wp2
  go_loop [5] (fun i => i = .int .i64 0) (fun _ => 0)
  case atStart => rfl
  case round =>
    obtain rfl := hrel
    go_wp2
    go_ret
    exact ⟨rfl, rfl⟩

set_option maxHeartbeats 400000 in
theorem upper_walk (b : UInt8) (w : World) :
    Calls Tryd.prog 18 #[.int .u8 (b.toNat : Int)] w fun e w' => e = .returned (.int .u8 ((Plain.upper b).toNat : Int)) ∧ w' = w := by
  have hb := b.toNat_lt
  by_cases h : 97 ≤ b.toNat ∧ b.toNat ≤ 122
  · have HL : Hid ((Plain.upper b).toNat = b.toNat - 32) := Plain.upper_lo h.1 h.2
    obtain ⟨h1, h2⟩ := h
    go_enter Tryd.func18, Tryd.ntmps18
    go_wp2
    go_ret
    exact ⟨ret_u8 (by rw [HL.out]; omega), rfl⟩
  · have HL : Hid (Plain.upper b = b) := Plain.upper_id h
    go_enter Tryd.func18, Tryd.ntmps18
    go_wp2
    all_goals
      first
      | (exfalso; omega)
      | (go_ret; exact ⟨ret_u8 (by rw [HL.out]), rfl⟩)
end Go.Proofs.Qxb6002445aDoor
