import Derived.Test.Qxb6001559aDoorRows
import Derived.Test.Qxb6001559aDoorState
import Derived.WalkKit
import Derived.WalkSpells
import Derived.WalkLawsBesides
import Derived.BigQuiet
import Derived.Deep.QuietTactic
/-! THE WALKS of stringEnd and valueEnd. -/
namespace Go.Proofs.Qxb6001559aDoor
open Go.RowKit Plain

theorem ret_int {a b : Int} (h : a = b) : Ending.returned (.int .i64 a) = .returned (.int .i64 b) := by rw [h]
/-- Bytes lie at o of block b. -/
def At (w : World) (b o : Nat) (x : List UInt8) : Prop := ∀ (j : Nat) (h : j < x.length), w.cell? ⟨b, o + j, none⟩ = some (.int .u8 (x[j].toNat : Int))

theorem drop_cons {x : Plain.Bs} {p : Nat} {c : UInt8} {l : Plain.Bs} (h : x.drop p = c :: l) : ∃ hp : p < x.length, x[p] = c ∧ x.drop (p + 1) = l := by
  have hp : p < x.length := by
    by_cases hp : p < x.length
    · exact hp
    · rw [List.drop_eq_nil_of_le (by omega)] at h; cases h
  rw [List.drop_eq_getElem_cons hp] at h
  injection h with h1 h2
  exact ⟨hp, h1, h2⟩
theorem byte_neq {a : UInt8} (b : UInt8) (h : a ≠ b) : ((a.toNat : Int) == (b.toNat : Int)) = false := by
  rw [beq_eq_false_iff_ne]; intro e; exact h (UInt8.toNat_inj.1 (by omega))
theorem SE.at {x : Plain.Bs} {p m : Nat} (h : SE (x.drop p) m) : ∃ hp : p < x.length, (x[p].toNat = 34 ∧ m = 1) ∨ (x[p].toNat = 92 ∧ ∃ k, m = k + 2 ∧ SE (x.drop (p + 2)) k) ∨
    ((((x[p].toNat : Int) == 34) = false ∧ ((x[p].toNat : Int) == 92) = false) ∧ ∃ k, m = k + 1 ∧ SE (x.drop (p + 1)) k) := by
  generalize hq : x.drop p = l at h
  cases h with
  | quote =>
    obtain ⟨hp, h1, h2⟩ := drop_cons hq
    exact ⟨hp, .inl ⟨by rw [h1]; rfl, rfl⟩⟩
  | esc h =>
    obtain ⟨hp, h1, h2⟩ := drop_cons hq
    obtain ⟨_, _, h3⟩ := drop_cons h2
    exact ⟨hp, .inr (.inl ⟨by rw [h1]; rfl, _, rfl, by rw [h3]; exact h⟩)⟩
  | other n1 n2 h =>
    obtain ⟨hp, h1, h2⟩ := drop_cons hq
    refine ⟨hp, .inr (.inr ⟨⟨?_, ?_⟩, _, rfl, by rw [h2]; exact h⟩)⟩
    · rw [h1]; exact byte_neq 34 n1
    · rw [h1]; exact byte_neq 92 n2

set_option maxHeartbeats 400000 in
/-- stringEnd. -/
theorem stringEnd_walk (b o c i n : Nat) (x : Plain.Bs) (w : World) (hx : At w b o x) (hl : x.length ≤ 1073741824) (h : SE (x.drop (i + 1)) n) :
    Calls Tryd.prog 19 #[.slice (some ⟨b, o, none⟩) x.length c, .int .i64 (i : Int)] w fun e w' => e = .returned (.int .i64 ((i + 1 + n : Nat) : Int)) ∧ w' = w := by
  have hi : i + 1 < x.length := by obtain ⟨h1, _⟩ := SE.at h; exact h1
  go_enter Tryd.func19, Tryd.ntmps19
  go_wp2
  go_loop [1] (fun v => ∃ p m : Nat, v = .int .i64 p ∧ p < x.length ∧ Hid (SE (x.drop p) m) ∧ Hid (p + m = i + 1 + n)) (fun v => x.length - (intOf v).toNat)
  case atStart => exact ⟨i + 1, n, by go_num, hi, h, rfl⟩
  case round =>
    clear h
    obtain ⟨p, m, rfl, hp, HS, HE⟩ := hrel
    have hcell := hx p hp
    obtain ⟨_, hcase⟩ := SE.at HS.out
    rcases hcase with ⟨e1, e2⟩ | ⟨e1, k, e2, h2⟩ | ⟨⟨e1, e3⟩, k, e2, h2⟩
    · rw [e1] at hcell
      have HF : Hid (((p : Int) + 1) = ((i + 1 + n : Nat) : Int)) := by have := HE.out; show (p : Int) + 1 = _; omega
      clear hx e1 e2 HS HE
      go_wp2
      go_ret
      exact ⟨ret_int HF.out, rfl⟩
    · rw [e1] at hcell
      obtain ⟨hp2, _⟩ := SE.at h2
      have H2 : Hid (SE (x.drop (p + 2)) k) := h2
      have HE2 : Hid (p + 2 + k = i + 1 + n) := by have := HE.out; show p + 2 + k = _; omega
      clear hx e1 HS e2 h2 HE
      go_wp2
      go_round
      case rel => exact ⟨p + 2, k, by go_num, hp2, H2, HE2⟩
      case measure => simp [intOf]; omega
    · obtain ⟨u, hu⟩ : ∃ u, u = x[p].toNat := ⟨_, rfl⟩
      rw [← hu] at hcell e1 e3
      obtain ⟨hp2, _⟩ := SE.at h2
      have H2 : Hid (SE (x.drop (p + 1)) k) := h2
      have HE2 : Hid (p + 1 + k = i + 1 + n) := by have := HE.out; show p + 1 + k = _; omega
      clear hx HS e2 h2 HE hu
      go_wp2
      go_round
      case rel => exact ⟨p + 1, k, by go_num, hp2, H2, HE2⟩
      case measure => simp [intOf]; omega

/-- What the head of the rest tells of the scan. -/
def Head (x : Plain.Bs) (p d m u : Nat) : Prop :=
  (u = 34 ∧ d = 0 ∧ ∃ n, m = n + 1 ∧ SE (x.drop (p + 1)) n) ∨
  (u = 34 ∧ ∃ k n m', d = k + 1 ∧ m = n + 1 + m' ∧ SE (x.drop (p + 1)) n ∧ VE (k + 1) (x.drop (p + 1 + n)) m') ∨
  ((u = 123 ∨ u = 91) ∧ ∃ m', m = m' + 1 ∧ VE (d + 1) (x.drop (p + 1)) m') ∨
  ((u = 125 ∨ u = 93) ∧ d = 1 ∧ m = 1) ∨
  ((u = 125 ∨ u = 93) ∧ ∃ k m', d = k + 2 ∧ m = m' + 1 ∧ VE (k + 1) (x.drop (p + 1)) m') ∨
  ((((u : Int) == 34) = false ∧ ((u : Int) == 123) = false ∧ ((u : Int) == 91) = false ∧ ((u : Int) == 125) = false ∧ ((u : Int) == 93) = false) ∧
    ((∃ k m', d = k + 1 ∧ m = m' + 1 ∧ VE (k + 1) (x.drop (p + 1)) m') ∨
     (d = 0 ∧ ∃ t r, x.drop p = t ++ r ∧ m = t.length ∧ t ≠ [] ∧ (∀ c ∈ t, sc c) ∧ (r = [] ∨ ∃ c r', r = c :: r' ∧ dl c))))
theorem VE.at {x : Plain.Bs} {p d m : Nat} (h : VE d (x.drop p) m) : ∃ hp : p < x.length, Head x p d m x[p].toNat := by
  have pl : ∀ {c : UInt8}, plain c → (((c.toNat : Int) == 34) = false ∧ ((c.toNat : Int) == 123) = false ∧ ((c.toNat : Int) == 91) = false ∧ ((c.toNat : Int) == 125) = false ∧ ((c.toNat : Int) == 93) = false) := fun h =>
    ⟨byte_neq 34 h.1, byte_neq 123 h.2.1, byte_neq 91 h.2.2.1, byte_neq 125 h.2.2.2.1, byte_neq 93 h.2.2.2.2⟩
  have hop : ∀ {c : UInt8}, opn c → c.toNat = 123 ∨ c.toNat = 91 := fun h => by rcases h with rfl | rfl <;> simp
  have hcl : ∀ {c : UInt8}, cls c → c.toNat = 125 ∨ c.toNat = 93 := fun h => by rcases h with rfl | rfl <;> simp
  generalize hq : x.drop p = l at h
  cases h with
  | str0 h =>
    obtain ⟨hp, h1, h2⟩ := drop_cons hq
    exact ⟨hp, .inl ⟨by rw [h1]; rfl, rfl, _, rfl, by rw [h2]; exact h⟩⟩
  | strS h g =>
    obtain ⟨hp, h1, h2⟩ := drop_cons hq
    exact ⟨hp, .inr (.inl ⟨by rw [h1]; rfl, _, _, _, rfl, rfl, by rw [h2]; exact h, by rw [← List.drop_drop, h2]; exact g⟩)⟩
  | op ho h =>
    obtain ⟨hp, h1, h2⟩ := drop_cons hq
    exact ⟨hp, .inr (.inr (.inl ⟨by rw [h1]; exact hop ho, _, rfl, by rw [h2]; exact h⟩))⟩
  | cl1 hc =>
    obtain ⟨hp, h1, h2⟩ := drop_cons hq
    exact ⟨hp, .inr (.inr (.inr (.inl ⟨by rw [h1]; exact hcl hc, rfl, rfl⟩)))⟩
  | clS hc h =>
    obtain ⟨hp, h1, h2⟩ := drop_cons hq
    exact ⟨hp, .inr (.inr (.inr (.inr (.inl ⟨by rw [h1]; exact hcl hc, _, _, rfl, rfl, by rw [h2]; exact h⟩))))⟩
  | other hc h =>
    obtain ⟨hp, h1, h2⟩ := drop_cons hq
    exact ⟨hp, .inr (.inr (.inr (.inr (.inr ⟨by rw [h1]; exact pl hc, .inl ⟨_, _, rfl, rfl, by rw [h2]; exact h⟩⟩))))⟩
  | @scal t r h0 hs hr =>
    cases t with
    | nil => exact absurd rfl h0
    | cons a t =>
      obtain ⟨hp, h1, h2⟩ := drop_cons hq
      exact ⟨hp, .inr (.inr (.inr (.inr (.inr ⟨by rw [h1]; exact pl (hs a (List.mem_cons_self ..)).1, .inr ⟨rfl, a :: t, r, hq, rfl, h0, hs, hr⟩⟩))))⟩
theorem VE.lt {x : Plain.Bs} {p d m : Nat} (h : VE d (x.drop p) m) : p < x.length := by obtain ⟨hp, _⟩ := VE.at h; exact hp

/-- The set that valueEnd hands to IndexAny. -/
def delims : ByteArray := ⟨#[44, 125, 93, 32, 9, 10, 13]⟩
/-- What IndexAny answers on a number with a delimiter or nothing behind it. -/
def AnyAns (t r : Plain.Bs) : Int := if r = [] then -1 else (t.length : Int)

set_option maxHeartbeats 1000000 in
/-- valueEnd. -/
theorem valueEnd_walk (b o c i n : Nat) (x : Plain.Bs) (w : World) (hx : At w b o x) (hl : x.length ≤ 1073741824) (hc : x.length ≤ c) (h : VE 0 (x.drop i) n)
    (hany : ∀ (p : Nat) (t r : Plain.Bs), p < x.length → x.drop p = t ++ r → t ≠ [] → (∀ c ∈ t, sc c) → (r = [] ∨ ∃ c r', r = c :: r' ∧ dl c) →
      ∀ wx, Below w.heap.size w wx → Calls Tryd.prog 20 #[.slice (some ⟨b, o + p, none⟩) (x.length - p) (c - p), .string delims] wx fun e w' => e = .returned (.int .i64 (AnyAns t r)) ∧ Below wx.heap.size wx w') :
    Calls Tryd.prog 14 #[.slice (some ⟨b, o, none⟩) x.length c, .int .i64 (i : Int)] w fun e w' => e = .returned (.int .i64 ((i + n : Nat) : Int)) ∧ Below w.heap.size w w' := by
  have hi : i < x.length := VE.lt h
  go_enter Tryd.func14, Tryd.ntmps14
  go_wp2
  go_loop [1, 5, 6, 7] (fun v dv _ _ => ∃ p d m : Nat, v = .int .i64 p ∧ dv = .int .i64 d ∧ p < x.length ∧ d ≤ p ∧ Hid (VE d (x.drop p) m) ∧ Hid (p + m = i + n)) (fun v _ _ _ => x.length - (intOf v).toNat)
  case atStart => exact ⟨i, 0, n, rfl, rfl, hi, Nat.zero_le _, h, rfl⟩
  case round =>
    clear h
    obtain ⟨p, d, m, rfl, rfl, hp, hd, HS, HE⟩ := hrel
    have hcell := hx p hp
    obtain ⟨_, hcase⟩ := VE.at HS.out
    obtain ⟨u, hu⟩ : ∃ u, u = x[p].toNat := ⟨_, rfl⟩
    rw [← hu] at hcell hcase
    clear hu HS
    rcases hcase with ⟨rfl, rfl, k, e1, h1⟩ | ⟨rfl, k, k2, m', rfl, e1, h1, h2⟩ | ⟨hu, m', e1, h1⟩ | ⟨hu, rfl, e1⟩ | ⟨hu, k, m', rfl, e1, h1⟩ | ⟨⟨u1, u2, u3, u4, u5⟩, ⟨k, m', rfl, e1, h1⟩ | ⟨rfl, t, r, e1, e2, h3, h4, h5⟩⟩
    · have HF : Hid (p + 1 + k = i + n) := by have := HE.out; show p + 1 + k = _; omega
      have cs := stringEnd_walk b o c p k x w hx hl h1
      clear hx HE e1 h1
      go_wp2_with (go_at_call 19; refine cs.mono ?_; rintro e w' ⟨rfl, hw'⟩; obtain rfl := hw'.symm)
      go_ret
      exact ⟨ret_int (by have := HF.out; omega), Below.refl _ _⟩
    · have HF : Hid (p + 1 + k2 + m' = i + n) := by have := HE.out; show p + 1 + k2 + m' = _; omega
      have cs := stringEnd_walk b o c p k2 x w hx hl h1
      have hlt := VE.lt h2
      have H2 : Hid (VE (k + 1) (x.drop (p + 1 + k2)) m') := h2
      have z0 : (((k : Int) + 1) == 0) = false := by simp; omega
      clear hx HE e1 h1 h2
      go_wp2_with (go_at_call 19; refine cs.mono ?_; rintro e w' ⟨rfl, hw'⟩; obtain rfl := hw'.symm)
      go_round
      case rel => exact ⟨p + 1 + k2, k + 1, m', by go_num, by go_num, hlt, by omega, H2, HF⟩
      case measure => simp [intOf]; omega
    · have HF : Hid (p + 1 + m' = i + n) := by have := HE.out; show p + 1 + m' = _; omega
      have hlt := VE.lt h1
      have H2 : Hid (VE (d + 1) (x.drop (p + 1)) m') := h1
      have z0 : (((d : Int) + 1) == 0) = false := by simp; omega
      clear hx HE e1 h1
      rcases hu with rfl | rfl
      all_goals
        go_wp2
        go_round
        case rel => exact ⟨p + 1, d + 1, m', by go_num, by go_num, hlt, by omega, H2, HF⟩
        case measure => simp [intOf]; omega
    · have HF : Hid (p + 1 = i + n) := by have := HE.out; show p + 1 = _; omega
      clear hx HE e1
      rcases hu with rfl | rfl
      all_goals
        go_wp2
        go_ret
        exact ⟨ret_int (by have := HF.out; omega), Below.refl _ _⟩
    · have HF : Hid (p + 1 + m' = i + n) := by have := HE.out; show p + 1 + m' = _; omega
      have hlt := VE.lt h1
      have H2 : Hid (VE (k + 1) (x.drop (p + 1)) m') := h1
      have z0 : (((k : Int) + 2 - 1) == 0) = false := by simp; omega
      have z1 : (((k : Int) + 1) == 0) = false := by simp; omega
      clear hx HE e1 h1
      rcases hu with rfl | rfl
      all_goals
        go_wp2
        go_round
        case rel => exact ⟨p + 1, k + 1, m', by go_num, by go_num, hlt, by omega, H2, HF⟩
        case measure => simp [intOf]; omega
    · have HF : Hid (p + 1 + m' = i + n) := by have := HE.out; show p + 1 + m' = _; omega
      have hlt := VE.lt h1
      have H2 : Hid (VE (k + 1) (x.drop (p + 1)) m') := h1
      have z1 : (((k : Int) + 1) == 0) = false := by simp; omega
      clear hx HE e1 h1
      go_wp2
      go_round
      case rel => exact ⟨p + 1, k + 1, m', by go_num, by go_num, hlt, by omega, H2, HF⟩
      case measure => simp [intOf]; omega
    · have ca := hany p t r hp e1 h3 h4 h5 w (Below.refl _ _)
      have hlen : x.length - p = t.length + r.length := by have := congrArg List.length e1; simpa using this
      have HF : Hid (p + t.length = i + n) := by have := HE.out; show p + t.length = _; omega
      have hcp : ¬ c = p := by omega
      by_cases hr : r = []
      · have HA : Hid (x.length = p + t.length) := by subst hr; simp at hlen; show x.length = _; omega
        rw [AnyAns, if_pos hr] at ca
        clear hx HE e1 h3 h4 h5 hlen hr
        go_wp2_with (go_at_call 20; refine ca.mono ?_; rintro e w' ⟨rfl, hbw⟩)
        go_ret
        exact ⟨ret_int (by have := HF.out; have := HA.out; omega), hbw⟩
      · have htl : t.length ≤ x.length := by omega
        rw [AnyAns, if_neg hr] at ca
        clear hx HE e1 h3 h4 h5 hlen hr
        go_wp2_with (go_at_call 20; refine ca.mono ?_; rintro e w' ⟨rfl, hbw⟩)
        go_ret
        exact ⟨ret_int (by have := HF.out; omega), hbw⟩
end Go.Proofs.Qxb6001559aDoor
