import Derived.Test.Qxb6002445aDoorFold
/-! THE WALK of containsFold and ZZContainsFold. -/
namespace Go.Proofs.Qxb6002445aDoor
open Go.RowKit

/-- A slice of bytes that reads as l. -/
def Bs (w : World) (v : Value) (l : List UInt8) : Prop :=
  (v = .slice none 0 0 ∧ l = []) ∨ (∃ a c, v = .slice (some a) 0 c ∧ l = []) ∨
  (∃ b o c, v = .slice (some ⟨b, o, none⟩) l.length c ∧ 0 < l.length ∧ l.length ≤ c ∧ c ≤ maxLen ∧ At w b o l ∧ b < w.heap.size)

theorem Bs.form {w : World} {v : Value} {l : List UInt8} (h : Bs w v l) : ∃ ao c, v = .slice ao l.length c ∧ l.length ≤ c := by
  rcases h with ⟨rfl, rfl⟩ | ⟨a, c, rfl, rfl⟩ | ⟨b, o, c, rfl, _, h, _⟩
  · exact ⟨none, 0, rfl, Nat.le_refl _⟩
  · exact ⟨some a, c, rfl, Nat.zero_le _⟩
  · exact ⟨_, c, rfl, h⟩
theorem Bs.pos {w : World} {v : Value} {l : List UInt8} (h : Bs w v l) (hp : 0 < l.length) : ∃ b o c, v = .slice (some ⟨b, o, none⟩) l.length c ∧ l.length ≤ c ∧ At w b o l := by
  rcases h with ⟨_, rfl⟩ | ⟨a, c, _, rfl⟩ | ⟨b, o, c, rfl, _, h, _, ha, _⟩
  · simp at hp
  · simp at hp
  · exact ⟨b, o, c, rfl, h, ha⟩
theorem Bs.later {w w' : World} {v : Value} {l : List UInt8} (h : Bs w v l) (hb : Below w.heap.size w w') : Bs w' v l := by
  rcases h with h | h | ⟨b, o, c, rfl, h1, h2, h3, ha, h4⟩
  · exact .inl h
  · exact .inr (.inl h)
  · exact .inr (.inr ⟨b, o, c, rfl, h1, h2, h3, fun j hj => (hb.cell (p := ⟨b, o + j, none⟩) h4).trans (ha j hj), Nat.lt_of_lt_of_le h4 hb.size⟩)

theorem At.part {w : World} {b o : Nat} {x : List UInt8} (h : At w b o x) (k m : Nat) : At w b (o + k) ((x.drop k).take m) := by
  intro j hj
  rw [List.length_take, List.length_drop] at hj
  have := h (k + j) (by omega)
  rw [Nat.add_assoc, this]
  simp

theorem part_length {x : List UInt8} {k m : Nat} (h : k + m ≤ x.length) : ((x.drop k).take m).length = m := by
  rw [List.length_take, List.length_drop]; omega

theorem no_hit {X Y : List UInt8} {k : Nat} (h : ∀ j, j < k → Plain.hit X Y j = false) (hk : Plain.hit X Y k = false) : ∀ j, j < k + 1 → Plain.hit X Y j = false := by
  intro j hj
  by_cases e : j = k
  · subst e; exact hk
  · exact h j (by omega)
/-- Every byte is ASCII. -/
def asciiB (x : List UInt8) : Bool := x.all fun b => decide (b.toNat < 128)
theorem ascii_no {x : List UInt8} {k : Nat} (h : k < x.length) (hb : (128 : Int) ≤ x[k].toNat) : false = asciiB x := by
  symm
  unfold asciiB
  rw [List.all_eq_false]
  exact ⟨x[k], List.getElem_mem _, by simpa using by omega⟩
theorem ascii_step {x : List UInt8} {k : Nat} (h : k < x.length) (hk : (asciiB (x.take k)) = true) (hb : (x[k].toNat : Int) < 128) : (asciiB (x.take (k + 1))) = true := by
  unfold asciiB at *
  rw [List.take_succ_eq_append_getElem h, List.all_append, hk]
  simp; omega

theorem byte_ne {a b : UInt8} (h : ((a.toNat : Int) != (b.toNat : Int)) = true) : a ≠ b := by
  intro e; subst e; simp at h
theorem byte_eq {a b : UInt8} (h : ((a.toNat : Int) != (b.toNat : Int)) = false) : a = b := by
  have : (a.toNat : Int) = b.toNat := by simpa using h
  exact UInt8.toNat_inj.1 (by omega)

set_option maxHeartbeats 400000 in
theorem cont_walk (v u : Value) (x y : List UInt8) (w : World) (hx : Bs w v x) (hy : Bs w u y) (nx : x.length ≤ 4096) (ny : y.length ≤ 4096)
    (ax : ∀ b ∈ x, b.toNat < 128) (ay : ∀ b ∈ y, b.toNat < 128) :
    Calls Tryd.prog 16 #[v, u] w fun e w' => e = .returned (.bool (Plain.F (x.map Plain.lower) (y.map Plain.lower))) ∧ w' = w := by
  by_cases hy0 : y.length = 0
  · obtain ⟨ao, c, rfl, hc⟩ := hx.form
    obtain ⟨ao2, c2, rfl, _⟩ := hy.form
    have HF : Hid (Plain.F (x.map Plain.lower) (y.map Plain.lower) = true) := Plain.F_hit (i := 0) (by simp [hy0]) (by
      have : y = [] := List.length_eq_zero_iff.1 hy0
      subst this; rfl)
    rw [hy0]
    clear hx hy ax ay hy0
    have hcl : (0 : Int) ≤ x.length := by omega
    go_enter Tryd.func16, Tryd.ntmps16
    go_wp2
    go_loop [5] (fun i => i = .int .i64 0) (fun _ => 0)
    case atStart => rfl
    case round =>
      obtain rfl := hrel
      go_wp2_with (go_at_call 22; refine (fold_none _ _ _ _ _).mono ?_; rintro e w' ⟨rfl, rfl⟩)
      go_ret
      exact ⟨ret_bool HF.out.symm, rfl⟩
  · by_cases hlt : x.length < y.length
    · obtain ⟨ao, c, rfl, hc⟩ := hx.form
      obtain ⟨ao2, c2, rfl, _⟩ := hy.form
      have HF : Hid (Plain.F (x.map Plain.lower) (y.map Plain.lower) = false) := Plain.F_none (k := 0) (fun j hj => by omega) (by simpa using hlt)
      clear hx hy ax ay hy0
      go_enter Tryd.func16, Tryd.ntmps16
      go_wp2
      go_loop [5] (fun i => i = .int .i64 0) (fun _ => 0)
      case atStart => rfl
      case round =>
        obtain rfl := hrel
        go_wp2
        go_ret
        exact ⟨ret_bool HF.out.symm, rfl⟩
    · obtain ⟨b1, o1, c1, rfl, hc1, hA⟩ := hx.pos (by omega)
      obtain ⟨b2, o2, c2, rfl, hc2, hB⟩ := hy.pos (by omega)
      clear hx hy
      go_enter Tryd.func16, Tryd.ntmps16
      go_wp2
      go_loop [5] (fun i => ∃ k : Nat, k + y.length ≤ x.length + 1 ∧ i = .int .i64 k ∧ Hid (∀ j, j < k → Plain.hit (x.map Plain.lower) (y.map Plain.lower) j = false)) (fun i => x.length + 1 - (intOf i).toNat)
      case atStart => exact ⟨0, by omega, rfl, fun j hj => by omega⟩
      case round =>
        obtain ⟨k, hk, rfl, HK⟩ := hrel
        by_cases hin : k + y.length ≤ x.length
        · have hf := fold_walk b1 (o1 + k) (c1 - k) b2 o2 c2 ((x.drop k).take y.length) y w (by rw [part_length hin]; exact ny) (part_length hin) (hA.part k y.length) hB
            (fun b hb => ax b (List.mem_of_mem_drop (List.mem_of_mem_take hb))) ay
          rw [part_length hin, ← Plain.hit_map] at hf
          have hck : ¬ c1 = k := by omega
          clear ax ay hA hB
          go_wp2_with (go_at_call 22; refine hf.mono ?_; rintro e w' ⟨rfl, rfl⟩)
          · go_ret
            exact ⟨ret_bool (Plain.F_hit (by simpa using hin) ‹_›).symm, rfl⟩
          · have hno : Plain.hit (x.map Plain.lower) (y.map Plain.lower) k = false := by assumption
            go_round
            case rel => exact ⟨k + 1, by omega, by go_num, no_hit HK.out hno⟩
            case measure => simp [intOf]; omega
        · clear ax ay hA hB
          go_wp2
          go_ret
          exact ⟨ret_bool (Plain.F_none HK.out (by rw [List.length_map, List.length_map]; omega)).symm, rfl⟩

set_option maxHeartbeats 400000 in
theorem zzcont_walk (v u : Value) (x y : List UInt8) (w : World) (hx : Bs w v x) (hy : Bs w u y) (nx : x.length ≤ 4096) (ny : y.length ≤ 4096)
    (ax : ∀ b ∈ x, b.toNat < 128) (ay : ∀ b ∈ y, b.toNat < 128) :
    Calls Tryd.prog 8 #[v, u] w fun e w' => e = .returned (.bool (Plain.F (x.map Plain.lower) (y.map Plain.lower))) ∧ w' = w := by
  have hc := cont_walk v u x y w hx hy nx ny ax ay
  clear hx hy ax ay
  go_enter Tryd.func8, Tryd.ntmps8
  go_wp2_with (go_at_call 16; refine hc.mono ?_; rintro e w' ⟨rfl, rfl⟩)
  go_ret
  exact ⟨rfl, rfl⟩

set_option maxHeartbeats 400000 in
/-- allASCIIG2. -/
theorem ascii_walk (v : Value) (x : List UInt8) (w : World) (hx : Bs w v x) (nx : x.length ≤ 4096) :
    Calls Tryd.prog 6 #[v] w fun e w' => e = .returned (.bool (asciiB x)) ∧ w' = w := by
  by_cases h0 : x.length = 0
  · obtain ⟨ao, c, rfl, hc⟩ := hx.form
    have HF : Hid ((asciiB x) = true) := by
      have : x = [] := List.length_eq_zero_iff.1 h0
      subst this; rfl
    rw [h0]
    clear hx h0
    go_enter Tryd.func6, Tryd.ntmps6
    go_wp2
    go_loop [3] (fun i => i = .int .i64 0) (fun _ => 0)
    case atStart => rfl
    case round =>
      obtain rfl := hrel
      go_wp2
      go_ret
      exact ⟨ret_bool HF.out.symm, rfl⟩
  · obtain ⟨b, o, c, rfl, hc, hA⟩ := hx.pos (by omega)
    clear hx h0
    go_enter Tryd.func6, Tryd.ntmps6
    go_wp2
    go_loop [3] (fun i => ∃ k : Nat, k ≤ x.length ∧ i = .int .i64 k ∧ Hid ((asciiB (x.take k)) = true)) (fun i => x.length - (intOf i).toNat)
    case atStart => exact ⟨0, Nat.zero_le _, rfl, rfl⟩
    case round =>
      obtain ⟨k, hk, rfl, HK⟩ := hrel
      by_cases hlt : k < x.length
      · have hcell := hA k hlt
        obtain ⟨a, ha⟩ : ∃ a, a = x[k] := ⟨_, rfl⟩
        rw [← ha] at hcell
        have HA : Hid (a = x[k]) := ha
        clear ha
        by_cases h8 : (a.toNat : Int) < 128
        · have hd : decide ((128 : Int) ≤ (a.toNat : Int)) = false := decide_eq_false (by omega)
          have HN : Hid ((a.toNat : Int) < 128) := h8
          clear h8
          go_wp2
          go_round
          case rel => exact ⟨k + 1, by omega, by go_num, ascii_step hlt HK.out (by rw [← HA.out]; exact HN.out)⟩
          case measure => simp [intOf]; omega
        · have hd : decide ((128 : Int) ≤ (a.toNat : Int)) = true := decide_eq_true (by omega)
          have HN : Hid (¬ (a.toNat : Int) < 128) := h8
          clear h8
          go_wp2
          go_ret
          exact ⟨ret_bool (ascii_no hlt (by rw [← HA.out]; have := HN.out; omega)), rfl⟩
      · have hke : k = x.length := by omega
        subst hke
        go_wp2
        go_ret
        exact ⟨ret_bool (by have := HK.out; rw [List.take_of_length_le (Nat.le_refl _)] at this; exact this.symm), rfl⟩

set_option maxHeartbeats 400000 in
/-- equalBytesG2, at two slices of one length. -/
theorem equal_walk (b1 o1 c1 b2 o2 c2 : Nat) (x y : List UInt8) (w : World) (hn : x.length ≤ 4096) (hl : x.length = y.length) (hx : At w b1 o1 x) (hy : At w b2 o2 y) :
    Calls Tryd.prog 10 #[.slice (some ⟨b1, o1, none⟩) x.length c1, .slice (some ⟨b2, o2, none⟩) y.length c2] w fun e w' => e = .returned (.bool (x == y)) ∧ ∃ q, w' = w.drewN q := by
  rw [← hl]
  have HL : Hid (x.length = y.length) := hl
  clear hl
  go_enter Tryd.func10, Tryd.ntmps10
  go_wp2
  go_loopw [5] (fun i wr => ∃ k : Nat, k ≤ x.length ∧ i = .int .i64 k ∧ Hid (Plain.same x y k) ∧ ∃ q, wr = w.drewN q) (fun i _ => x.length - (intOf i).toNat)
  case atStart => exact ⟨0, Nat.zero_le _, rfl, Plain.same_zero x y, 0, rfl⟩
  case round =>
    obtain ⟨k, hk, rfl, HK, q, rfl⟩ := hrel
    by_cases hlt : k < x.length
    · have hlt2 : k < y.length := by have := HL.out; omega
      have hca := hx k hlt
      have hcb := hy k hlt2
      go_wp2
      go_quiet (fail)
      go_wp2
      · go_ret
        exact ⟨ret_bool (Plain.same_not hlt hlt2 (byte_ne ‹_›)).symm, q + nq, World.drewN_drewN ..⟩
      · have he : ((x[k].toNat : Int) != (y[k].toNat : Int)) = false := by assumption
        go_roundw
        case rel => exact ⟨k + 1, by omega, by go_num, Plain.same_succ hlt hlt2 HK.out (byte_eq he), _, rfl⟩
        case measure => simp [intOf]; omega
    · have hke : k = x.length := by omega
      subst hke
      go_wp2
      go_ret
      exact ⟨ret_bool (Plain.same_all HL.out HK.out).symm, q, rfl⟩
end Go.Proofs.Qxb6002445aDoor
