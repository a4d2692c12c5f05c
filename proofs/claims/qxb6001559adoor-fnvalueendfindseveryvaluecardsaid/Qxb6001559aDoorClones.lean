import Derived.Test.Qxb6001559aDoorTake
import Derived.Laws.CopyOwn
/-! THE WALKS of cloneBytes, cloneStrings, zzBytes. -/
namespace Go.Proofs.Qxb6001559aDoor
open Go.RowKit Plain

theorem Tryd.info9 : (Tryd.prog.info? 9).map (fun i => (i.zero, i.size, i.bytes)) = some (some (.string ByteArray.empty), 1, 16) := by kernel_rfl
/-- n empty strings; n zero bytes. -/
def zs (n : Nat) : Array Value := (List.replicate n (Value.string ByteArray.empty)).toArray
def zb (n : Nat) : Array Value := (List.replicate n (Value.int .u8 0)).toArray
theorem makeS_run (n : Nat) (hn : n ≤ 1048576) (w : World) : (Instr.makeSlice 23 (.int .i64 (n : Int)) (.int .i64 (n : Int))).run Tryd.prog w =
    .ok (.slice (some ⟨w.heap.size, 0, none⟩) n n) (w.alloc (.cells (zs n) 9)) := by
  obtain ⟨i0, hi, hz0, hz1, hz2⟩ := info_parts Tryd.info9
  have h := run_make (P := Tryd.prog) w 23 9 i0 (.string ByteArray.empty) Tryd.underlying23 hi hz0 .i64 .i64 (n : Int) (n : Int) (by omega) (by omega) (by rw [hz2]; omega) (by omega)
  rw [h, hz1, Int.toNat_natCast, Nat.mul_one]
  have e : madeCells (Value.string ByteArray.empty).cells n = zs n := by
    apply Array.toList_inj.1
    have := toList_madeCells_one (.string ByteArray.empty) n
    rw [show (Value.string ByteArray.empty).cells = #[Value.string ByteArray.empty] from rfl, this, zs]
  rw [e]
theorem makeB_run (n : Nat) (hn : n ≤ 1048576) (w : World) : (Instr.makeSlice 22 (.int .i64 (n : Int)) (.int .i64 (n : Int))).run Tryd.prog w =
    .ok (.slice (some ⟨w.heap.size, 0, none⟩) n n) (w.alloc (.cells (zb n) 5)) := by
  obtain ⟨i0, hi, hz0, hz1, hz2⟩ := info_parts Tryd.info5
  have h := run_make (P := Tryd.prog) w 22 5 i0 (.int .u8 0) Tryd.underlying22 hi hz0 .i64 .i64 (n : Int) (n : Int) (by omega) (by omega) (by rw [hz2]; omega) (by omega)
  rw [h, hz1, Int.toNat_natCast, Nat.mul_one]
  have e : madeCells (Value.int IntKind.u8 0).cells n = zb n := by
    apply Array.toList_inj.1
    have := toList_madeCells_one (.int .u8 0) n
    rw [show (Value.int IntKind.u8 0).cells = #[Value.int IntKind.u8 0] from rfl, this, zb]
  rw [e]
/-- What a clone has laid behind k rounds: z the zero, f the cells. -/
def fc {α : Type} (f : α → Value) (z : Value) (L : List α) (k : Nat) : Array Value := ((L.take k).map f ++ List.replicate (L.length - k) z).toArray
section
variable {α : Type} (f : α → Value) (z : Value)
theorem fc_zero (L : List α) : fc f z L 0 = (List.replicate L.length z).toArray := by simp [fc]
theorem fc_all (L : List α) : fc f z L L.length = (L.map f).toArray := by simp [fc]
theorem fc_old (L : List α) (k : Nat) (h : k < L.length) : (fc f z L k)[k]? = some z := by
  unfold fc
  have hl : ((L.take k).map f).length = k := by simp; omega
  rw [List.getElem?_toArray, List.getElem?_append_right (by omega), hl, Nat.sub_self, List.getElem?_replicate, if_pos (by omega)]
theorem fc_step (L : List α) (k : Nat) (h : k < L.length) : (fc f z L k).setIfInBounds k (f L[k]) = fc f z L (k + 1) := by
  have hl : ((L.take k).map f).length = k := by simp; omega
  have hr : L.length - k = (L.length - (k + 1)) + 1 := by omega
  unfold fc
  rw [List.setIfInBounds_toArray, List.set_append_right _ _ (by omega), hl, Nat.sub_self, hr, List.replicate_succ, List.set_cons_zero, List.take_succ_eq_append_getElem h]
  simp only [List.map_append, List.map_cons, List.map_nil, List.append_assoc, List.cons_append, List.nil_append]
end
theorem ss_of_block {w : World} {g n : Nat} {L : List ByteArray} (h : w.heap[g]? = some (.cells (L.map Value.string).toArray 9 (0, 0))) (hn : n = L.length) (nx : n ≤ 1048576) : Ss w (.slice (some ⟨g, 0, none⟩) n n) L := by
  subst hn
  by_cases h0 : L.length = 0
  · have : L = [] := List.length_eq_zero_iff.1 h0
    subst this
    exact .inr (.inl ⟨_, _, rfl, rfl⟩)
  · refine .inr (.inr ⟨g, 0, L.length, rfl, by omega, Nat.le_refl _, by unfold maxLen; omega, fun j hj => ?_, ?_⟩)
    · simp [World.cell?, h, hj]
    · exact (Array.getElem?_eq_some_iff.1 h).1

set_option maxHeartbeats 400000 in
/-- cloneStrings. -/
theorem cloneS_walk (ao : Option Addr) (n c : Nat) (L : List ByteArray) (w : World) (h : Ss w (.slice ao n c) L) (hn : n ≤ 1048576) :
    Calls Tryd.prog 6 #[.slice ao n c] w fun e w' => (∃ v', e = .returned v' ∧ Ss w' v' L) ∧ Below w.heap.size w w' := by
  have hq : ∀ a l d wx, (binOp .eql 23 (.slice a l d) (.slice none 0 0)).run Tryd.prog wx = .ok (.bool a.isNone) wx := fun a l d wx => Lib.run_eql_slice_nil wx 23 9 a l d 0 0 Tryd.underlying23
  have hmk := makeS_run n hn
  have HL : Hid (n = L.length) := h.len
  cases ao with
  | none =>
    go_enter Tryd.func6, Tryd.ntmps6
    go_wp2
    go_ret
    exact ⟨⟨_, rfl, .inl ⟨rfl, h.none_nil⟩⟩, Below.refl _ _⟩
  | some a =>
    go_enter Tryd.func6, Tryd.ntmps6
    go_wp2
    go_loopw [4] (fun i wr => ∃ k : Nat, k ≤ n ∧ i = .int .i64 k ∧ wr = w.alloc (.cells (fc Value.string (.string ByteArray.empty) L k) 9)) (fun i _ => n - (intOf i).toNat)
    case atStart => exact ⟨0, Nat.zero_le _, rfl, by rw [fc_zero, ← HL.out]; rfl⟩
    case round =>
      obtain ⟨k, hk, rfl, rfl⟩ := hrel
      by_cases hlt : k < n
      · obtain ⟨b, o, hab, hq1, hA, hbw⟩ := h.at (by omega)
        obtain rfl := Option.some.inj hab
        clear hq1 hab
        have hkL : k < L.length := by have := HL.out; omega
        have hcell := hA k hkL
        have hold := fc_old Value.string (.string ByteArray.empty) L k hkL
        have HS : Hid ((fc Value.string (.string ByteArray.empty) L k).setIfInBounds k (.string L[k]) = fc Value.string (.string ByteArray.empty) L (k + 1)) := fc_step _ _ L k hkL
        go_wp2
        go_roundw
        case rel => exact ⟨k + 1, by omega, by go_num, by rw [HS.out]⟩
        case measure => simp [intOf]; omega
      · have hke : k = n := by omega
        subst hke
        go_wp2
        go_ret
        exact ⟨⟨_, rfl, ss_of_block (by rw [HL.out, fc_all]; exact heap_alloc_new _ _) HL.out hn⟩, (Below.refl _ _).alloc (Nat.le_refl _) _⟩

/-- A slice of bytes that reads as x. -/
def Yb (w : World) (v : Value) (x : Plain.Bs) : Prop :=
  (v = .slice none 0 0 ∧ x = []) ∨ (∃ a c, v = .slice (some a) 0 c ∧ x = []) ∨
  (∃ b o c, v = .slice (some ⟨b, o, none⟩) x.length c ∧ 0 < x.length ∧ x.length ≤ c ∧ c ≤ maxLen ∧ At w b o x ∧ b < w.heap.size)
theorem Yb.form {w : World} {v : Value} {L : Plain.Bs} (h : Yb w v L) : ∃ ao c, v = .slice ao L.length c ∧ L.length ≤ c := by
  rcases h with ⟨rfl, rfl⟩ | ⟨a, c, rfl, rfl⟩ | ⟨b, o, c, rfl, _, h, _⟩
  · exact ⟨none, 0, rfl, Nat.le_refl _⟩
  · exact ⟨some a, c, rfl, Nat.zero_le _⟩
  · exact ⟨_, c, rfl, h⟩
theorem Yb.at {w : World} {ao : Option Addr} {n c : Nat} {L : Plain.Bs} (h : Yb w (.slice ao n c) L) (hp : 0 < n) : ∃ b o, ao = some ⟨b, o, none⟩ ∧ n = L.length ∧ At w b o L ∧ b < w.heap.size := by
  rcases h with ⟨h, _⟩ | ⟨a, d, h, _⟩ | ⟨b, o, d, h, _, _, _, ha, hb⟩
  · injection h with e1 e2 e3; omega
  · injection h with e1 e2 e3; omega
  · injection h with e1 e2 e3
    exact ⟨b, o, e1, e2, ha, hb⟩
theorem Yb.len {w : World} {ao : Option Addr} {n c : Nat} {L : Plain.Bs} (h : Yb w (.slice ao n c) L) : n = L.length := by
  rcases h with ⟨h, rfl⟩ | ⟨a, d, h, rfl⟩ | ⟨b, o, d, h, _⟩
  · injection h with e1 e2 e3
  · injection h with e1 e2 e3
  · injection h with e1 e2 e3
theorem Yb.later {w w' : World} {v : Value} {L : Plain.Bs} (h : Yb w v L) (hb : Below w.heap.size w w') : Yb w' v L := by
  rcases h with h | h | ⟨b, o, c, rfl, h1, h2, h3, ha, h4⟩
  · exact .inl h
  · exact .inr (.inl h)
  · exact .inr (.inr ⟨b, o, c, rfl, h1, h2, h3, fun j hj => (hb.cell (p := ⟨b, o + j, none⟩) h4).trans (ha j hj), Nat.lt_of_lt_of_le h4 hb.size⟩)
theorem Yb.none_nil {w : World} {n c : Nat} {L : Plain.Bs} (h : Yb w (.slice none n c) L) : L = [] := by
  rcases h with ⟨_, h⟩ | ⟨a, c, h, _⟩ | ⟨b, o, c, h, _⟩
  · exact h
  · cases h
  · cases h
theorem yb_of_block {w : World} {g n : Nat} {L : Plain.Bs} (h : w.heap[g]? = some (.cells (vb L).toArray 5 (0, 0))) (hn : n = L.length) (nx : n ≤ 1048576) : Yb w (.slice (some ⟨g, 0, none⟩) n n) L := by
  subst hn
  by_cases h0 : L.length = 0
  · have : L = [] := List.length_eq_zero_iff.1 h0
    subst this
    exact .inr (.inl ⟨_, _, rfl, rfl⟩)
  · refine .inr (.inr ⟨g, 0, L.length, rfl, by omega, Nat.le_refl _, by unfold maxLen; omega, fun j hj => ?_, ?_⟩)
    · simp [World.cell?, h, vb, hj]
    · exact (Array.getElem?_eq_some_iff.1 h).1

set_option maxHeartbeats 400000 in
/-- cloneBytes. -/
theorem cloneB_walk (ao : Option Addr) (n c : Nat) (L : Plain.Bs) (w : World) (h : Yb w (.slice ao n c) L) (hn : n ≤ 1048576) :
    Calls Tryd.prog 5 #[.slice ao n c] w fun e w' => (∃ v', e = .returned v' ∧ Yb w' v' L) ∧ Below w.heap.size w w' := by
  have hq : ∀ a l d wx, (binOp .eql 22 (.slice a l d) (.slice none 0 0)).run Tryd.prog wx = .ok (.bool a.isNone) wx := fun a l d wx => Lib.run_eql_slice_nil wx 22 5 a l d 0 0 Tryd.underlying22
  have hmk := makeB_run n hn
  have HL : Hid (n = L.length) := h.len
  cases ao with
  | none =>
    go_enter Tryd.func5, Tryd.ntmps5
    go_wp2
    go_ret
    exact ⟨⟨_, rfl, .inl ⟨rfl, h.none_nil⟩⟩, Below.refl _ _⟩
  | some a =>
    go_enter Tryd.func5, Tryd.ntmps5
    go_wp2
    go_loopw [4] (fun i wr => ∃ k : Nat, k ≤ n ∧ i = .int .i64 k ∧ wr = w.alloc (.cells (fc (fun b : UInt8 => .int .u8 (b.toNat : Int)) (.int .u8 0) L k) 5)) (fun i _ => n - (intOf i).toNat)
    case atStart => exact ⟨0, Nat.zero_le _, rfl, by rw [fc_zero, ← HL.out]; rfl⟩
    case round =>
      obtain ⟨k, hk, rfl, rfl⟩ := hrel
      by_cases hlt : k < n
      · obtain ⟨b, o, hab, hq1, hA, hbw⟩ := h.at (by omega)
        obtain rfl := Option.some.inj hab
        clear hq1 hab
        have hkL : k < L.length := by have := HL.out; omega
        have hcell := hA k hkL
        have hold := fc_old (fun b : UInt8 => .int .u8 (b.toNat : Int)) (.int .u8 0) L k hkL
        have HS : Hid ((fc (fun b : UInt8 => .int .u8 (b.toNat : Int)) (.int .u8 0) L k).setIfInBounds k (.int .u8 (L[k].toNat : Int)) = fc (fun b : UInt8 => .int .u8 (b.toNat : Int)) (.int .u8 0) L (k + 1)) := fc_step _ _ L k hkL
        go_wp2
        go_roundw
        case rel => exact ⟨k + 1, by omega, by go_num, by rw [HS.out]⟩
        case measure => simp [intOf]; omega
      · have hke : k = n := by omega
        subst hke
        go_wp2
        go_ret
        exact ⟨⟨_, rfl, yb_of_block (by rw [HL.out, fc_all]; exact heap_alloc_new _ _) HL.out hn⟩, (Below.refl _ _).alloc (Nat.le_refl _) _⟩

/-- It answers true or false. -/
def AnswersB (e : Ending) : Prop := ∃ b, e = .returned (.bool b)
set_option maxHeartbeats 1000000 in
/-- zzBytes_FnValueEndFindsEveryValue: it answers. -/
theorem zz_walk (a1 a2 ao a4 : Option Addr) (n1 n2 n n4 c1 c2 c c4 : Nat) (L : List ByteArray) (w : World) (h : Ss w (.slice ao n c) L) (h1 : n1 ≤ maxLen) (h2 : n2 ≤ maxLen) (hn : n ≤ maxLen) (h4 : n4 ≤ maxLen) :
    Calls Tryd.prog 4 #[.slice a1 n1 c1, .slice a2 n2 c2, .slice ao n c, .slice a4 n4 c4] w fun e w' => AnswersB e ∧ w' = w := by
  unfold maxLen at h1 h2 hn h4
  by_cases q1 : n1 ≤ 1048576
  · by_cases q2 : n2 ≤ 1048576
    · by_cases q3 : n ≤ 1048576
      · by_cases q4 : n1 + n2 ≤ 1048576
        · by_cases q5 : n1 + n2 + n ≤ 1048576
          · · go_enter Tryd.func4, Tryd.ntmps4
              go_wp2
              go_loop [9, 10] (fun z i => ∃ k t : Nat, k ≤ n ∧ t ≤ 1048576 ∧ i = .int .i64 k ∧ z = .int .i64 t) (fun _ i => n - (intOf i).toNat)
              case atStart => exact ⟨0, n1 + n2 + n, Nat.zero_le _, q5, rfl, by go_num⟩
              case round =>
                obtain ⟨k, t, hk, ht, rfl, rfl⟩ := hrel
                by_cases hlt : k < n
                · obtain ⟨b, o, rfl, hL, hA, _⟩ := h.at (by omega)
                  have hcell := hA k (by omega)
                  obtain ⟨s, hs⟩ : ∃ s, s = L[k] := ⟨_, rfl⟩
                  rw [← hs] at hcell
                  clear hs hA hL h
                  go_wp2
                  · go_ret
                    exact ⟨⟨_, rfl⟩, rfl⟩
                  · go_ret
                    exact ⟨⟨_, rfl⟩, rfl⟩
                  · go_round
                    case rel => exact ⟨k + 1, t + s.size, by omega, by omega, by go_num, by go_num⟩
                    case measure => simp [intOf]; omega
                · go_wp2
                  all_goals
                    go_ret
                    exact ⟨⟨_, rfl⟩, rfl⟩
          · go_enter Tryd.func4, Tryd.ntmps4
            go_wp2
            all_goals
              go_ret
              exact ⟨⟨_, rfl⟩, rfl⟩
        · go_enter Tryd.func4, Tryd.ntmps4
          go_wp2
          all_goals
            go_ret
            exact ⟨⟨_, rfl⟩, rfl⟩
      · go_enter Tryd.func4, Tryd.ntmps4
        go_wp2
        all_goals
          go_ret
          exact ⟨⟨_, rfl⟩, rfl⟩
    · go_enter Tryd.func4, Tryd.ntmps4
      go_wp2
      all_goals
        go_ret
        exact ⟨⟨_, rfl⟩, rfl⟩
  · go_enter Tryd.func4, Tryd.ntmps4
    go_wp2
    go_ret
    exact ⟨⟨_, rfl⟩, rfl⟩
end Go.Proofs.Qxb6001559aDoor
