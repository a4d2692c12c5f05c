import Derived.Test.Qxb6002445aDoorCont
import Derived.Laws.CopyOwn
/-! THE WALKS of cloneBytesG2, mapLowerG2, mapUpperG2. -/
namespace Go.Proofs.Qxb6002445aDoor
open Go.RowKit

theorem Tryd.info5 : (Tryd.prog.info? 5).map (fun i => (i.zero, i.size, i.bytes)) = some (some (.int .u8 0), 1, 1) := by kernel_rfl
theorem Tryd.size5 : (Tryd.prog.info? 5).map (·.size) = some 1 := by kernel_rfl

/-- Bytes as cells. -/
def vb (l : List UInt8) : List Value := l.map fun b => .int .u8 (b.toNat : Int)

/-- n zero cells. -/
def zs (n : Nat) : Array Value := (List.replicate n (Value.int .u8 0)).toArray

theorem make_run (n : Nat) (hn : n ≤ 4096) (w : World) : (Instr.makeSlice 22 (.int .i64 (n : Int)) (.int .i64 (n : Int))).run Tryd.prog w =
    .ok (.slice (some ⟨w.heap.size, 0, none⟩) n n) (w.alloc (.cells (zs n) 5)) := by
  obtain ⟨i0, hi, hz0, hz1, hz2⟩ := info_parts Tryd.info5
  have h := run_make (P := Tryd.prog) w 22 5 i0 (.int .u8 0) Tryd.underlying22 hi hz0 .i64 .i64 (n : Int) (n : Int) (by omega) (by omega) (by rw [hz2]; omega) (by omega)
  rw [h, hz1, Int.toNat_natCast, Nat.mul_one]
  have e : madeCells (Value.int IntKind.u8 0).cells n = zs n := by
    apply Array.toList_inj.1
    have := toList_madeCells_one (.int .u8 0) n
    rw [show (Value.int IntKind.u8 0).cells = #[Value.int IntKind.u8 0] from rfl, this, zs]
  rw [e]

theorem Bs.nil {w : World} {x : List UInt8} (h : Bs w (.slice none 0 0) x) : x = [] := by
  rcases h with ⟨_, h⟩ | ⟨a, c, h, _⟩ | ⟨b, o, c, h, _⟩
  · exact h
  · cases h
  · cases h
theorem Bs.src' {w : World} {v : Value} {x : List UInt8} (h : Bs w v x) (hv : ¬ v = .slice none 0 0) :
    ∃ a c, v = .slice (some a) x.length c ∧ (0 < x.length → ∃ b o, a = ⟨b, o, none⟩ ∧ At w b o x ∧ b < w.heap.size) := by
  rcases h with ⟨h, _⟩ | ⟨a, c, rfl, rfl⟩ | ⟨b, o, c, rfl, _, _, _, hA, hb⟩
  · exact absurd h hv
  · exact ⟨a, c, rfl, fun h => by simp at h⟩
  · exact ⟨_, c, rfl, fun _ => ⟨b, o, rfl, hA, hb⟩⟩
theorem Bs.src {w : World} {v : Value} {x : List UInt8} (h : Bs w v x) (hv : ¬ v = .slice none 0 0) :
    ∃ a c, v = .slice (some a) x.length c ∧ ∀ j u, (vb x)[j]? = some u → w.cell? (a.add j) = some u := by
  obtain ⟨a, c, rfl, hs⟩ := h.src' hv
  refine ⟨a, c, rfl, fun j u hj => ?_⟩
  have hjl : j < x.length := by
    have := (List.getElem?_eq_some_iff.1 hj).1
    simpa [vb] using this
  obtain ⟨b, o, rfl, hA, _⟩ := hs (by omega)
  rw [WideShapes.add_plain, hA j hjl]
  simp [vb, hjl] at hj
  rw [hj]
theorem later_cell {w : World} {a : Addr} {u : Value} {o : Obj} (h : w.cell? a = some u) : (w.alloc o).cell? a = some u := by
  rw [World.cell?_alloc_old _ _ _ (Nat.ne_of_lt (World.block_lt_of_cell? _ _ h))]; exact h
theorem splice_all {α : Type} (L X : List α) (h : L.length ≤ X.length) : splice L 0 X = X := by
  unfold splice
  rw [List.drop_eq_nil_of_le (by omega)]; simp
theorem bs_of_block {w : World} {g : Nat} {x : List UInt8} (h : w.heap[g]? = some (.cells (vb x).toArray 5 (0, 0))) (nx : x.length ≤ 4096) : Bs w (.slice (some ⟨g, 0, none⟩) x.length x.length) x := by
  by_cases h0 : x.length = 0
  · have : x = [] := List.length_eq_zero_iff.1 h0
    subst this
    exact .inr (.inl ⟨_, _, rfl, rfl⟩)
  · refine .inr (.inr ⟨g, 0, x.length, rfl, by omega, Nat.le_refl _, by unfold maxLen; omega, fun j hj => ?_, ?_⟩)
    · simp [World.cell?, h, vb, hj]
    · exact (Array.getElem?_eq_some_iff.1 h).1

theorem bs_of_map {w : World} {g : Nat} {x : List UInt8} {f : UInt8 → UInt8} (h : w.heap[g]? = some (.cells (vb (x.map f)).toArray 5 (0, 0))) (nx : x.length ≤ 4096) : Bs w (.slice (some ⟨g, 0, none⟩) x.length x.length) (x.map f) := by
  have := bs_of_block h (by rw [List.length_map]; exact nx)
  rwa [List.length_map] at this

set_option maxHeartbeats 400000 in
theorem clone_walk (v : Value) (x : List UInt8) (w : World) (hx : Bs w v x) (nx : x.length ≤ 4096) :
    Calls Tryd.prog 7 #[v] w fun e w' => ∃ v', e = .returned v' ∧ Bs w' v' x ∧ Below w.heap.size w w' := by
  have hq : ∀ a l c wx, (binOp .eql 22 (.slice a l c) (.slice none 0 0)).run Tryd.prog wx = .ok (.bool a.isNone) wx := fun a l c wx => Lib.run_eql_slice_nil wx 22 5 a l c 0 0 Tryd.underlying22
  have hmk := make_run x.length nx
  by_cases hv : v = .slice none 0 0
  · subst hv
    obtain rfl := hx.nil
    clear hx
    go_enter Tryd.func7, Tryd.ntmps7
    go_wp2
    go_ret
    exact ⟨_, rfl, .inl ⟨rfl, rfl⟩, Below.refl _ _⟩
  · obtain ⟨a, c, rfl, hcell⟩ : ∃ a c, v = .slice (some a) x.length c ∧ ∀ j u, (vb x)[j]? = some u → w.cell? (a.add j) = some u := hx.src hv
    obtain ⟨X, hX⟩ : ∃ X, X = vb x := ⟨_, rfl⟩
    rw [← hX] at hcell
    have hXl : X.length = x.length := by rw [hX]; simp [vb]
    have hX1 : ∀ u ∈ X, u.oneCell' = true := by
      rw [hX]; intro u hu; simp [vb] at hu; obtain ⟨b, _, rfl⟩ := hu; rfl
    have HX : Hid (X = vb x) := hX
    have HXL : Hid (X.length = x.length) := hXl
    clear hX hXl hx hv
    go_enter Tryd.func7, Tryd.ntmps7
    go_wp2_with (refine wpList_copy_splice rfl (.tmp 9) (.tmp 10) 22 22 rfl 5 Tryd.underlying22 Tryd.size5 _ _ _ _ _ _ rfl rfl w.heap.size 0 (zs x.length).toList 5 ?c0 X ?c1 ?c2 ?c3 hX1 w.heap.size w ?c4 (Nat.le_refl _) ?_)
    case c0 => rw [Array.toArray_toList]; exact heap_alloc_new _ _
    case c1 => rw [HXL.out]; simp
    case c2 => intro _ j u hj; exact later_cell (hcell j u hj)
    case c3 => rw [HXL.out]; simp [zs]
    case c4 => exact (Below.refl _ _).alloc (Nat.le_refl _) _
    intro w1 HW hb
    go_wp2
    go_ret
    refine ⟨_, rfl, bs_of_block (by rw [← HX.out, ← splice_all (zs x.length).toList X (by rw [HXL.out]; simp [zs])]; exact HW.out) nx, hb⟩

/-- What mapLowerG2 and mapUpperG2 have laid behind k rounds. -/
def fc (f : UInt8 → UInt8) (x : List UInt8) (k : Nat) : Array Value := (vb ((x.take k).map f) ++ List.replicate (x.length - k) (Value.int .u8 0)).toArray
theorem fc_zero (f : UInt8 → UInt8) (x : List UInt8) : fc f x 0 = zs x.length := by simp [fc, vb, zs]
theorem fc_all (f : UInt8 → UInt8) (x : List UInt8) : fc f x x.length = (vb (x.map f)).toArray := by simp [fc]
theorem fc_old (f : UInt8 → UInt8) (x : List UInt8) (k : Nat) (h : k < x.length) : (fc f x k)[k]? = some (.int .u8 0) := by
  unfold fc
  have hl : (vb ((x.take k).map f)).length = k := by simp [vb]; omega
  rw [List.getElem?_toArray, List.getElem?_append_right (by omega), hl, Nat.sub_self, List.getElem?_replicate, if_pos (by omega)]
theorem fc_step (f : UInt8 → UInt8) (x : List UInt8) (k : Nat) (h : k < x.length) : (fc f x k).setIfInBounds k (.int .u8 ((f x[k]).toNat : Int)) = fc f x (k + 1) := by
  have hl : (vb ((x.take k).map f)).length = k := by simp [vb]; omega
  have hr : x.length - k = (x.length - (k + 1)) + 1 := by omega
  unfold fc
  rw [List.setIfInBounds_toArray, List.set_append_right _ _ (by omega), hl, Nat.sub_self, hr, List.replicate_succ, List.set_cons_zero, List.take_succ_eq_append_getElem h]
  simp only [vb, List.map_append, List.map_cons, List.map_nil, List.append_assoc, List.cons_append, List.nil_append]

set_option maxHeartbeats 400000 in
theorem mapLower_walk (v : Value) (x : List UInt8) (w : World) (hx : Bs w v x) (nx : x.length ≤ 4096) :
    Calls Tryd.prog 9 #[v] w fun e w' => ∃ v', e = .returned v' ∧ Bs w' v' (x.map Plain.lower) ∧ Below w.heap.size w w' := by
  have hq : ∀ a l c wx, (binOp .eql 22 (.slice a l c) (.slice none 0 0)).run Tryd.prog wx = .ok (.bool a.isNone) wx := fun a l c wx => Lib.run_eql_slice_nil wx 22 5 a l c 0 0 Tryd.underlying22
  have hmk := make_run x.length nx
  by_cases hv : v = .slice none 0 0
  · subst hv
    obtain rfl := hx.nil
    clear hx
    go_enter Tryd.func9, Tryd.ntmps9
    go_wp2
    go_ret
    exact ⟨_, rfl, .inl ⟨rfl, rfl⟩, Below.refl _ _⟩
  · obtain ⟨a, c, rfl, hsrc⟩ := hx.src' hv
    clear hx hv
    go_enter Tryd.func9, Tryd.ntmps9
    go_wp2
    go_loopw [4] (fun i wr => ∃ k : Nat, k ≤ x.length ∧ i = .int .i64 k ∧ wr = w.alloc (.cells (fc Plain.lower x k) 5)) (fun i _ => x.length - (intOf i).toNat)
    case atStart => exact ⟨0, Nat.zero_le _, rfl, by rw [fc_zero]⟩
    case round =>
      obtain ⟨k, hk, rfl, rfl⟩ := hrel
      by_cases hlt : k < x.length
      · obtain ⟨b, o, rfl, hA, hbw⟩ := hsrc (by omega)
        have hcell := hA k hlt
        have hold := fc_old Plain.lower x k hlt
        have HS : Hid ((fc Plain.lower x k).setIfInBounds k (.int .u8 ((Plain.lower x[k]).toNat : Int)) = fc Plain.lower x (k + 1)) := fc_step Plain.lower x k hlt
        go_wp2_with (go_at_call 17; refine (lower_walk _ _).mono ?_; rintro e w' ⟨rfl, rfl⟩)
        go_roundw
        case rel => exact ⟨k + 1, by omega, by go_num, by rw [HS.out]⟩
        case measure => simp [intOf]; omega
      · have hke : k = x.length := by omega
        subst hke
        go_wp2
        go_ret
        exact ⟨_, rfl, bs_of_map (by rw [fc_all]; exact heap_alloc_new _ _) nx, (Below.refl _ _).alloc (Nat.le_refl _) _⟩

set_option maxHeartbeats 400000 in
theorem mapUpper_walk (v : Value) (x : List UInt8) (w : World) (hx : Bs w v x) (nx : x.length ≤ 4096) :
    Calls Tryd.prog 11 #[v] w fun e w' => ∃ v', e = .returned v' ∧ Bs w' v' (x.map Plain.upper) ∧ Below w.heap.size w w' := by
  have hq : ∀ a l c wx, (binOp .eql 22 (.slice a l c) (.slice none 0 0)).run Tryd.prog wx = .ok (.bool a.isNone) wx := fun a l c wx => Lib.run_eql_slice_nil wx 22 5 a l c 0 0 Tryd.underlying22
  have hmk := make_run x.length nx
  by_cases hv : v = .slice none 0 0
  · subst hv
    obtain rfl := hx.nil
    clear hx
    go_enter Tryd.func11, Tryd.ntmps11
    go_wp2
    go_ret
    exact ⟨_, rfl, .inl ⟨rfl, rfl⟩, Below.refl _ _⟩
  · obtain ⟨a, c, rfl, hsrc⟩ := hx.src' hv
    clear hx hv
    go_enter Tryd.func11, Tryd.ntmps11
    go_wp2
    go_loopw [4] (fun i wr => ∃ k : Nat, k ≤ x.length ∧ i = .int .i64 k ∧ wr = w.alloc (.cells (fc Plain.upper x k) 5)) (fun i _ => x.length - (intOf i).toNat)
    case atStart => exact ⟨0, Nat.zero_le _, rfl, by rw [fc_zero]⟩
    case round =>
      obtain ⟨k, hk, rfl, rfl⟩ := hrel
      by_cases hlt : k < x.length
      · obtain ⟨b, o, rfl, hA, hbw⟩ := hsrc (by omega)
        have hcell := hA k hlt
        have hold := fc_old Plain.upper x k hlt
        have HS : Hid ((fc Plain.upper x k).setIfInBounds k (.int .u8 ((Plain.upper x[k]).toNat : Int)) = fc Plain.upper x (k + 1)) := fc_step Plain.upper x k hlt
        go_wp2_with (go_at_call 18; refine (upper_walk _ _).mono ?_; rintro e w' ⟨rfl, rfl⟩)
        go_roundw
        case rel => exact ⟨k + 1, by omega, by go_num, by rw [HS.out]⟩
        case measure => simp [intOf]; omega
      · have hke : k = x.length := by omega
        subst hke
        go_wp2
        go_ret
        exact ⟨_, rfl, bs_of_map (by rw [fc_all]; exact heap_alloc_new _ _) nx, (Below.refl _ _).alloc (Nat.le_refl _) _⟩
end Go.Proofs.Qxb6002445aDoor
