import Derived.Test.Qxb6001559aDoorScan
import Derived.Lib.AsciiSet
import Derived.Laws.ResultCell
import Derived.Deep.LoopGhost
import Derived.Deep.WholeRow
import Derived.Laws.Externs
import Derived.Shelf.Strings.IndexAnyAll
/-! THE WALK of bytes.IndexAny at valueEnd's set. -/
namespace Go.Proofs.Qxb6001559aDoor
open Go.RowKit Plain

theorem Tryd.info46 : (Tryd.prog.info? 46).map (fun i => (i.zero, i.size)) = some (some (.agg (Array.replicate 256 (.bool false))), 256) := by kernel_rfl
theorem zero46 : ∀ w, (zeroValue 46).run Tryd.prog w = .ok (.agg (Array.replicate 256 (.bool false))) w := (zero_of_info Tryd.info46).1
theorem size46 : (Tryd.prog.info? 46).map (·.size) = some 256 := (zero_of_info Tryd.info46).2

/-- A whole set out of the block that was made last. -/
theorem wpList_load46 {ops : Array Oper} {rest : List Oper} {o : Oper} {a : Act} {Q : Exit → Act → World → Prop} (hgd : o.guard = none) (x : Operand) (ho : o.op = .load 46 x) (w0 : World) (c : Array Value) (hx : a.eval x = .pointer (some ⟨w0.heap.size, 0, none⟩)) (hc : c.size = 256)
    (h : wpList Tryd.prog ops Q rest (a.put o.dst (.agg c)) (w0.alloc (.cells c 46))) : wpList Tryd.prog ops Q (o :: rest) a (w0.alloc (.cells c 46)) := by
  refine wpList_plain hgd fun K hK => ?_
  have hrun := run_loadAt_new (P := Tryd.prog) w0 46 c 256 4 Tryd.underlying46 (by rw [hc]; exact size46)
  unfold Oper.wp
  simp only [execOp, ho, hx, Sem.run_bind, hrun, Result.andThen, Sem.run_pure]
  exact hK _ _ h
/-- A whole set into it. -/
theorem wpList_store46 {ops : Array Oper} {rest : List Oper} {o : Oper} {a : Act} {Q : Exit → Act → World → Prop} (hgd : o.guard = none) (x y : Operand) (ho : o.op = .store 46 x y) (hd : o.dst = none) (w0 : World) (g : Nat) (hg : g = w0.heap.size) (c c' : Array Value) (hx : a.eval x = .pointer (some ⟨g, 0, none⟩)) (hy : a.eval y = .agg c') (hc : c.size = 256) (hc' : c'.size = 256) (h1 : c'.all (·.oneCell') = true)
    (h : wpList Tryd.prog ops Q rest a (w0.alloc (.cells c' 46))) : wpList Tryd.prog ops Q (o :: rest) a (w0.alloc (.cells c 46)) := by
  subst hg
  refine wpList_plain hgd fun K hK => ?_
  have hrun := run_storeAt_new (P := Tryd.prog) w0 46 c c' (by rw [hc']; exact size46) (by rw [hc, hc']) h1
  unfold Oper.wp
  simp only [execOp, ho, hx, hy, Sem.run_bind, hrun, Result.andThen, Sem.run_pure]
  rw [Oper.upon_skip, hd]
  exact hK _ _ h

theorem delims_size : delims.size = 7 := rfl
theorem delims_ascii (i : Nat) (h : i < 7) : ∃ x : UInt8, delims[i]'(by rw [delims_size]; exact h) = x ∧ delims.data.toList[i]? = some x ∧ x.toNat < 128 := by
  have : i = 0 ∨ i = 1 ∨ i = 2 ∨ i = 3 ∨ i = 4 ∨ i = 5 ∨ i = 6 := by omega
  rcases this with rfl | rfl | rfl | rfl | rfl | rfl | rfl
  · exact ⟨44, rfl, rfl, by decide⟩
  · exact ⟨125, rfl, rfl, by decide⟩
  · exact ⟨93, rfl, rfl, by decide⟩
  · exact ⟨32, rfl, rfl, by decide⟩
  · exact ⟨9, rfl, rfl, by decide⟩
  · exact ⟨10, rfl, rfl, by decide⟩
  · exact ⟨13, rfl, rfl, by decide⟩

set_option maxHeartbeats 1000000 in
set_option maxRecDepth 1000000 in
theorem set_walk (w : World) :
    Calls Tryd.prog 25 #[.string delims] w fun e w' => e = .returned (.tuple #[.agg (Lib.setCells delims.data.toList), .bool true]) ∧ w' = w.alloc (.cells (Lib.setCells delims.data.toList) 46) := by
  have hv := zero46
  have hds := delims_size
  go_enter Tryd.func25, Tryd.ntmps25
  go_wp2
  rw [← Lib.setCells_nil]
  go_loopg [4] 7 (fun g s4 wx => ∃ i : Nat, i + g = 7 ∧ s4 = .int .i64 i ∧ wx = w.alloc (.cells (Lib.setCells (delims.data.toList.take i)) 46))
  case atStart => exact ⟨0, by omega, rfl, rfl⟩
  case round =>
    obtain ⟨i, hig, rfl, rfl⟩ := hrel
    cases gk with
    | zero =>
      obtain rfl : i = 7 := by omega
      rw [show delims.data.toList.take 7 = delims.data.toList from rfl]
      have hsz := Lib.setCells_size delims.data.toList
      go_wp2_with (first
        | (refine wpList_load46 rfl (.tmp 2) rfl w (Lib.setCells delims.data.toList) rfl hsz ?_)
        | (refine wpList_store46 rfl (.tmp 2) (.tmp 20) rfl rfl w w.heap.size rfl (Lib.setCells delims.data.toList) (Lib.setCells delims.data.toList) rfl rfl hsz hsz (Lib.setCells_one _) ?_))
      have hld := run_loadVar_new (P := Tryd.prog) w 46 (Lib.setCells delims.data.toList) 256 4 Tryd.underlying46 (by rw [hsz]; exact size46)
      refine bodyPost_ret (v := .tuple #[.agg (Lib.setCells delims.data.toList), .bool true]) ?_ rfl ⟨rfl, rfl⟩
      rw [results_cell_tmp rfl]
      simp [asAddr, Result.andThen, hld]
    | succ g =>
      have hi : i < 7 := by omega
      obtain ⟨x, hx, hxl, hx128⟩ := delims_ascii i hi
      have hcell := Lib.setCells_at (delims.data.toList.take i) x
      have Hx : Hid (delims.data.toList[i]? = some x) := hxl
      clear hxl
      go_wp2
      go_roundg g
      case measure => omega
      case rel => exact ⟨i + 1, by omega, by first | rfl | simp, by rw [List.take_add_one, Hx.out]; simp only [Option.toList]; rw [Lib.setCells_snoc]⟩

set_option maxHeartbeats 400000 in
theorem contains_walk (b : Nat) (x : UInt8) (v : Bool) (w : World) (hc : w.cell? ⟨b, x.toNat, none⟩ = some (.bool v)) :
    Calls Tryd.prog 26 #[.pointer (some ⟨b, 0, none⟩), .int .u8 (x.toNat : Int)] w fun e w' => e = .returned (.bool v) ∧ w' = w := by
  have hx256 : (x.toNat : Int) < 256 := by have := UInt8.toNat_lt x; omega
  go_enter Tryd.func26, Tryd.ntmps26
  go_wp2
  go_ret
  exact ⟨rfl, rfl⟩

instance (c : UInt8) : Decidable (dl c) := by unfold dl; infer_instance
theorem idx_no (c : UInt8) : ¬ dl c → firstIdx delims c = -1 := all_u8 (P := fun c => ¬ dl c → firstIdx delims c = -1) (by decide +kernel) c
theorem idx_yes (c : UInt8) : dl c → 0 ≤ firstIdx delims c := all_u8 (P := fun c => dl c → 0 ≤ firstIdx delims c) (by decide +kernel) c
theorem set_no (c : UInt8) : ¬ dl c → delims.data.toList.contains c = false := all_u8 (P := fun c => ¬ dl c → delims.data.toList.contains c = false) (by decide +kernel) c
theorem set_yes (c : UInt8) : dl c → delims.data.toList.contains c = true := all_u8 (P := fun c => dl c → delims.data.toList.contains c = true) (by decide +kernel) c
theorem run22 (c : UInt8) (w : World) : (callFunc 22 #[.string delims, .int .u8 (c.toNat : Int)]).run Tryd.prog w = .ok (.value (.int .i64 (firstIdx delims c))) w := by
  rw [run_callFunc_extern Tryd.func22 rfl rfl (by kernel_rfl) (e := Extern.BytealgIndexByte.indexByte) (by kernel_rfl), run_indexByte_string]
  simp [Result.andThen]
theorem dl_lt (c : UInt8) : dl c → c.toNat < 128 := all_u8 (P := fun c => dl c → c.toNat < 128) (by decide +kernel) c

theorem later_cell {w : World} {a : Addr} {u : Value} {o : Obj} (h : w.cell? a = some u) : (w.alloc o).cell? a = some u := by
  rw [World.cell?_alloc_old _ _ _ (Nat.ne_of_lt (World.block_lt_of_cell? _ _ h))]; exact h
theorem at_left {t r : Plain.Bs} {k : Nat} (h : k < t.length) : (t ++ r)[k]'(by rw [List.length_append]; omega) ∈ t := by
  rw [List.getElem_append_left h]; exact List.getElem_mem h
theorem at_edge {t r' : Plain.Bs} {c : UInt8} (h : t.length < (t ++ c :: r').length) : (t ++ c :: r')[t.length]'h = c := by
  rw [List.getElem_append_right (Nat.le_refl _)]; simp
/-- The byte at k: of the number, or the delimiter behind it. -/
theorem any_at {t r : Plain.Bs} (hs : ∀ c ∈ t, sc c) (hr : r = [] ∨ ∃ c r', r = c :: r' ∧ dl c) {k : Nat} (hk : k ≤ t.length) (hl : k < (t ++ r).length) :
    (k < t.length ∧ ¬ dl (t ++ r)[k] ∧ (t ++ r)[k].toNat < 128) ∨ (k = t.length ∧ dl (t ++ r)[k] ∧ ¬ r = []) := by
  by_cases h : k < t.length
  · have := hs _ (at_left (r := r) h)
    exact .inl ⟨h, this.2.1, by have := this.2.2; simpa [UInt8.lt_iff_toNat_lt] using this⟩
  · have hke : k = t.length := by omega
    subst hke
    rcases hr with rfl | ⟨c, r', rfl, hc⟩
    · simp at hl
    · exact .inr ⟨rfl, by rw [at_edge]; exact hc, by simp⟩

set_option maxHeartbeats 400000 in
theorem use_walk (n : Int) (w : World) : Calls Tryd.prog 24 #[.int .i64 n] w fun e w' => e = .returned (.bool (decide (8 < n))) ∧ w' = w := by
  go_enter Tryd.func24, Tryd.ntmps24
  go_wp2
  go_ret
  exact ⟨rfl, rfl⟩

set_option maxHeartbeats 2000000 in
set_option maxRecDepth 100000 in
theorem any_walk (b o c N : Nat) (t r : Plain.Bs) (w : World) (hx : At w b o (t ++ r)) (hN : N = (t ++ r).length) (hl : N ≤ 1073741824) (ht : t ≠ []) (hs : ∀ c ∈ t, sc c) (hr : r = [] ∨ ∃ c r', r = c :: r' ∧ dl c) :
    Calls Tryd.prog 20 #[.slice (some ⟨b, o, none⟩) N c, .string delims] w fun e w' => e = .returned (.int .i64 (AnyAns t r)) ∧ Below w.heap.size w w' := by
  have htp : 0 < t.length := List.length_pos_iff.2 ht
  have hNt : N = t.length + r.length := by rw [hN, List.length_append]
  have hemp : delims.toList.isEmpty = false := by rw [Lib.toList_data]; rfl
  have hds := delims_size
  have H : Hid ((∀ c ∈ t, sc c) ∧ (r = [] ∨ ∃ c r', r = c :: r' ∧ dl c)) := ⟨hs, hr⟩
  have HX : Hid (At w b o (t ++ r)) := hx
  have HN : Hid (N = (t ++ r).length) := hN
  have HNT : Hid (N = t.length + r.length) := hNt
  clear hs hr hx ht hN hNt
  by_cases h1 : N = 1
  · have hr0 : r = [] := List.length_eq_zero_iff.1 (by have := HNT.out; omega)
    have hl0 : 0 < (t ++ r).length := by have := HN.out; omega
    have hcell : w.cell? ⟨b, o, none⟩ = some (.int .u8 ((t ++ r)[0].toNat : Int)) := HX.out 0 hl0
    rcases any_at H.out.1 H.out.2 (Nat.zero_le _) hl0 with ⟨_, hnd, h128⟩ | ⟨h0, _⟩
    · have h22 := run22 (t ++ r)[0] w
      rw [idx_no _ hnd] at h22
      obtain ⟨u, hu⟩ : ∃ u, u = (t ++ r)[0].toNat := ⟨_, rfl⟩
      rw [← hu] at hcell h22 h128
      have HA : Hid (AnyAns t r = -1) := by show AnyAns t r = -1; rw [AnyAns, if_pos hr0]
      clear hu hnd H HX HN hr0 HNT hl0
      subst h1
      go_enter Tryd.func20, Tryd.ntmps20
      go_wp2
      go_ret
      exact ⟨ret_int HA.out.symm, Below.refl _ _⟩
    · omega
  · by_cases h8 : 8 < N
    · have hv := zero46
      have hsz := Lib.setCells_size delims.data.toList
      have h8z : decide ((8 : Int) < (N : Int)) = true := decide_eq_true (by omega)
      have h1z : ((N : Int) == 1) = false := beq_eq_false_iff_ne.2 (by omega)
      obtain ⟨W, hW⟩ : ∃ W, W = (w.alloc (.cells (Lib.setCells delims.data.toList) 46)).alloc (.cells (Lib.setCells delims.data.toList) 46) := ⟨_, rfl⟩
      have HB : Hid (Below w.heap.size w W) := by rw [hW]; exact ((Below.refl _ _).alloc (Nat.le_refl _) _).alloc (by simp) _
      have HXW : Hid (At W b o (t ++ r)) := fun j hj => by rw [hW]; exact later_cell (later_cell (HX.out j hj))
      have HC : Hid (∀ x : UInt8, W.cell? ⟨w.heap.size + 1, x.toNat, none⟩ = some (.bool (delims.data.toList.contains x))) := fun x => by
        rw [hW, World.cell?_alloc_at _ _ _ _ (by simp), Lib.setCells_at]
      have HW : Hid (W = (w.alloc (.cells (Lib.setCells delims.data.toList) 46)).alloc (.cells (Lib.setCells delims.data.toList) 46)) := hW
      clear hW HX
      go_enter Tryd.func20, Tryd.ntmps20
      have c24 := use_walk (N : Int) w
      rw [h8z] at c24
      have HG : Hid (w.heap.size + 1 = (w.alloc (.cells (Lib.setCells delims.data.toList) 46)).heap.size) := by show _ = _; simp
      have HR : Hid ((Array.replicate 256 (Value.bool false)).size = 256) := by show _ = _; simp
      go_wp2_with (first
        | (go_at_call 24; refine c24.mono ?_; rintro e w' ⟨rfl, hw'⟩; obtain rfl := hw'.symm)
        | (go_at_call 25; refine (set_walk _).mono ?_; rintro e w' ⟨rfl, hw⟩; subst hw)
        | (refine wpList_store46 rfl (.tmp 7) (.tmp 57) rfl rfl (w.alloc (.cells (Lib.setCells delims.data.toList) 46)) (w.heap.size + 1) HG.out (Array.replicate 256 (.bool false)) (Lib.setCells delims.data.toList) rfl rfl HR.out hsz (Lib.setCells_one _) ?_))
      rw [← HW.out]
      go_loop [9, 10, 62] (fun _ _ v => ∃ k : Nat, v = .int .i64 k ∧ k ≤ t.length) (fun _ _ v => N - (intOf v).toNat)
      case atStart => exact ⟨0, rfl, Nat.zero_le _⟩
      case round =>
        obtain ⟨k, rfl, hk⟩ := hrel
        by_cases hkN : k < N
        · have hlk : k < (t ++ r).length := by have := HN.out; omega
          have hcell := HXW.out k hlk
          rcases any_at H.out.1 H.out.2 hk hlk with ⟨hkt, hnd, h128⟩ | ⟨hkt, hd, hrn⟩
          · have hct := contains_walk (w.heap.size + 1) (t ++ r)[k] false W (by rw [HC.out, set_no _ hnd])
            obtain ⟨u, hu⟩ : ∃ u, u = (t ++ r)[k].toNat := ⟨_, rfl⟩
            rw [← hu] at hcell hct
            clear hu hnd h128
            go_wp2_with (go_at_call 26; refine hct.mono ?_; rintro e w' ⟨rfl, hw'⟩; obtain rfl := hw'.symm)
            go_round
            case rel => exact ⟨k + 1, by go_num, by omega⟩
            case measure => simp [intOf]; omega
          · have hct := contains_walk (w.heap.size + 1) (t ++ r)[k] true W (by rw [HC.out, set_yes _ hd])
            obtain ⟨u, hu⟩ : ∃ u, u = (t ++ r)[k].toNat := ⟨_, rfl⟩
            rw [← hu] at hcell hct
            have HA : Hid (AnyAns t r = (k : Int)) := by show AnyAns t r = _; rw [AnyAns, if_neg hrn, hkt]
            clear hu hd hrn hkt
            go_wp2_with (go_at_call 26; refine hct.mono ?_; rintro e w' ⟨rfl, hw'⟩; obtain rfl := hw'.symm)
            go_ret
            exact ⟨ret_int HA.out.symm, HB.out⟩
        · have hr0 : r = [] := List.length_eq_zero_iff.1 (by have := HNT.out; omega)
          have HA : Hid (AnyAns t r = -1) := by show AnyAns t r = -1; rw [AnyAns, if_pos hr0]
          clear hr0
          go_wp2
          go_ret
          exact ⟨ret_int HA.out.symm, HB.out⟩
    · have h8z : decide ((8 : Int) < (N : Int)) = false := decide_eq_false (by omega)
      have h1z : ((N : Int) == 1) = false := beq_eq_false_iff_ne.2 (by omega)
      have c24 := use_walk (N : Int) w
      rw [h8z] at c24
      go_enter Tryd.func20, Tryd.ntmps20
      go_wp2_with (go_at_call 24; refine c24.mono ?_; rintro e w' ⟨rfl, hw'⟩; obtain rfl := hw'.symm)
      go_loop [11, 12, 13, 15] (fun _ v _ _ => ∃ k : Nat, v = .int .i64 k ∧ k ≤ t.length) (fun _ v _ _ => N - (intOf v).toNat)
      case atStart => exact ⟨0, rfl, Nat.zero_le _⟩
      case round =>
        obtain ⟨k, rfl, hk⟩ := hrel
        by_cases hkN : k < N
        · have hlk : k < (t ++ r).length := by have := HN.out; omega
          have hcell := HX.out k hlk
          have h22 := run22 (t ++ r)[k] w
          rcases any_at H.out.1 H.out.2 hk hlk with ⟨hkt, hnd, h128⟩ | ⟨hkt, hd, hrn⟩
          · rw [idx_no _ hnd] at h22
            obtain ⟨u, hu⟩ : ∃ u, u = (t ++ r)[k].toNat := ⟨_, rfl⟩
            rw [← hu] at hcell h22 h128
            clear hu hnd
            go_wp2
            go_round
            case rel => exact ⟨k + 1, by go_num, by omega⟩
            case measure => simp [intOf]; omega
          · have h128 := dl_lt _ hd
            have hge := idx_yes _ hd
            obtain ⟨u, hu⟩ : ∃ u, u = (t ++ r)[k].toNat := ⟨_, rfl⟩
            obtain ⟨f, hf⟩ : ∃ f, f = firstIdx delims (t ++ r)[k] := ⟨_, rfl⟩
            rw [← hu] at hcell h22 h128
            rw [← hf] at h22 hge
            have HA : Hid (AnyAns t r = (k : Int)) := by show AnyAns t r = _; rw [AnyAns, if_neg hrn, hkt]
            clear hu hd hrn hf hkt
            go_wp2
            go_ret
            exact ⟨ret_int HA.out.symm, Below.refl _ _⟩
        · have hr0 : r = [] := List.length_eq_zero_iff.1 (by have := HNT.out; omega)
          have HA : Hid (AnyAns t r = -1) := by show AnyAns t r = -1; rw [AnyAns, if_pos hr0]
          clear hr0
          go_wp2
          go_ret
          exact ⟨ret_int HA.out.symm, Below.refl _ _⟩
end Go.Proofs.Qxb6001559aDoor
