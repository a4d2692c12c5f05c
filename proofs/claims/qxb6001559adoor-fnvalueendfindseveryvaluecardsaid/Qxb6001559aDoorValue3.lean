import Derived.Test.Qxb6001559aDoorOk
import Derived.Deep.CutBlock
/-! THE WALK of value: one case. -/
namespace Go.Proofs.Qxb6001559aDoor
open Go.RowKit Plain

set_option maxHeartbeats 2000000 in
set_option maxRecDepth 100000 in
theorem value_3 (B : Nat) (R : Nat → Value) (sv : Value) (st : St) (op : UInt8) (w : World) (N : Nat) (h : JB w B R sv st) (HZ : Hid (Sz N st ∧ N ≤ 1099511627776)) (HE : Hid (st.ends.length = st.starts.length)) (HM : Hid (op.toNat % 8 = 3)) (strs : List ByteArray) (HSB : Hid (SB w B sv strs)) (HSL : Hid (strs.length ≤ 1048576)) (HNX : Hid (st.next ≤ strs.length)) (HSS : Hid (∀ s ∈ strs, s.size ≤ 4096)) (bb : Bool) (HBB : Hid (bb = (((op >>> 3).toNat : Int).tmod 2 == 1))) :
    Calls Tryd.prog 10 #[.pointer (some ⟨B, 0, none⟩), .int .u8 (op.toNat : Int)] w fun e w' => e = .returned (.tuple #[]) ∧ (∃ R', JB w' B R' sv ((bump strs st).whole (enc bb (took strs st).data.toList))) ∧ Below B w w' := by
  obtain ⟨i3, hi3, hz30, hz31, hz32⟩ := info_parts Tryd.info3
  obtain ⟨i5, hi5, hz50, hz51, hz52⟩ := info_parts Tryd.info5
  have hX1 : (X st 1).length = st.starts.length := by show (vn st.starts).length = _; simp [vn]
  have hX0 : (X st 0).length = st.out.length := by show (vb st.out).length = _; simp [vb]
  obtain ⟨a1, c1, e1⟩ := h.form (i := 1) (by omega)
  obtain ⟨a0, c0, e0⟩ := h.form (i := 0) (by omega)
  have k1 := h.cell 1 (by omega)
  have k0 := h.cell 0 (by omega)
  have row1 := h.row 1 (by omega)
  rw [hX1] at row1 e1
  rw [hX0] at e0
  rw [e1] at k1 row1
  rw [e0] at k0
  have HJ : Hid (JB w B R sv st) := h
  have hst : st.starts.length ≤ 1099511627776 := Nat.le_trans HZ.out.1.s HZ.out.2
  have hb1 : st.starts.length + 1 ≤ maxLen := by unfold maxLen; omega
  have hb2 : (st.starts.length + 1) * 8 ≤ 140737488355328 := by omega
  have hb3 : B + 1 ≤ (w.alloc (.cells #[.int .i64 (st.out.length : Int)] 3)).drew.heap.size := by have := h.lt; simp; omega
  have hown : (w.alloc (.cells #[.int .i64 (st.out.length : Int)] 3)).drew.ownsRow (B + 1) 3 1 (.slice a1 st.starts.length c1) st.starts.length (vn st.starts) := row1.alloc _
  have hcn : ∀ j u, (vn [st.out.length])[j]? = some u → (w.alloc (.cells #[.int .i64 (st.out.length : Int)] 3)).drew.cell? ((⟨w.heap.size, 0, none⟩ : Addr).add j) = some u := cells_new w #[.int .i64 (st.out.length : Int)] 3
  have k1' : (w.alloc (.cells #[.int .i64 (st.out.length : Int)] 3)).cell? ⟨B, 1, none⟩ = some (.slice a1 st.starts.length c1) := later_cell k1
  clear h
  go_enter Tryd.func10, Tryd.ntmps10
  go_upto_region 1 with fail
  go_cut [] (fun wx => (∃ R', JB wx B R' sv { st with starts := st.starts ++ [st.out.length] }) ∧ Below B w wx)
  case first =>
    go_region_law (refine step_append2 rfl (.tmp 15) (.tmp 21) 27 rfl (B + 1) 3 i3 (.int .i64 0) 8 Tryd.underlying27 hi3 hz30 hz31 hz32 rfl (.slice a1 st.starts.length c1) st.starts.length (vn st.starts) (by simp [Act.eval]) hown ⟨w.heap.size, 0, none⟩ 1 1 (vn [st.out.length]) (by simp [Act.eval]) rfl hcn (vn_one _) hb1 hb2 hb3 ?_; intro v1 w1 r1 r2 r3; obtain ⟨a2, d1, rfl⟩ := owns_form r1; have x0 := ((HJ.out.kept (i := 1) (by omega) e1 r2).1 1).trans k1; have xf := (HJ.out.kept (i := 1) (by omega) e1 r2).2 1)
    all_goals
      go_wp2_with fail
      go_meet
      exact HJ.out.appended (i := 1) (by omega) e1 r1 r2 r3 (by show vn (st.starts ++ [st.out.length]) = _; simp [vn]) (X_but 1 (fun _ => rfl) (fun h => absurd rfl h) (fun _ => rfl) (fun _ => rfl) (fun _ => rfl) (fun _ => rfl)) rfl
  case rest =>
  obtain ⟨⟨R1, h1⟩, hB1⟩ := hcut
  clear HJ hown hcn k0 k1 k1' e0 e1 row1 hb1 hb2 hb3
  have hX2 : (X { st with starts := st.starts ++ [st.out.length] } 2).length = st.starts.length := by show (vi st.ends).length = _; simp [vi, HE.out]
  obtain ⟨a2, c2, e2⟩ := h1.form (i := 2) (by omega)
  have k2 := h1.cell 2 (by omega)
  have row2 := h1.row 2 (by omega)
  rw [hX2] at row2 e2
  rw [e2] at k2 row2
  have HJ : Hid (JB wc B R1 sv { st with starts := st.starts ++ [st.out.length] }) := h1
  have hb1 : st.starts.length + 1 ≤ maxLen := by unfold maxLen; omega
  have hb2 : (st.starts.length + 1) * 8 ≤ 140737488355328 := by omega
  have hb3 : B + 1 ≤ (wc.alloc (.cells #[.int .i64 (-1)] 3)).heap.size := by have := h1.lt; simp; omega
  have hown : (wc.alloc (.cells #[.int .i64 (-1)] 3)).ownsRow (B + 1) 3 1 (.slice a2 st.starts.length c2) st.starts.length (vi st.ends) := row2.alloc _
  clear h1
  go_upto_region 2 with fail
  go_cut [] (fun wx => (∃ R', JB wx B R' sv (begun st)) ∧ Below B w wx)
  case first =>
    go_wp2_with (at_builtin; refine wpList_append2 rfl (.tmp 29) (.tmp 30) 27 rfl (B + 1) 3 i3 (.int .i64 0) 8 Tryd.underlying27 hi3 hz30 hz31 hz32 rfl (.slice a2 st.starts.length c2) st.starts.length (vi st.ends) rfl hown ⟨wc.heap.size, 0, none⟩ 1 1 (vi [-1]) rfl rfl (cells_new wc #[.int .i64 (-1)] 3) (vi_one _) hb1 hb2 hb3 ?_; intro v1 w1 r1 r2 r3; obtain ⟨a3, d1, rfl⟩ := owns_form r1; have x0 := ((HJ.out.kept1 (i := 2) (by omega) e2 r2).1 2).trans k2; have xf := (HJ.out.kept1 (i := 2) (by omega) e2 r2).2 2)
    go_meet
    obtain ⟨q1, q2⟩ := HJ.out.appended1 (st' := (begun st)) (i := 2) (by omega) e2 r1 r2 r3 (by show vi (st.ends ++ [-1]) = _; simp [vi]) (X_but 2 (fun _ => rfl) (fun _ => rfl) (fun h => absurd rfl h) (fun _ => rfl) (fun _ => rfl) (fun _ => rfl)) rfl
    exact ⟨q1, hB1.trans q2⟩
  case rest =>
  clear HJ k2 hown e2 row2 hb1 hb2 hb3 hB1
  obtain ⟨m, hm⟩ : ∃ m : Int, ((op.toNat : Int) % 8) = m := ⟨_, rfl⟩
  have t3 : (m == 3) = true := by have := HM.out; rw [beq_iff_eq]; omega
  have t0 : (m == 0) = false := by have := HM.out; rw [beq_eq_false_iff_ne]; omega
  have t1 : (m == 1) = false := by have := HM.out; rw [beq_eq_false_iff_ne]; omega
  obtain ⟨sl, hsl⟩ : ∃ s : UInt8, ((op.toNat : Int) / 8) = (s.toNat : Int) := ⟨op >>> 3, shr3 op⟩
  obtain ⟨⟨RA, hA⟩, hBA⟩ := hcut
  obtain ⟨a0, c0, e0⟩ := hA.form (i := 0) (by omega)
  have k0 := hA.cell 0 (by omega)
  have f0 := hA.fr 0
  have row0 := hA.row 0 (by omega)
  have hX0' : (X (begun st) 0).length = st.out.length := by show (vb st.out).length = _; simp [vb]
  have ho : st.out.length ≤ 1099511627776 := Nat.le_trans HZ.out.1.o HZ.out.2
  rw [hX0'] at e0 row0
  rw [e0] at k0 row0
  have hlt := hA.lt
  have HJA : Hid (JB wc B RA sv (begun st)) := hA
  obtain ⟨s, hs⟩ : ∃ s, s = took strs st := ⟨_, rfl⟩
  have HQ : Hid (s = took strs st) := hs
  have HS : Hid (s.size ≤ 1048576) := by show s.size ≤ _; rw [hs]; have := took_size HSS.out st; omega
  have hbb : ((sl.toNat : Int).tmod 2 == 1) = bb := by rw [HBB.out, ← shr3 op, hsl]
  have ct : Calls Tryd.prog 16 #[.pointer (some ⟨B, 0, none⟩)] wc.drew fun e w' => ∃ v, e = .returned v ∧ (v = .string s ∧ JB w' B RA sv (bump strs (begun st)) ∧ Below B wc w') := (take_walk B RA sv (begun st) strs wc.drew (HJA.out.drawn 1) ((HSB.out.later hBA).later ((Below.refl B wc).drew)) HSL.out HNX.out).mono (by
    rintro e w' ⟨rfl, h2, h3⟩
    refine ⟨_, rfl, by rw [hs]; rfl, h2, ?_⟩
    exact ((Below.refl B wc).drew).grown h3 (by show B ≤ wc.heap.size; omega) (fun k hk => by injection hk with hk; omega))
  have ce : ∀ w1, JB w1 B RA sv (bump strs (begun st)) → Calls Tryd.prog 15 #[.slice a0 st.out.length c0, .string s, .bool bb] w1 fun e w' => ∃ v, e = .returned v ∧ Wrote w1 (B + 1) (.slice a0 st.out.length c0) w' v (st.out ++ enc bb s.data.toList) := fun w1 j1 => by
    have r0 := j1.row 0 (by omega)
    rw [e0] at r0
    have r0' : w1.ownsRow (B + 1) 5 1 (.slice a0 st.out.length c0) st.out.length (vb st.out) := by
      have : (X (bump strs (begun st)) 0).length = st.out.length := hX0'
      rw [this] at r0; exact r0
    exact encode_walk _ (B + 1) st.out s bb w1 r0' (by have := j1.lt; omega) ho HS.out
  clear hA row0 hs
  go_upto_block 0 with fail
  (try simp only [hm])
  (try simp only [hsl])
  go_cut [] (fun wx => (∃ R', JB wx B R' sv ({ begun (bump strs st) with out := st.out ++ enc bb s.data.toList })) ∧ Below B w wx)
  case first =>
    go_upto_region 17 with fail
    go_region_law (first
      | (refine step_call rfl 16 enter16 #[.tmp 133] #[37] rfl #[.pointer (some ⟨B, 0, none⟩)] (by simp [Act.eval, Act.put]) ct ?_; rintro v2 w2 ⟨rfl, j1, b1⟩; have y0 := (j1.cell 0 (by omega)).trans (congrArg some e0))
      | (refine step_call rfl 15 enter15 #[.tmp 132, .tmp 134, .tmp 137] #[22, 9, 4] rfl #[.slice a0 st.out.length c0, .string s, .bool bb] (by simp [Act.eval]) (ce _ j1) ?_; intro v3 w3 hW; obtain ⟨z1, z2, a2, n2, d2, rfl⟩ := j1.wroteK e0 hW; have x0 := (z1 0).trans y0; have xf := z2 0))
    all_goals
      go_wp2_with fail
      go_meet
      obtain ⟨q1, q2⟩ := j1.wrote e0 hW
      exact ⟨q1, (hBA.trans b1).trans q2⟩
  case rest =>
  clear HJA k0 f0 e0 hBA ct ce hlt
  obtain ⟨⟨RB, hB⟩, hBB⟩ := hcut
  obtain ⟨a0, c0, e0⟩ := hB.form (i := 0) (by omega)
  have k0 := hB.cell 0 (by omega)
  rw [e0] at k0
  have HL : Hid ((X ({ begun (bump strs st) with out := st.out ++ enc bb s.data.toList }) 0).length = st.out.length + (enc bb s.data.toList).length) := by show (vb (st.out ++ enc bb s.data.toList)).length = _; simp [vb]
  obtain ⟨L, hL⟩ : ∃ L, L = (X ({ begun (bump strs st) with out := st.out ++ enc bb s.data.toList }) 0).length := ⟨_, rfl⟩
  have HLL : Hid (L = (X ({ begun (bump strs st) with out := st.out ++ enc bb s.data.toList }) 0).length) := hL
  rw [← hL] at k0
  have row2 := hB.row 2 (by omega)
  have hX2' : (X ({ begun (bump strs st) with out := st.out ++ enc bb s.data.toList }) 2).length = st.starts.length + 1 := by show (vi (st.ends ++ [-1])).length = _; simp [vi, HE.out]
  rw [hX2'] at row2
  obtain ⟨g2, c2, e2, _, _, _, hcells2, hfr2⟩ := row_form row2 (by omega)
  have k2 := hB.cell 2 (by omega)
  rw [e2] at k2
  have hend : wc.cell? ⟨g2, st.starts.length, none⟩ = some (.int .i64 (-1)) := hcells2 _ _ (by show (vi (st.ends ++ [-1]))[st.starts.length]? = _; rw [← HE.out]; simp [vi])
  have hfe := hfr2 st.starts.length
  have hix : ((st.starts.length : Int) < (st.starts.length : Int) + 1) := by omega
  have HJB : Hid (JB wc B RB sv ({ begun (bump strs st) with out := st.out ++ enc bb s.data.toList })) := hB
  clear hB row2 hcells2 hfr2 hL e0 hX2'
  go_upto_region 20 with fail
  go_region
  all_goals
    go_wp2_with fail
    obtain ⟨hJ, hBl⟩ := HJB.out.setAt (st' := (((bump strs st)).whole (enc bb s.data.toList))) (i := 2) (by omega) e2 st.starts.length (.int .i64 (L : Int)) (by rw [HLL.out, HL.out]; show vi (st.ends ++ [((st.out.length + (enc bb s.data.toList).length : Nat) : Int)]) = (vi (st.ends ++ [-1])).set _ _; rw [← HE.out]; simp [vi]) (X_but 2 (fun _ => rfl) (fun _ => rfl) (fun h => absurd rfl h) (fun _ => rfl) (fun _ => rfl) (fun _ => rfl)) rfl
    go_end0
    rw [← HQ.out]
    exact ⟨rfl, ⟨RB, hJ.later (fun _ _ => rfl) (Nat.le_refl _)⟩, (hBB.trans hBl).drew⟩
end Go.Proofs.Qxb6001559aDoor
