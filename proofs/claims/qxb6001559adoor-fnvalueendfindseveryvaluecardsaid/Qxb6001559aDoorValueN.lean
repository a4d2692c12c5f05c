import Derived.Test.Qxb6001559aDoorOk
import Derived.Deep.CutBlock
/-! THE WALK of value: one case. -/
namespace Go.Proofs.Qxb6001559aDoor
open Go.RowKit Plain

set_option maxHeartbeats 2000000 in
set_option maxRecDepth 100000 in
theorem value_n (B : Nat) (R : Nat → Value) (sv : Value) (st : St) (op : UInt8) (w : World) (N : Nat) (h : JB w B R sv st) (HZ : Hid (Sz N st ∧ N ≤ 1099511627776)) (HE : Hid (st.ends.length = st.starts.length)) (HM : Hid (op.toNat % 8 ≠ 0 ∧ op.toNat % 8 ≠ 1 ∧ op.toNat % 8 ≠ 3 ∧ op.toNat % 8 ≠ 5)) (sx : ByteArray) (HX : Hid (sx = num (op >>> 3))) (hs0 : 0 < sx.size) (HS : Hid (sx.size ≤ 9)) :
    Calls Tryd.prog 10 #[.pointer (some ⟨B, 0, none⟩), .int .u8 (op.toNat : Int)] w fun e w' => e = .returned (.tuple #[]) ∧ (∃ R', JB w' B R' sv (st.whole sx.data.toList)) ∧ Below B w w' := by
  obtain ⟨i3, hi3, hz30, hz31, hz32⟩ := info_parts Tryd.info3
  obtain ⟨i5, hi5, hz50, hz51, hz52⟩ := info_parts Tryd.info5
  have hX1 : (X st 1).length = st.starts.length := by show (vn st.starts).length = _; simp [vn]
  have hX0 : (X st 0).length = st.out.length := by show (vb st.out).length = _; simp [vb]
  obtain ⟨a1, c1, e1⟩ := h.form (i := 1) (by omega)
  obtain ⟨a0, c0, e0⟩ := h.form (i := 0) (by omega)
  have k1 := h.cell 1 (by omega)
  have k0 := h.cell 0 (by omega)
  have row1 := h.row 1 (by omega)
  rw [hX1] at row1 e1
  rw [hX0] at e0
  rw [e1] at k1 row1
  rw [e0] at k0
  have HJ : Hid (JB w B R sv st) := h
  have hst : st.starts.length ≤ 1099511627776 := Nat.le_trans HZ.out.1.s HZ.out.2
  have hb1 : st.starts.length + 1 ≤ maxLen := by unfold maxLen; omega
  have hb2 : (st.starts.length + 1) * 8 ≤ 140737488355328 := by omega
  have hb3 : B + 1 ≤ (w.alloc (.cells #[.int .i64 (st.out.length : Int)] 3)).drew.heap.size := by have := h.lt; simp; omega
  have hown : (w.alloc (.cells #[.int .i64 (st.out.length : Int)] 3)).drew.ownsRow (B + 1) 3 1 (.slice a1 st.starts.length c1) st.starts.length (vn st.starts) := row1.alloc _
  have hcn : ∀ j u, (vn [st.out.length])[j]? = some u → (w.alloc (.cells #[.int .i64 (st.out.length : Int)] 3)).drew.cell? ((⟨w.heap.size, 0, none⟩ : Addr).add j) = some u := cells_new w #[.int .i64 (st.out.length : Int)] 3
  have k1' : (w.alloc (.cells #[.int .i64 (st.out.length : Int)] 3)).cell? ⟨B, 1, none⟩ = some (.slice a1 st.starts.length c1) := later_cell k1
  clear h
  go_enter Tryd.func10, Tryd.ntmps10
  go_upto_region 1 with fail
  go_cut [] (fun wx => (∃ R', JB wx B R' sv { st with starts := st.starts ++ [st.out.length] }) ∧ Below B w wx)
  case first =>
    go_region_law (refine step_append2 rfl (.tmp 15) (.tmp 21) 27 rfl (B + 1) 3 i3 (.int .i64 0) 8 Tryd.underlying27 hi3 hz30 hz31 hz32 rfl (.slice a1 st.starts.length c1) st.starts.length (vn st.starts) (by simp [Act.eval]) hown ⟨w.heap.size, 0, none⟩ 1 1 (vn [st.out.length]) (by simp [Act.eval]) rfl hcn (vn_one _) hb1 hb2 hb3 ?_; intro v1 w1 r1 r2 r3; obtain ⟨a2, d1, rfl⟩ := owns_form r1; have x0 := ((HJ.out.kept (i := 1) (by omega) e1 r2).1 1).trans k1; have xf := (HJ.out.kept (i := 1) (by omega) e1 r2).2 1)
    all_goals
      go_wp2_with fail
      go_meet
      exact HJ.out.appended (i := 1) (by omega) e1 r1 r2 r3 (by show vn (st.starts ++ [st.out.length]) = _; simp [vn]) (X_but 1 (fun _ => rfl) (fun h => absurd rfl h) (fun _ => rfl) (fun _ => rfl) (fun _ => rfl) (fun _ => rfl)) rfl
  case rest =>
  obtain ⟨⟨R1, h1⟩, hB1⟩ := hcut
  clear HJ hown hcn k0 k1 k1' e0 e1 row1 hb1 hb2 hb3
  have hX2 : (X { st with starts := st.starts ++ [st.out.length] } 2).length = st.starts.length := by show (vi st.ends).length = _; simp [vi, HE.out]
  obtain ⟨a2, c2, e2⟩ := h1.form (i := 2) (by omega)
  have k2 := h1.cell 2 (by omega)
  have row2 := h1.row 2 (by omega)
  rw [hX2] at row2 e2
  rw [e2] at k2 row2
  have HJ : Hid (JB wc B R1 sv { st with starts := st.starts ++ [st.out.length] }) := h1
  have hb1 : st.starts.length + 1 ≤ maxLen := by unfold maxLen; omega
  have hb2 : (st.starts.length + 1) * 8 ≤ 140737488355328 := by omega
  have hb3 : B + 1 ≤ (wc.alloc (.cells #[.int .i64 (-1)] 3)).heap.size := by have := h1.lt; simp; omega
  have hown : (wc.alloc (.cells #[.int .i64 (-1)] 3)).ownsRow (B + 1) 3 1 (.slice a2 st.starts.length c2) st.starts.length (vi st.ends) := row2.alloc _
  clear h1
  go_upto_region 2 with fail
  go_cut [] (fun wx => (∃ R', JB wx B R' sv (begun st)) ∧ Below B w wx)
  case first =>
    go_wp2_with (at_builtin; refine wpList_append2 rfl (.tmp 29) (.tmp 30) 27 rfl (B + 1) 3 i3 (.int .i64 0) 8 Tryd.underlying27 hi3 hz30 hz31 hz32 rfl (.slice a2 st.starts.length c2) st.starts.length (vi st.ends) rfl hown ⟨wc.heap.size, 0, none⟩ 1 1 (vi [-1]) rfl rfl (cells_new wc #[.int .i64 (-1)] 3) (vi_one _) hb1 hb2 hb3 ?_; intro v1 w1 r1 r2 r3; obtain ⟨a3, d1, rfl⟩ := owns_form r1; have x0 := ((HJ.out.kept1 (i := 2) (by omega) e2 r2).1 2).trans k2; have xf := (HJ.out.kept1 (i := 2) (by omega) e2 r2).2 2)
    go_meet
    obtain ⟨q1, q2⟩ := HJ.out.appended1 (st' := (begun st)) (i := 2) (by omega) e2 r1 r2 r3 (by show vi (st.ends ++ [-1]) = _; simp [vi]) (X_but 2 (fun _ => rfl) (fun _ => rfl) (fun h => absurd rfl h) (fun _ => rfl) (fun _ => rfl) (fun _ => rfl)) rfl
    exact ⟨q1, hB1.trans q2⟩
  case rest =>
  clear HJ k2 hown e2 row2 hb1 hb2 hb3 hB1
  obtain ⟨m, hm⟩ : ∃ m : Int, ((op.toNat : Int) % 8) = m := ⟨_, rfl⟩
  have t0 : (m == 0) = false := by have := HM.out; rw [beq_eq_false_iff_ne]; omega
  have t1 : (m == 1) = false := by have := HM.out; rw [beq_eq_false_iff_ne]; omega
  have t3 : (m == 3) = false := by have := HM.out; rw [beq_eq_false_iff_ne]; omega
  have t5 : (m == 5) = false := by have := HM.out; rw [beq_eq_false_iff_ne]; omega
  obtain ⟨sl, hsl⟩ : ∃ s : UInt8, ((op.toNat : Int) / 8) = (s.toNat : Int) := ⟨op >>> 3, shr3 op⟩
  obtain ⟨⟨RA, hA⟩, hBA⟩ := hcut
  obtain ⟨a0, c0, e0⟩ := hA.form (i := 0) (by omega)
  have k0 := hA.cell 0 (by omega)
  have f0 := hA.fr 0
  have row0 := hA.row 0 (by omega)
  have hX0' : (X (begun st) 0).length = st.out.length := by show (vb st.out).length = _; simp [vb]
  have ho : st.out.length ≤ 1099511627776 := Nat.le_trans HZ.out.1.o HZ.out.2
  rw [hX0'] at e0 row0
  rw [e0] at k0 row0
  have hlt := hA.lt
  have HJA : Hid (JB wc B RA sv (begun st)) := hA
  have ct : Calls Tryd.prog 18 #[.int .u8 (sl.toNat : Int)] wc.drew fun e w' => ∃ v, e = .returned v ∧ (v = .string sx ∧ w' = wc.drew) := (num_walk sl wc.drew).mono (by
    rintro e w' ⟨rfl, rfl⟩
    exact ⟨_, rfl, by rw [HX.out, u8_eq (hsl.symm.trans (shr3 op))], rfl⟩)
  have p1 : st.out.length + sx.size ≤ maxLen := by have := HS.out; unfold maxLen; omega
  have p2 : st.out.length + sx.size ≤ 140737488355328 := by have := HS.out; omega
  have p3 : B + 1 ≤ wc.drew.heap.size := by show _ ≤ wc.heap.size; omega
  have hown : wc.drew.ownsRow (B + 1) 5 1 (.slice a0 st.out.length c0) st.out.length (vb st.out) := row0
  clear hA row0 hX0'
  go_upto_block 0 with fail
  (try simp only [hm])
  (try simp only [hsl])
  go_cut [] (fun wx => (∃ R', JB wx B R' sv ({ begun st with out := st.out ++ sx.data.toList })) ∧ Below B w wx)
  case first =>
    go_upto_region 5 with fail
    go_region_law (first
      | (refine step_call rfl 18 enter18 #[.tmp 43] #[5] rfl #[.int .u8 (sl.toNat : Int)] (by simp [Act.eval, Act.put]) ct ?_; rintro v2 w2 ⟨rfl, rfl⟩)
      | (refine step_append2s rfl (.tmp 42) (.tmp 44) 22 9 rfl (B + 1) 5 i5 Tryd.underlying22 Tryd.underlying9 hi5 hz50 hz51 hz52 (.slice a0 st.out.length c0) st.out.length (vb st.out) (by simp [Act.eval]) hown sx (by simp [Act.eval]) hs0 p1 p2 p3 ?_; intro v1 w1 r1 r2 r3; have hW := wrote_str r1 r2 r3; obtain ⟨z1, z2, a2, n2, d2, rfl⟩ := (HJA.out.drawn 1).wroteK e0 hW; have x0 := (z1 0).trans k0; have xf := z2 0))
    all_goals
      go_wp2_with fail
      go_meet
      obtain ⟨q1, q2⟩ := (HJA.out.drawn 1).wrote e0 hW
      exact ⟨q1, (hBA.drew).trans q2⟩
  case rest =>
  clear HJA k0 f0 e0 hown hBA ct p1 p2 p3 hlt
  obtain ⟨⟨RB, hB⟩, hBB⟩ := hcut
  obtain ⟨a0, c0, e0⟩ := hB.form (i := 0) (by omega)
  have k0 := hB.cell 0 (by omega)
  rw [e0] at k0
  have HL : Hid ((X ({ begun st with out := st.out ++ sx.data.toList }) 0).length = st.out.length + (sx.data.toList).length) := by show (vb (st.out ++ sx.data.toList)).length = _; simp [vb]
  obtain ⟨L, hL⟩ : ∃ L, L = (X ({ begun st with out := st.out ++ sx.data.toList }) 0).length := ⟨_, rfl⟩
  have HLL : Hid (L = (X ({ begun st with out := st.out ++ sx.data.toList }) 0).length) := hL
  rw [← hL] at k0
  have row2 := hB.row 2 (by omega)
  have hX2' : (X ({ begun st with out := st.out ++ sx.data.toList }) 2).length = st.starts.length + 1 := by show (vi (st.ends ++ [-1])).length = _; simp [vi, HE.out]
  rw [hX2'] at row2
  obtain ⟨g2, c2, e2, _, _, _, hcells2, hfr2⟩ := row_form row2 (by omega)
  have k2 := hB.cell 2 (by omega)
  rw [e2] at k2
  have hend : wc.cell? ⟨g2, st.starts.length, none⟩ = some (.int .i64 (-1)) := hcells2 _ _ (by show (vi (st.ends ++ [-1]))[st.starts.length]? = _; rw [← HE.out]; simp [vi])
  have hfe := hfr2 st.starts.length
  have hix : ((st.starts.length : Int) < (st.starts.length : Int) + 1) := by omega
  have HJB : Hid (JB wc B RB sv ({ begun st with out := st.out ++ sx.data.toList })) := hB
  clear hB row2 hcells2 hfr2 hL e0 hX2'
  go_upto_region 20 with fail
  go_region
  all_goals
    go_wp2_with fail
    obtain ⟨hJ, hBl⟩ := HJB.out.setAt (st' := ((st).whole (sx.data.toList))) (i := 2) (by omega) e2 st.starts.length (.int .i64 (L : Int)) (by rw [HLL.out, HL.out]; show vi (st.ends ++ [((st.out.length + (sx.data.toList).length : Nat) : Int)]) = (vi (st.ends ++ [-1])).set _ _; rw [← HE.out]; simp [vi]) (X_but 2 (fun _ => rfl) (fun _ => rfl) (fun h => absurd rfl h) (fun _ => rfl) (fun _ => rfl) (fun _ => rfl)) rfl
    go_end0
    exact ⟨rfl, ⟨RB, hJ.later (fun _ _ => rfl) (Nat.le_refl _)⟩, (hBB.trans hBl).drew⟩
end Go.Proofs.Qxb6001559aDoor
