import Derived.Test.Qxb6001559aDoorOk
import Derived.Deep.CutBlock
/-! THE WALK of value: one case. -/
namespace Go.Proofs.Qxb6001559aDoor
open Go.RowKit Plain

set_option maxHeartbeats 2000000 in
set_option maxRecDepth 100000 in
theorem value_0 (B : Nat) (R : Nat → Value) (sv : Value) (st : St) (op : UInt8) (w : World) (N : Nat) (h : JB w B R sv st) (HZ : Hid (Sz N st ∧ N ≤ 1099511627776)) (HE : Hid (st.ends.length = st.starts.length)) (HM : Hid (op.toNat % 8 = 0)) :
    Calls Tryd.prog 10 #[.pointer (some ⟨B, 0, none⟩), .int .u8 (op.toNat : Int)] w fun e w' => e = .returned (.tuple #[]) ∧ (∃ R', JB w' B R' sv (st.push 123 125)) ∧ Below B w w' := by
  obtain ⟨i3, hi3, hz30, hz31, hz32⟩ := info_parts Tryd.info3
  obtain ⟨i5, hi5, hz50, hz51, hz52⟩ := info_parts Tryd.info5
  have hX1 : (X st 1).length = st.starts.length := by show (vn st.starts).length = _; simp [vn]
  have hX0 : (X st 0).length = st.out.length := by show (vb st.out).length = _; simp [vb]
  obtain ⟨a1, c1, e1⟩ := h.form (i := 1) (by omega)
  obtain ⟨a0, c0, e0⟩ := h.form (i := 0) (by omega)
  have k1 := h.cell 1 (by omega)
  have k0 := h.cell 0 (by omega)
  have row1 := h.row 1 (by omega)
  rw [hX1] at row1 e1
  rw [hX0] at e0
  rw [e1] at k1 row1
  rw [e0] at k0
  have HJ : Hid (JB w B R sv st) := h
  have hst : st.starts.length ≤ 1099511627776 := Nat.le_trans HZ.out.1.s HZ.out.2
  have hb1 : st.starts.length + 1 ≤ maxLen := by unfold maxLen; omega
  have hb2 : (st.starts.length + 1) * 8 ≤ 140737488355328 := by omega
  have hb3 : B + 1 ≤ (w.alloc (.cells #[.int .i64 (st.out.length : Int)] 3)).drew.heap.size := by have := h.lt; simp; omega
  have hown : (w.alloc (.cells #[.int .i64 (st.out.length : Int)] 3)).drew.ownsRow (B + 1) 3 1 (.slice a1 st.starts.length c1) st.starts.length (vn st.starts) := row1.alloc _
  have hcn : ∀ j u, (vn [st.out.length])[j]? = some u → (w.alloc (.cells #[.int .i64 (st.out.length : Int)] 3)).drew.cell? ((⟨w.heap.size, 0, none⟩ : Addr).add j) = some u := cells_new w #[.int .i64 (st.out.length : Int)] 3
  have k1' : (w.alloc (.cells #[.int .i64 (st.out.length : Int)] 3)).cell? ⟨B, 1, none⟩ = some (.slice a1 st.starts.length c1) := later_cell k1
  clear h
  go_enter Tryd.func10, Tryd.ntmps10
  go_upto_region 1 with fail
  go_cut [] (fun wx => (∃ R', JB wx B R' sv { st with starts := st.starts ++ [st.out.length] }) ∧ Below B w wx)
  case first =>
    go_region_law (refine step_append2 rfl (.tmp 15) (.tmp 21) 27 rfl (B + 1) 3 i3 (.int .i64 0) 8 Tryd.underlying27 hi3 hz30 hz31 hz32 rfl (.slice a1 st.starts.length c1) st.starts.length (vn st.starts) (by simp [Act.eval]) hown ⟨w.heap.size, 0, none⟩ 1 1 (vn [st.out.length]) (by simp [Act.eval]) rfl hcn (vn_one _) hb1 hb2 hb3 ?_; intro v1 w1 r1 r2 r3; obtain ⟨a2, d1, rfl⟩ := owns_form r1; have x0 := ((HJ.out.kept (i := 1) (by omega) e1 r2).1 1).trans k1; have xf := (HJ.out.kept (i := 1) (by omega) e1 r2).2 1)
    all_goals
      go_wp2_with fail
      go_meet
      exact HJ.out.appended (i := 1) (by omega) e1 r1 r2 r3 (by show vn (st.starts ++ [st.out.length]) = _; simp [vn]) (X_but 1 (fun _ => rfl) (fun h => absurd rfl h) (fun _ => rfl) (fun _ => rfl) (fun _ => rfl) (fun _ => rfl)) rfl
  case rest =>
  obtain ⟨⟨R1, h1⟩, hB1⟩ := hcut
  clear HJ hown hcn k0 k1 k1' e0 e1 row1 hb1 hb2 hb3
  have hX2 : (X { st with starts := st.starts ++ [st.out.length] } 2).length = st.starts.length := by show (vi st.ends).length = _; simp [vi, HE.out]
  obtain ⟨a2, c2, e2⟩ := h1.form (i := 2) (by omega)
  have k2 := h1.cell 2 (by omega)
  have row2 := h1.row 2 (by omega)
  rw [hX2] at row2 e2
  rw [e2] at k2 row2
  have HJ : Hid (JB wc B R1 sv { st with starts := st.starts ++ [st.out.length] }) := h1
  have hb1 : st.starts.length + 1 ≤ maxLen := by unfold maxLen; omega
  have hb2 : (st.starts.length + 1) * 8 ≤ 140737488355328 := by omega
  have hb3 : B + 1 ≤ (wc.alloc (.cells #[.int .i64 (-1)] 3)).heap.size := by have := h1.lt; simp; omega
  have hown : (wc.alloc (.cells #[.int .i64 (-1)] 3)).ownsRow (B + 1) 3 1 (.slice a2 st.starts.length c2) st.starts.length (vi st.ends) := row2.alloc _
  clear h1
  go_upto_region 2 with fail
  go_cut [] (fun wx => (∃ R', JB wx B R' sv (begun st)) ∧ Below B w wx)
  case first =>
    go_wp2_with (at_builtin; refine wpList_append2 rfl (.tmp 29) (.tmp 30) 27 rfl (B + 1) 3 i3 (.int .i64 0) 8 Tryd.underlying27 hi3 hz30 hz31 hz32 rfl (.slice a2 st.starts.length c2) st.starts.length (vi st.ends) rfl hown ⟨wc.heap.size, 0, none⟩ 1 1 (vi [-1]) rfl rfl (cells_new wc #[.int .i64 (-1)] 3) (vi_one _) hb1 hb2 hb3 ?_; intro v1 w1 r1 r2 r3; obtain ⟨a3, d1, rfl⟩ := owns_form r1; have x0 := ((HJ.out.kept1 (i := 2) (by omega) e2 r2).1 2).trans k2; have xf := (HJ.out.kept1 (i := 2) (by omega) e2 r2).2 2)
    go_meet
    obtain ⟨q1, q2⟩ := HJ.out.appended1 (st' := (begun st)) (i := 2) (by omega) e2 r1 r2 r3 (by show vi (st.ends ++ [-1]) = _; simp [vi]) (X_but 2 (fun _ => rfl) (fun _ => rfl) (fun h => absurd rfl h) (fun _ => rfl) (fun _ => rfl) (fun _ => rfl)) rfl
    exact ⟨q1, hB1.trans q2⟩
  case rest =>
  clear HJ k2 hown e2 row2 hb1 hb2 hb3 hB1
  obtain ⟨m, hm⟩ : ∃ m : Int, ((op.toNat : Int) % 8) = m := ⟨_, rfl⟩
  have t0 : (m == 0) = true := by have := HM.out; rw [beq_iff_eq]; omega
  obtain ⟨⟨RA, hA⟩, hBA⟩ := hcut
  obtain ⟨aA, cA, eA⟩ := hA.form (i := 0) (by omega)
  have kA := hA.cell 0 (by omega)
  have rowA := hA.row 0 (by omega)
  obtain ⟨nA, hnA⟩ : ∃ n, n = (X (begun st) 0).length := ⟨_, rfl⟩
  have hbdA : nA ≤ 4398046511104 := by rw [hnA]; have b1 := HZ.out.1.o; have b2 := HZ.out.2; simp [X, vb, begun] <;> omega
  rw [← hnA] at rowA eA
  rw [eA] at kA rowA
  have HJA : Hid (JB wc B RA sv (begun st)) := hA
  have p1A : nA + 1 ≤ maxLen := by unfold maxLen; omega
  have p2A : (nA + 1) * 1 ≤ 140737488355328 := by omega
  have p3A : B + 1 ≤ (wc.alloc (.cells #[.int .u8 123] 5)).heap.size := by have := hA.lt; simp; omega
  have hoA : (wc.alloc (.cells #[.int .u8 123] 5)).ownsRow (B + 1) 5 1 (.slice aA nA cA) nA (X (begun st) 0) := rowA.alloc _
  clear hA hnA rowA
  go_upto_region 7 with fail
  (try simp only [hm])
  go_cut [] (fun wx => (∃ R', JB wx B R' sv ({ begun st with out := st.out ++ [123] })) ∧ Below B w wx)
  case first =>
    go_wp2_with (at_builtin; refine wpList_append2 rfl (.tmp 54) (.tmp 55) 22 rfl (B + 1) 5 i5 (.int .u8 0) 1 Tryd.underlying22 hi5 hz50 hz51 hz52 rfl (.slice aA nA cA) nA (X (begun st) 0) rfl hoA ⟨wc.heap.size, 0, none⟩ 1 1 (vb [123]) rfl rfl (cells_new wc #[.int .u8 123] 5) (vb_one _) p1A p2A p3A ?_; intro v1 w1 r1 r2 r3; obtain ⟨a3, d1, rfl⟩ := owns_form r1; have x0 := ((HJA.out.kept1 (i := 0) (by omega) eA r2).1 0).trans kA; have xf := (HJA.out.kept1 (i := 0) (by omega) eA r2).2 0)
    go_meet
    obtain ⟨q1, q2⟩ := HJA.out.appended1 (st' := ({ begun st with out := st.out ++ [123] })) (i := 0) (by omega) eA r1 r2 r3 (by simp [X, begun, vb]) (X_but 0 (fun h => absurd rfl h) (fun _ => rfl) (fun _ => rfl) (fun _ => rfl) (fun _ => rfl) (fun _ => rfl)) rfl
    exact ⟨q1, hBA.trans q2⟩
  case rest =>
  clear HJA kA hoA eA p1A p2A p3A hBA
  obtain ⟨⟨RC, hC⟩, hBC⟩ := hcut
  obtain ⟨aC, cC, eC⟩ := hC.form (i := 3) (by omega)
  have kC := hC.cell 3 (by omega)
  have rowC := hC.row 3 (by omega)
  obtain ⟨nC, hnC⟩ : ∃ n, n = (X ({ begun st with out := st.out ++ [123] }) 3).length := ⟨_, rfl⟩
  have hbdC : nC ≤ 4398046511104 := by rw [hnC]; have b1 := HZ.out.1.k; have b2 := HZ.out.2; simp [X, vb, begun] <;> omega
  rw [← hnC] at rowC eC
  rw [eC] at kC rowC
  have HJC : Hid (JB wc B RC sv ({ begun st with out := st.out ++ [123] })) := hC
  have p1C : nC + 1 ≤ maxLen := by unfold maxLen; omega
  have p2C : (nC + 1) * 1 ≤ 140737488355328 := by omega
  have p3C : B + 1 ≤ (wc.alloc (.cells #[.int .u8 125] 5)).heap.size := by have := hC.lt; simp; omega
  have hoC : (wc.alloc (.cells #[.int .u8 125] 5)).ownsRow (B + 1) 5 1 (.slice aC nC cC) nC (X ({ begun st with out := st.out ++ [123] }) 3) := rowC.alloc _
  clear hC hnC rowC
  go_upto_region 8 with fail
  (try simp only [hm])
  go_cut [] (fun wx => (∃ R', JB wx B R' sv ({ begun st with out := st.out ++ [123], kinds := st.kinds ++ [125] })) ∧ Below B w wx)
  case first =>
    go_wp2_with (at_builtin; refine wpList_append2 rfl (.tmp 63) (.tmp 64) 22 rfl (B + 1) 5 i5 (.int .u8 0) 1 Tryd.underlying22 hi5 hz50 hz51 hz52 rfl (.slice aC nC cC) nC (X ({ begun st with out := st.out ++ [123] }) 3) rfl hoC ⟨wc.heap.size, 0, none⟩ 1 1 (vb [125]) rfl rfl (cells_new wc #[.int .u8 125] 5) (vb_one _) p1C p2C p3C ?_; intro v1 w1 r1 r2 r3; obtain ⟨a3, d1, rfl⟩ := owns_form r1; have x0 := ((HJC.out.kept1 (i := 3) (by omega) eC r2).1 3).trans kC; have xf := (HJC.out.kept1 (i := 3) (by omega) eC r2).2 3)
    go_meet
    obtain ⟨q1, q2⟩ := HJC.out.appended1 (st' := ({ begun st with out := st.out ++ [123], kinds := st.kinds ++ [125] })) (i := 3) (by omega) eC r1 r2 r3 (by simp [X, begun, vb]) (X_but 3 (fun _ => rfl) (fun _ => rfl) (fun _ => rfl) (fun h => absurd rfl h) (fun _ => rfl) (fun _ => rfl)) rfl
    exact ⟨q1, hBC.trans q2⟩
  case rest =>
  clear HJC kC hoC eC p1C p2C p3C hBC
  obtain ⟨⟨RD, hD⟩, hBD⟩ := hcut
  obtain ⟨aD, cD, eD⟩ := hD.form (i := 4) (by omega)
  have kD := hD.cell 4 (by omega)
  have rowD := hD.row 4 (by omega)
  obtain ⟨nD, hnD⟩ : ∃ n, n = (X ({ begun st with out := st.out ++ [123], kinds := st.kinds ++ [125] }) 4).length := ⟨_, rfl⟩
  have hbdD : nD ≤ 4398046511104 := by rw [hnD]; have b1 := HZ.out.1.c; have b2 := HZ.out.2; simp [X, vn, begun] <;> omega
  rw [← hnD] at rowD eD
  rw [eD] at kD rowD
  have HJD : Hid (JB wc B RD sv ({ begun st with out := st.out ++ [123], kinds := st.kinds ++ [125] })) := hD
  have p1D : nD + 1 ≤ maxLen := by unfold maxLen; omega
  have p2D : (nD + 1) * 8 ≤ 140737488355328 := by omega
  have p3D : B + 1 ≤ (wc.alloc (.cells #[.int .i64 0] 3)).heap.size := by have := hD.lt; simp; omega
  have hoD : (wc.alloc (.cells #[.int .i64 0] 3)).ownsRow (B + 1) 3 1 (.slice aD nD cD) nD (X ({ begun st with out := st.out ++ [123], kinds := st.kinds ++ [125] }) 4) := rowD.alloc _
  clear hD hnD rowD
  go_upto_region 9 with fail
  (try simp only [hm])
  go_cut [] (fun wx => (∃ R', JB wx B R' sv ({ begun st with out := st.out ++ [123], kinds := st.kinds ++ [125], counts := st.counts ++ [0] })) ∧ Below B w wx)
  case first =>
    go_wp2_with (at_builtin; refine wpList_append2 rfl (.tmp 72) (.tmp 73) 27 rfl (B + 1) 3 i3 (.int .i64 0) 8 Tryd.underlying27 hi3 hz30 hz31 hz32 rfl (.slice aD nD cD) nD (X ({ begun st with out := st.out ++ [123], kinds := st.kinds ++ [125] }) 4) rfl hoD ⟨wc.heap.size, 0, none⟩ 1 1 (vn [0]) rfl rfl (cells_new wc #[.int .i64 0] 3) (vn_one _) p1D p2D p3D ?_; intro v1 w1 r1 r2 r3; obtain ⟨a3, d1, rfl⟩ := owns_form r1; have x0 := ((HJD.out.kept1 (i := 4) (by omega) eD r2).1 4).trans kD; have xf := (HJD.out.kept1 (i := 4) (by omega) eD r2).2 4)
    go_meet
    obtain ⟨q1, q2⟩ := HJD.out.appended1 (st' := ({ begun st with out := st.out ++ [123], kinds := st.kinds ++ [125], counts := st.counts ++ [0] })) (i := 4) (by omega) eD r1 r2 r3 (by simp [X, begun, vn]) (X_but 4 (fun _ => rfl) (fun _ => rfl) (fun _ => rfl) (fun _ => rfl) (fun h => absurd rfl h) (fun _ => rfl)) rfl
    exact ⟨q1, hBD.trans q2⟩
  case rest =>
  clear HJD kD hoD eD p1D p2D p3D hBD
  obtain ⟨⟨RE, hE⟩, hBE⟩ := hcut
  obtain ⟨aE, cE, eE⟩ := hE.form (i := 5) (by omega)
  have kE := hE.cell 5 (by omega)
  have rowE := hE.row 5 (by omega)
  obtain ⟨nE, hnE⟩ : ∃ n, n = (X ({ begun st with out := st.out ++ [123], kinds := st.kinds ++ [125], counts := st.counts ++ [0] }) 5).length := ⟨_, rfl⟩
  have hbdE : nE ≤ 4398046511104 := by rw [hnE]; have b1 := HZ.out.1.l; have b2 := HZ.out.2; simp [X, vn, begun] <;> omega
  rw [← hnE] at rowE eE
  rw [eE] at kE rowE
  have HJE : Hid (JB wc B RE sv ({ begun st with out := st.out ++ [123], kinds := st.kinds ++ [125], counts := st.counts ++ [0] })) := hE
  have p1E : nE + 1 ≤ maxLen := by unfold maxLen; omega
  have p2E : (nE + 1) * 8 ≤ 140737488355328 := by omega
  have p3E : B + 1 ≤ (wc.alloc (.cells #[.int .i64 (st.starts.length : Int)] 3)).heap.size := by have := hE.lt; simp; omega
  have hoE : (wc.alloc (.cells #[.int .i64 (st.starts.length : Int)] 3)).ownsRow (B + 1) 3 1 (.slice aE nE cE) nE (X ({ begun st with out := st.out ++ [123], kinds := st.kinds ++ [125], counts := st.counts ++ [0] }) 5) := rowE.alloc _
  clear hE hnE rowE
  go_upto_region 10 with fail
  (try simp only [hm])
  go_cut [] (fun wx => (∃ R', JB wx B R' sv (st.push 123 125)) ∧ Below B w wx)
  case first =>
    go_wp2_with (at_builtin; refine wpList_append2 rfl (.tmp 81) (.tmp 83) 27 rfl (B + 1) 3 i3 (.int .i64 0) 8 Tryd.underlying27 hi3 hz30 hz31 hz32 rfl (.slice aE nE cE) nE (X ({ begun st with out := st.out ++ [123], kinds := st.kinds ++ [125], counts := st.counts ++ [0] }) 5) rfl hoE ⟨wc.heap.size, 0, none⟩ 1 1 (vn [st.starts.length]) rfl rfl (cells_new wc #[.int .i64 (st.starts.length : Int)] 3) (vn_one _) p1E p2E p3E ?_; intro v1 w1 r1 r2 r3; obtain ⟨a3, d1, rfl⟩ := owns_form r1; have x0 := ((HJE.out.kept1 (i := 5) (by omega) eE r2).1 5).trans kE; have xf := (HJE.out.kept1 (i := 5) (by omega) eE r2).2 5)
    go_meet
    obtain ⟨q1, q2⟩ := HJE.out.appended1 (st' := (st.push 123 125)) (i := 5) (by omega) eE r1 r2 r3 (by simp [X, begun, St.push, vn]) (X_but 5 (fun _ => rfl) (fun _ => rfl) (fun _ => rfl) (fun _ => rfl) (fun _ => rfl) (fun h => absurd rfl h)) rfl
    exact ⟨q1, hBE.trans q2⟩
  case rest =>
  clear HJE kE hoE eE p1E p2E p3E hBE
  obtain ⟨hJ, hBl⟩ := hcut
  go_wp2_with fail
  (try simp only [Exit.inBlock, Exit.then])
  refine bodyPost_ret (results_none rfl _ _ _) rfl ?_
  exact ⟨rfl, hJ, hBl⟩
end Go.Proofs.Qxb6001559aDoor
