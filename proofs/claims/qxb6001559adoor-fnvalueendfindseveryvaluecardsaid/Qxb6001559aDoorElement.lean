import Derived.Test.Qxb6001559aDoorValue
/-! THE WALK of element. -/
namespace Go.Proofs.Qxb6001559aDoor
open Go.RowKit Plain

theorem shr4' (c : UInt8) : ((c.toNat : Int) / (16 : Int)) = ((c >>> 4).toNat : Int) := shr4 c
set_option maxHeartbeats 4000000 in
set_option maxRecDepth 100000 in
theorem element_walk (B : Nat) (R : Nat → Value) (sv : Value) (st : St) (op : UInt8) (w : World) (N : Nat) (strs : List ByteArray) (h : JB w B R sv st) (ks : Plain.Bs) (kc : UInt8) (cs : List Nat) (c : Nat) (HK : Hid (st.kinds = ks ++ [kc])) (HC : Hid (st.counts = cs ++ [c]))
    (HO : Hid (Ok strs N (0 < c) st)) (HN : Hid (N ≤ 1099000000000)) (HSB : Hid (SB w B sv strs)) (HSL : Hid (strs.length ≤ 1048576)) (HSS : Hid (∀ s ∈ strs, s.size ≤ 4096)) :
    Calls Tryd.prog 13 #[.pointer (some ⟨B, 0, none⟩), .int .u8 (op.toNat : Int)] w fun e w' => e = .returned (.tuple #[]) ∧ (∃ st' R', JB w' B R' sv st' ∧ Ok strs (N + 60000) (∃ cs' c', st'.counts = cs' ++ [c'] ∧ 0 < c') st') ∧ Below B w w' := by
  obtain ⟨i3, hi3, hz30, hz31, hz32⟩ := info_parts Tryd.info3
  obtain ⟨i5, hi5, hz50, hz51, hz52⟩ := info_parts Tryd.info5
  have HCK : Hid (cs.length = ks.length) := by show cs.length = ks.length; have := HO.out.inv.hk; rw [HK.out, HC.out] at this; simpa using this
  have row3 := h.row 3 (by omega)
  have k3 := h.cell 3 (by omega)
  have hX3 : (X st 3).length = ks.length + 1 := by show (vb st.kinds).length = _; rw [HK.out, vb_len]; simp
  rw [hX3] at row3
  obtain ⟨g3, c3, e3, _, _, _, _, _⟩ := row_form row3 (by omega)
  rw [e3] at k3
  have row4 := h.row 4 (by omega)
  have k4 := h.cell 4 (by omega)
  have hX4 : (X st 4).length = ks.length + 1 := by show (vn st.counts).length = _; rw [HC.out]; simp [vn, HCK.out]
  rw [hX4] at row4
  obtain ⟨g4, c4, e4, _, _, _, hcells4, _⟩ := row_form row4 (by omega)
  rw [e4] at k4
  have hcc : w.cell? ⟨g4, ks.length, none⟩ = some (.int .i64 (c : Int)) := hcells4 _ _ (by show (vn st.counts)[ks.length]? = _; rw [HC.out, ← HCK.out]; simp [vn])
  have hidx : ((ks.length : Int) < (ks.length : Int) + 1) := by omega
  have HCB : Hid (c ≤ 1099511627776) := by show c ≤ _; have := HO.out.sz.b c (by rw [HC.out]; simp); have := HN.out; omega
  have HKB : Hid (ks.length ≤ 1099511627776) := by show ks.length ≤ _; have := HO.out.sz.k; rw [HK.out] at this; simp at this; have := HN.out; omega
  have hkb : ks.length ≤ 1099511627776 := HKB.out
  have HJ : Hid (JB w B R sv st) := h
  clear row3 row4 hX3 hX4 hcells4
  go_enter Tryd.func13, Tryd.ntmps13
  obtain ⟨b0, hb0⟩ : ∃ b, decide (0 < c) = b := ⟨_, rfl⟩
  have HB0 : Hid (decide (0 < c) = b0) := hb0
  go_upto_if 18 with fail
  (try simp only [hb0])
  clear hb0
  go_cut [] (fun wx => ∃ st1 R1, JB wx B R1 sv st1 ∧ (Ok strs (N + 2) False st1 ∧ st1.kinds = st.kinds ∧ st1.counts = st.counts) ∧ Below B w wx)
  case first =>
    cases b0
    case true =>
      obtain ⟨aA, cA, eA⟩ := h.form (i := 0) (by omega)
      have kA := h.cell 0 (by omega)
      have rowA := h.row 0 (by omega)
      obtain ⟨nA, hnA⟩ : ∃ n, n = (X st 0).length := ⟨_, rfl⟩
      have hbdA : nA ≤ 4398046511104 := by rw [hnA]; have b1 := HO.out.sz.o; have b2 := HN.out; simp [X, vb] <;> omega
      rw [← hnA] at rowA eA
      rw [eA] at kA rowA
      have p1A : nA + 1 ≤ maxLen := by unfold maxLen; omega
      have p2A : (nA + 1) * 1 ≤ 140737488355328 := by omega
      have p3A : B + 1 ≤ (w.alloc (.cells #[.int .u8 44] 5)).heap.size := by have := h.lt; simp; omega
      have hoA : (w.alloc (.cells #[.int .u8 44] 5)).ownsRow (B + 1) 5 1 (.slice aA nA cA) nA (X st 0) := rowA.alloc _
      clear h rowA hnA
      go_upto_region 2 with fail
      go_cut [] (fun wx => (∃ R', JB wx B R' sv (st.write [44])) ∧ Below B w wx)
      case first =>
        go_wp2_with (at_builtin; refine wpList_append2 rfl (.tmp 23) (.tmp 24) 22 rfl (B + 1) 5 i5 (.int .u8 0) 1 Tryd.underlying22 hi5 hz50 hz51 hz52 rfl (.slice aA nA cA) nA (X st 0) rfl hoA ⟨w.heap.size, 0, none⟩ 1 1 [.int .u8 44] rfl rfl (cells_new w #[.int .u8 44] 5) (by intro u hu; rw [List.mem_singleton.1 hu]; rfl) p1A p2A p3A ?_; intro v1 w1 r1 r2 r3; obtain ⟨a3, d1, rfl⟩ := owns_form r1; have x0 := ((HJ.out.kept1 (i := 0) (by omega) eA r2).1 0).trans kA; have xf := (HJ.out.kept1 (i := 0) (by omega) eA r2).2 0)
        go_meet
        obtain ⟨q1, q2⟩ := HJ.out.appended1 (st' := (st.write [44])) (i := 0) (by omega) eA r1 r2 r3 (by simp [X, vb, St.write]) (X_but 0 (fun h => absurd rfl h) (fun _ => rfl) (fun _ => rfl) (fun _ => rfl) (fun _ => rfl) (fun _ => rfl)) rfl
        exact ⟨q1, (Below.refl B w).trans q2⟩
      case rest =>
      obtain ⟨⟨RW, hW⟩, hBW⟩ := hcut
      clear HJ kA hoA eA p1A p2A p3A
      have HOW : Hid (Ok strs (N + 1) False (st.write [44])) := HO.out.dl (.inl rfl) (by simp [plain])
      obtain ⟨x6, h6⟩ : ∃ x : Int, bits .and .u8 (op.toNat : Int) 64 = x := ⟨_, rfl⟩
      by_cases hx : x6 = 0
      · have d6 : (x6 != 0) = false := by rw [hx]; rfl
        clear hx
        go_wp2_with fail
        go_meet
        exact ⟨_, RW, hW, ⟨HOW.out.mono (by omega) id, rfl, rfl⟩, hBW⟩
      · have d6 : (x6 != 0) = true := by simpa using hx
        clear hx
        obtain ⟨sl, hsl⟩ : ∃ s : UInt8, ((op.toNat : Int) / 8) = (s.toNat : Int) := ⟨op >>> 3, shr3 op⟩
        obtain ⟨yy, hyy⟩ : ∃ y, y = ws sl := ⟨_, rfl⟩
        have HY : Hid (dl yy ∧ plain yy) := by show dl yy ∧ plain yy; rw [hyy]; exact ws_dl sl
        have ct : Calls Tryd.prog 12 #[.int .u8 (sl.toNat : Int)] wc.drew fun e w' => ∃ v, e = .returned v ∧ (v = .int .u8 (yy.toNat : Int) ∧ w' = wc.drew) := (ws_walk sl wc.drew).mono (by
          rintro e w' ⟨rfl, rfl⟩
          exact ⟨_, rfl, by rw [hyy], rfl⟩)
        clear hyy
        obtain ⟨aW, cW, eW⟩ := hW.form (i := 0) (by omega)
        have kW := hW.cell 0 (by omega)
        have rowW := hW.row 0 (by omega)
        obtain ⟨nW, hnW⟩ : ∃ n, n = (X (st.write [44]) 0).length := ⟨_, rfl⟩
        have hbdW : nW ≤ 4398046511104 := by rw [hnW]; have b1 := HOW.out.sz.o; have b2 := HN.out; simp [X, vb] <;> omega
        rw [← hnW] at rowW eW
        rw [eW] at kW rowW
        have p1W : nW + 1 ≤ maxLen := by unfold maxLen; omega
        have p2W : (nW + 1) * 1 ≤ 140737488355328 := by omega
        have p3W : B + 1 ≤ (wc.alloc (.cells #[.int .u8 (yy.toNat : Int)] 5)).drew.heap.size := by have := hW.lt; simp; omega
        have hoW : (wc.alloc (.cells #[.int .u8 (yy.toNat : Int)] 5)).drew.ownsRow (B + 1) 5 1 (.slice aW nW cW) nW (X (st.write [44]) 0) := rowW.alloc _
        have qW : ∀ j u, [.int .u8 (yy.toNat : Int)][j]? = some u → (wc.alloc (.cells #[.int .u8 (yy.toNat : Int)] 5)).drew.cell? ((⟨wc.heap.size, 0, none⟩ : Addr).add j) = some u := cells_new wc #[.int .u8 (yy.toNat : Int)] 5
        have kW' : (wc.alloc (.cells #[.int .u8 (yy.toNat : Int)] 5)).cell? ⟨B, 0, none⟩ = some (.slice aW nW cW) := later_cell kW
        have HJW : Hid (JB wc B _ sv (st.write [44])) := hW
        clear hW rowW hnW
        go_wp2_with fail
        go_region_law (first
          | (refine step_call rfl 12 enter12 #[.tmp 37] #[5] rfl #[.int .u8 (sl.toNat : Int)] (by simp [Act.eval, Act.put]) ct ?_; rintro v2 w2 ⟨rfl, rfl⟩)
          | (refine step_append2 rfl (.tmp 35) (.tmp 39) 22 rfl (B + 1) 5 i5 (.int .u8 0) 1 Tryd.underlying22 hi5 hz50 hz51 hz52 rfl (.slice aW nW cW) nW (X (st.write [44]) 0) (by simp [Act.eval]) hoW ⟨wc.heap.size, 0, none⟩ 1 1 [.int .u8 (yy.toNat : Int)] (by simp [Act.eval]) rfl qW (by intro u hu; rw [List.mem_singleton.1 hu]; rfl) p1W p2W p3W ?_; intro v1 w1 r1 r2 r3; obtain ⟨a3, d1, rfl⟩ := owns_form r1; have x0 := ((HJW.out.kept (i := 0) (by omega) eW r2).1 0).trans kW; have xf := (HJW.out.kept (i := 0) (by omega) eW r2).2 0))
        all_goals
          go_wp2_with fail
          go_meet
          obtain ⟨q1, q2⟩ := HJW.out.appended (st' := ((st.write [44]).write [yy])) (i := 0) (by omega) eW r1 r2 r3 (by simp [X, vb, St.write]) (X_but 0 (fun h => absurd rfl h) (fun _ => rfl) (fun _ => rfl) (fun _ => rfl) (fun _ => rfl) (fun _ => rfl)) rfl
          obtain ⟨R9, q1⟩ := q1
          exact ⟨_, R9, q1, ⟨(HOW.out.byte HY.out.2).mono (by omega) id, rfl, rfl⟩, hBW.trans q2⟩
    case false =>
      go_wp2_with fail
      go_meet
      exact ⟨st, R, h, ⟨HO.out.mono (by omega) (fun hp => absurd hp (of_decide_eq_false HB0.out)), rfl, rfl⟩, Below.refl B w⟩
  case rest =>
  obtain ⟨st1, R1, h1, ⟨ho1, hk1, hc1⟩, hB1⟩ := hcut
  have HO1 : Hid (Ok strs (N + 2) False st1) := ho1
  have HK1 : Hid (st1.kinds = ks ++ [kc]) := hk1.trans HK.out
  have HC1 : Hid (st1.counts = cs ++ [c]) := hc1.trans HC.out
  clear ho1 hk1 hc1 HJ k3 k4 hcc e3 e4 h HB0
  have row4 := h1.row 4 (by omega)
  have k4 := h1.cell 4 (by omega)
  have hX4 : (X st1 4).length = ks.length + 1 := by show (vn st1.counts).length = _; rw [HC1.out]; simp [vn, HCK.out]
  rw [hX4] at row4
  obtain ⟨g4, c4, e4, _, _, _, hcells4, hfr4⟩ := row_form row4 (by omega)
  rw [e4] at k4
  have hcc : wc.cell? ⟨g4, ks.length, none⟩ = some (.int .i64 (c : Int)) := hcells4 _ _ (by show (vn st1.counts)[ks.length]? = _; rw [HC1.out, ← HCK.out]; simp [vn])
  have hfc := hfr4 ks.length
  have hcb : c ≤ 1099511627776 := HCB.out
  have HJ1 : Hid (JB wc B R1 sv st1) := h1
  clear row4 hX4 hcells4 hfr4 h1
  go_upto_region 5 with fail
  go_cut [] (fun wx => (∃ R', JB wx B R' sv { st1 with counts := cs ++ [c + 1] }) ∧ Below B w wx)
  case first =>
    go_region
    all_goals
      go_wp2_with fail
      go_meet
      obtain ⟨hJ, hBl⟩ := HJ1.out.setAt (st' := { st1 with counts := cs ++ [c + 1] }) (i := 4) (by omega) e4 ks.length (.int .i64 ((c : Int) + 1)) (by show vn (cs ++ [c + 1]) = (vn st1.counts).set _ _; rw [HC1.out, ← HCK.out]; simp [vn]) (X_but 4 (fun _ => rfl) (fun _ => rfl) (fun _ => rfl) (fun _ => rfl) (fun h => absurd rfl h) (fun _ => rfl)) rfl
      exact ⟨⟨_, hJ.later (fun _ _ => rfl) (Nat.le_refl _)⟩, (hB1.trans hBl).drew⟩
  case rest =>
  obtain ⟨⟨R2, h2⟩, hB2⟩ := hcut
  have ho2 : Ok strs (N + 3) False { st1 with counts := cs ++ [c + 1] } := (HO1.out.mono (by omega) id).counts (by rw [HC1.out]; simp) (by
    intro x hx
    rcases List.mem_append.1 hx with hx | hx
    · have := HO1.out.sz.b x (by rw [HC1.out]; exact List.mem_append_left _ hx); omega
    · have := HO1.out.sz.b c (by rw [HC1.out]; simp); rw [List.mem_singleton.1 hx]; omega)
  have hk2 : ({ st1 with counts := cs ++ [c + 1] } : St).kinds = ks ++ [kc] := HK1.out
  have hc2 : ({ st1 with counts := cs ++ [c + 1] } : St).counts = cs ++ [c + 1] := rfl
  obtain ⟨st2, hst2⟩ : ∃ s, s = ({ st1 with counts := cs ++ [c + 1] } : St) := ⟨_, rfl⟩
  rw [← hst2] at h2 ho2 hk2 hc2
  have HO2 : Hid (Ok strs (N + 3) False st2) := ho2
  have HK2 : Hid (st2.kinds = ks ++ [kc]) := hk2
  have HC2 : Hid (st2.counts = cs ++ [c + 1]) := hc2
  clear hst2 ho2 hk2 hc2 HJ1 e4 k4 hcc hfc hB1 hcb HO1 HK1 HC1
  have row3 := h2.row 3 (by omega)
  have k3 := h2.cell 3 (by omega)
  have hX3 : (X st2 3).length = ks.length + 1 := by show (vb st2.kinds).length = _; rw [HK2.out, vb_len]; simp
  rw [hX3] at row3
  obtain ⟨g3, c3, e3, _, _, _, hcells3, _⟩ := row_form row3 (by omega)
  rw [e3] at k3
  have hkc : wc.cell? ⟨g3, ks.length, none⟩ = some (.int .u8 (kc.toNat : Int)) := hcells3 _ _ (by show (vb st2.kinds)[ks.length]? = _; rw [HK2.out]; simp [vb])
  obtain ⟨b7, hb7⟩ : ∃ b, ((kc.toNat : Int) == 125) = b := ⟨_, rfl⟩
  clear row3 hX3 hcells3
  go_upto_if 64 with fail
  (try simp only [hb7])
  clear hb7
  go_cut [] (fun wx => ∃ st3 R3, JB wx B R3 sv st3 ∧ (Ok strs (N + 30000) False st3 ∧ st3.kinds = st2.kinds ∧ st3.counts = st2.counts) ∧ Below B w wx)
  case first =>
    cases b7
    case false =>
      go_wp2_with fail
      go_meet
      exact ⟨st2, R2, h2, ⟨HO2.out.mono (by omega) id, rfl, rfl⟩, hB2⟩
    case true =>
      clear k3 hkc e3
      obtain ⟨a0, c0, e0⟩ := h2.form (i := 0) (by omega)
      have k0 := h2.cell 0 (by omega)
      obtain ⟨m0, hm0⟩ : ∃ n, n = st2.out.length := ⟨_, rfl⟩
      have HM0 : Hid (m0 = st2.out.length) := hm0
      rw [e0, show (X st2 0).length = m0 by rw [hm0]; show (vb st2.out).length = _; simp [vb]] at k0
      obtain ⟨aA, cA, eA⟩ := h2.form (i := 1) (by omega)
      have kA := h2.cell 1 (by omega)
      have rowA := h2.row 1 (by omega)
      obtain ⟨nA, hnA⟩ : ∃ n, n = (X st2 1).length := ⟨_, rfl⟩
      have hbdA : nA ≤ 4398046511104 := by rw [hnA]; have b1 := HO2.out.sz.s; have b2 := HN.out; simp [X, vn] <;> omega
      rw [← hnA] at rowA eA
      rw [eA] at kA rowA
      have p1A : nA + 1 ≤ maxLen := by unfold maxLen; omega
      have p2A : (nA + 1) * 8 ≤ 140737488355328 := by omega
      have p3A : B + 1 ≤ (wc.alloc (.cells #[.int .i64 (m0 : Int)] 3)).drew.heap.size := by have := h2.lt; simp; omega
      have hoA : (wc.alloc (.cells #[.int .i64 (m0 : Int)] 3)).drew.ownsRow (B + 1) 3 1 (.slice aA nA cA) nA (X st2 1) := rowA.alloc _
      have qA : ∀ j u, [.int .i64 (m0 : Int)][j]? = some u → (wc.alloc (.cells #[.int .i64 (m0 : Int)] 3)).drew.cell? ((⟨wc.heap.size, 0, none⟩ : Addr).add j) = some u := cells_new wc #[.int .i64 (m0 : Int)] 3
      have kA' : (wc.alloc (.cells #[.int .i64 (m0 : Int)] 3)).cell? ⟨B, 1, none⟩ = some (.slice aA nA cA) := later_cell kA
      have HJA : Hid (JB wc B R2 sv st2) := h2
      clear h2 rowA hnA hm0 e0
      go_upto_region 7 with fail
      go_cut [] (fun wx => (∃ R', JB wx B R' sv { st2 with starts := st2.starts ++ [st2.out.length] }) ∧ Below B w wx)
      case first =>
        go_region_law (refine step_append2 rfl (.tmp 69) (.tmp 75) 27 rfl (B + 1) 3 i3 (.int .i64 0) 8 Tryd.underlying27 hi3 hz30 hz31 hz32 rfl (.slice aA nA cA) nA (X st2 1) (by simp [Act.eval]) hoA ⟨wc.heap.size, 0, none⟩ 1 1 [.int .i64 (m0 : Int)] (by simp [Act.eval]) rfl qA (by intro u hu; rw [List.mem_singleton.1 hu]; rfl) p1A p2A p3A ?_; intro v1 w1 r1 r2 r3; obtain ⟨a3, d1, rfl⟩ := owns_form r1; have x0 := ((HJA.out.kept (i := 1) (by omega) eA r2).1 1).trans kA; have xf := (HJA.out.kept (i := 1) (by omega) eA r2).2 1)
        all_goals
          go_wp2_with fail
          go_meet
          obtain ⟨q1, q2⟩ := HJA.out.appended (st' := { st2 with starts := st2.starts ++ [st2.out.length] }) (i := 1) (by omega) eA r1 r2 r3 (by simp [X, vn, HM0.out]) (X_but 1 (fun _ => rfl) (fun h => absurd rfl h) (fun _ => rfl) (fun _ => rfl) (fun _ => rfl) (fun _ => rfl)) rfl
          exact ⟨q1, hB2.trans q2⟩
      case rest =>
      clear HJA kA kA' qA hoA eA p1A p2A p3A hB2 k0
      obtain ⟨⟨R4, h4⟩, hB4⟩ := hcut
      obtain ⟨a0, c0, e0⟩ := h4.form (i := 0) (by omega)
      have k0 := h4.cell 0 (by omega)
      have f0 := h4.fr 0
      have hX0' : (X { st2 with starts := st2.starts ++ [st2.out.length] } 0).length = m0 := by rw [HM0.out]; show (vb st2.out).length = _; simp [vb]
      rw [hX0'] at e0
      rw [e0] at k0
      have hlt := h4.lt
      have HJA : Hid (JB wc B R4 sv { st2 with starts := st2.starts ++ [st2.out.length] }) := h4
      obtain ⟨s, hs⟩ : ∃ s, s = took strs st2 := ⟨_, rfl⟩
      have HQ : Hid (s = took strs st2) := hs
      have HS : Hid (s.size ≤ 4096) := by show s.size ≤ _; rw [hs]; exact took_size HSS.out st2
      have ct : Calls Tryd.prog 16 #[.pointer (some ⟨B, 0, none⟩)] wc.drew fun e w' => ∃ v, e = .returned v ∧ (v = .string s ∧ JB w' B R4 sv (bump strs { st2 with starts := st2.starts ++ [st2.out.length] }) ∧ Below B wc w') := (take_walk B R4 sv { st2 with starts := st2.starts ++ [st2.out.length] } strs wc.drew (HJA.out.drawn 1) ((HSB.out.later hB4).later ((Below.refl B wc).drew)) HSL.out HO2.out.nx).mono (by
        rintro e w' ⟨rfl, h2, h3⟩
        refine ⟨_, rfl, by rw [hs]; rfl, h2, ?_⟩
        exact ((Below.refl B wc).drew).grown h3 (by show B ≤ wc.heap.size; omega) (fun k hk => by injection hk with hk; omega))
      have ce : ∀ w1, JB w1 B R4 sv (bump strs { st2 with starts := st2.starts ++ [st2.out.length] }) → Calls Tryd.prog 15 #[.slice a0 m0 c0, .string s, .bool false] w1 fun e w' => ∃ v, e = .returned v ∧ Wrote w1 (B + 1) (.slice a0 m0 c0) w' v (st2.out ++ enc false s.data.toList) := fun w1 j1 => by
        have r0 := j1.row 0 (by omega)
        rw [e0] at r0
        have r0' : w1.ownsRow (B + 1) 5 1 (.slice a0 m0 c0) st2.out.length (vb st2.out) := by
          have : (X (bump strs { st2 with starts := st2.starts ++ [st2.out.length] }) 0).length = st2.out.length := by show (vb st2.out).length = _; simp [vb]
          rw [this] at r0; exact r0
        exact encode_walk _ (B + 1) st2.out s false w1 r0' (by have := j1.lt; omega) (by have := HO2.out.sz.o; have := HN.out; omega) (by have := HS.out; omega)
      clear h4 hs hX0'
      go_upto_region 8 with fail
      go_cut [] (fun wx => (∃ R', JB wx B R' sv { bump strs { st2 with starts := st2.starts ++ [st2.out.length] } with out := st2.out ++ enc false s.data.toList }) ∧ Below B w wx)
      case first =>
        go_region_law (first
          | (refine step_call rfl 16 enter16 #[.tmp 84] #[37] rfl #[.pointer (some ⟨B, 0, none⟩)] (by simp [Act.eval, Act.put]) ct ?_; rintro v2 w2 ⟨rfl, j1, b1⟩; have y0 := (j1.cell 0 (by omega)).trans (congrArg some e0))
          | (refine step_call rfl 15 enter15 #[.tmp 83, .tmp 85, .const (.bool false)] #[22, 9, 4] rfl #[.slice a0 m0 c0, .string s, .bool false] (by simp [Act.eval]) (ce _ j1) ?_; intro v3 w3 hW; obtain ⟨z1, z2, a2, n2, d2, rfl⟩ := j1.wroteK e0 hW; have x0 := (z1 0).trans y0; have xf := z2 0))
        all_goals
          go_wp2_with fail
          go_meet
          obtain ⟨q1, q2⟩ := j1.wrote e0 hW
          exact ⟨q1, (hB4.trans b1).trans q2⟩
      case rest =>
      clear HJA k0 f0 e0 hB4 ct ce hlt
      obtain ⟨⟨R5, h5⟩, hB5⟩ := hcut
      obtain ⟨a0, c0, e0⟩ := h5.form (i := 0) (by omega)
      have k0 := h5.cell 0 (by omega)
      obtain ⟨m1, hm1⟩ : ∃ n, n = st2.out.length + (enc false s.data.toList).length := ⟨_, rfl⟩
      have HM1 : Hid (m1 = st2.out.length + (enc false s.data.toList).length) := hm1
      rw [e0, show (X { bump strs { st2 with starts := st2.starts ++ [st2.out.length] } with out := st2.out ++ enc false s.data.toList } 0).length = m1 by rw [hm1]; show (vb (st2.out ++ enc false s.data.toList)).length = _; simp [vb]] at k0
      obtain ⟨aA, cA, eA⟩ := h5.form (i := 2) (by omega)
      have kA := h5.cell 2 (by omega)
      have rowA := h5.row 2 (by omega)
      obtain ⟨nA, hnA⟩ : ∃ n, n = (X { bump strs { st2 with starts := st2.starts ++ [st2.out.length] } with out := st2.out ++ enc false s.data.toList } 2).length := ⟨_, rfl⟩
      have hbdA : nA ≤ 4398046511104 := by rw [hnA]; have b1 := HO2.out.sz.e; have b2 := HN.out; show (vi st2.ends).length ≤ _; simp [vi]; omega
      rw [← hnA] at rowA eA
      rw [eA] at kA rowA
      have p1A : nA + 1 ≤ maxLen := by unfold maxLen; omega
      have p2A : (nA + 1) * 8 ≤ 140737488355328 := by omega
      have p3A : B + 1 ≤ (wc.alloc (.cells #[.int .i64 (m1 : Int)] 3)).drew.heap.size := by have := h5.lt; simp; omega
      have hoA : (wc.alloc (.cells #[.int .i64 (m1 : Int)] 3)).drew.ownsRow (B + 1) 3 1 (.slice aA nA cA) nA (X { bump strs { st2 with starts := st2.starts ++ [st2.out.length] } with out := st2.out ++ enc false s.data.toList } 2) := rowA.alloc _
      have qA : ∀ j u, [.int .i64 (m1 : Int)][j]? = some u → (wc.alloc (.cells #[.int .i64 (m1 : Int)] 3)).drew.cell? ((⟨wc.heap.size, 0, none⟩ : Addr).add j) = some u := cells_new wc #[.int .i64 (m1 : Int)] 3
      have kA' : (wc.alloc (.cells #[.int .i64 (m1 : Int)] 3)).cell? ⟨B, 2, none⟩ = some (.slice aA nA cA) := later_cell kA
      have HJA : Hid (JB wc B R5 sv { bump strs { st2 with starts := st2.starts ++ [st2.out.length] } with out := st2.out ++ enc false s.data.toList }) := h5
      clear h5 rowA hnA hm1 e0
      go_upto_region 9 with fail
      go_cut [] (fun wx => ∃ st4 R4, JB wx B R4 sv st4 ∧ (Ok strs (N + 25003) False st4 ∧ st4.kinds = st2.kinds ∧ st4.counts = st2.counts) ∧ Below B w wx)
      case first =>
        go_region_law (refine step_append2 rfl (.tmp 93) (.tmp 99) 27 rfl (B + 1) 3 i3 (.int .i64 0) 8 Tryd.underlying27 hi3 hz30 hz31 hz32 rfl (.slice aA nA cA) nA (X { bump strs { st2 with starts := st2.starts ++ [st2.out.length] } with out := st2.out ++ enc false s.data.toList } 2) (by simp [Act.eval]) hoA ⟨wc.heap.size, 0, none⟩ 1 1 [.int .i64 (m1 : Int)] (by simp [Act.eval]) rfl qA (by intro u hu; rw [List.mem_singleton.1 hu]; rfl) p1A p2A p3A ?_; intro v1 w1 r1 r2 r3; obtain ⟨a3, d1, rfl⟩ := owns_form r1; have x0 := ((HJA.out.kept (i := 2) (by omega) eA r2).1 2).trans kA; have xf := (HJA.out.kept (i := 2) (by omega) eA r2).2 2)
        all_goals
          go_wp2_with fail
          go_meet
          obtain ⟨⟨R6, q1⟩, q2⟩ := HJA.out.appended (st' := ((bump strs st2).whole (enc false s.data.toList))) (i := 2) (by omega) eA r1 r2 r3 (by rw [HM1.out]; show vi (st2.ends ++ [((st2.out.length + (enc false s.data.toList).length : Nat) : Int)]) = vi st2.ends ++ _; simp [vi]) (X_but 2 (fun _ => rfl) (fun _ => rfl) (fun h => absurd rfl h) (fun _ => rfl) (fun _ => rfl) (fun _ => rfl)) rfl
          exact ⟨_, R6, q1, ⟨(HO2.out.bump.enc false s HS.out).mono (by omega) id, rfl, rfl⟩, hB5.trans q2⟩
      case rest =>
      clear HJA kA kA' qA hoA eA p1A p2A p3A hB5 k0 HQ HM1 HM0 HS
      obtain ⟨st4, R4, h4, ⟨ho4, hk4, hc4⟩, hB4⟩ := hcut
      have HO4 : Hid (Ok strs (N + 25003) False st4) := ho4
      have HK4 : Hid (st4.kinds = st2.kinds ∧ st4.counts = st2.counts) := ⟨hk4, hc4⟩
      clear ho4 hk4 hc4
      obtain ⟨aA, cA, eA⟩ := h4.form (i := 0) (by omega)
      have kA := h4.cell 0 (by omega)
      have rowA := h4.row 0 (by omega)
      obtain ⟨nA, hnA⟩ : ∃ n, n = (X st4 0).length := ⟨_, rfl⟩
      have hbdA : nA ≤ 4398046511104 := by rw [hnA]; have b1 := HO4.out.sz.o; have b2 := HN.out; simp [X, vb] <;> omega
      rw [← hnA] at rowA eA
      rw [eA] at kA rowA
      have p1A : nA + 1 ≤ maxLen := by unfold maxLen; omega
      have p2A : (nA + 1) * 1 ≤ 140737488355328 := by omega
      have p3A : B + 1 ≤ (wc.alloc (.cells #[.int .u8 58] 5)).heap.size := by have := h4.lt; simp; omega
      have hoA : (wc.alloc (.cells #[.int .u8 58] 5)).ownsRow (B + 1) 5 1 (.slice aA nA cA) nA (X st4 0) := rowA.alloc _
      have HJ : Hid (JB wc B R4 sv st4) := h4
      clear h4 rowA hnA
      go_upto_region 10 with fail
      go_cut [] (fun wx => (∃ R', JB wx B R' sv (st4.write [58])) ∧ Below B w wx)
      case first =>
        go_wp2_with (at_builtin; refine wpList_append2 rfl (.tmp 107) (.tmp 108) 22 rfl (B + 1) 5 i5 (.int .u8 0) 1 Tryd.underlying22 hi5 hz50 hz51 hz52 rfl (.slice aA nA cA) nA (X st4 0) rfl hoA ⟨wc.heap.size, 0, none⟩ 1 1 [.int .u8 58] rfl rfl (cells_new wc #[.int .u8 58] 5) (by intro u hu; rw [List.mem_singleton.1 hu]; rfl) p1A p2A p3A ?_; intro v1 w1 r1 r2 r3; obtain ⟨a3, d1, rfl⟩ := owns_form r1; have x0 := ((HJ.out.kept1 (i := 0) (by omega) eA r2).1 0).trans kA; have xf := (HJ.out.kept1 (i := 0) (by omega) eA r2).2 0)
        go_meet
        obtain ⟨q1, q2⟩ := HJ.out.appended1 (st' := (st4.write [58])) (i := 0) (by omega) eA r1 r2 r3 (by simp [X, vb, St.write]) (X_but 0 (fun h => absurd rfl h) (fun _ => rfl) (fun _ => rfl) (fun _ => rfl) (fun _ => rfl) (fun _ => rfl)) rfl
        exact ⟨q1, hB4.trans q2⟩
      case rest =>
      obtain ⟨⟨RW, hW⟩, hBW⟩ := hcut
      clear HJ kA hoA eA p1A p2A p3A
      have HOW : Hid (Ok strs (N + 25004) False (st4.write [58])) := HO4.out.byte (by simp [plain])
      obtain ⟨x6, h6⟩ : ∃ x : Int, bits .and .u8 (op.toNat : Int) 128 = x := ⟨_, rfl⟩
      by_cases hx : x6 = 0
      · have d6 : (x6 != 0) = false := by rw [hx]; rfl
        clear hx
        go_wp2_with fail
        go_meet
        exact ⟨_, RW, hW, ⟨HOW.out.mono (by omega) id, HK4.out.1, HK4.out.2⟩, hBW⟩
      · have d6 : (x6 != 0) = true := by simpa using hx
        clear hx
        obtain ⟨sl, hsl⟩ : ∃ s : UInt8, ((op.toNat : Int) / 16) = (s.toNat : Int) := ⟨op >>> 4, shr4' op⟩
        obtain ⟨yy, hyy⟩ : ∃ y, y = ws sl := ⟨_, rfl⟩
        have HY : Hid (dl yy ∧ plain yy) := by show dl yy ∧ plain yy; rw [hyy]; exact ws_dl sl
        have ct : Calls Tryd.prog 12 #[.int .u8 (sl.toNat : Int)] wc.drew fun e w' => ∃ v, e = .returned v ∧ (v = .int .u8 (yy.toNat : Int) ∧ w' = wc.drew) := (ws_walk sl wc.drew).mono (by
          rintro e w' ⟨rfl, rfl⟩
          exact ⟨_, rfl, by rw [hyy], rfl⟩)
        clear hyy
        obtain ⟨aW, cW, eW⟩ := hW.form (i := 0) (by omega)
        have kW := hW.cell 0 (by omega)
        have rowW := hW.row 0 (by omega)
        obtain ⟨nW, hnW⟩ : ∃ n, n = (X (st4.write [58]) 0).length := ⟨_, rfl⟩
        have hbdW : nW ≤ 4398046511104 := by rw [hnW]; have b1 := HOW.out.sz.o; have b2 := HN.out; simp [X, vb] <;> omega
        rw [← hnW] at rowW eW
        rw [eW] at kW rowW
        have p1W : nW + 1 ≤ maxLen := by unfold maxLen; omega
        have p2W : (nW + 1) * 1 ≤ 140737488355328 := by omega
        have p3W : B + 1 ≤ (wc.alloc (.cells #[.int .u8 (yy.toNat : Int)] 5)).drew.heap.size := by have := hW.lt; simp; omega
        have hoW : (wc.alloc (.cells #[.int .u8 (yy.toNat : Int)] 5)).drew.ownsRow (B + 1) 5 1 (.slice aW nW cW) nW (X (st4.write [58]) 0) := rowW.alloc _
        have qW : ∀ j u, [.int .u8 (yy.toNat : Int)][j]? = some u → (wc.alloc (.cells #[.int .u8 (yy.toNat : Int)] 5)).drew.cell? ((⟨wc.heap.size, 0, none⟩ : Addr).add j) = some u := cells_new wc #[.int .u8 (yy.toNat : Int)] 5
        have kW' : (wc.alloc (.cells #[.int .u8 (yy.toNat : Int)] 5)).cell? ⟨B, 0, none⟩ = some (.slice aW nW cW) := later_cell kW
        have HJW : Hid (JB wc B _ sv (st4.write [58])) := hW
        clear hW rowW hnW
        go_wp2_with fail
        go_region_law (first
          | (refine step_call rfl 12 enter12 #[.tmp 121] #[5] rfl #[.int .u8 (sl.toNat : Int)] (by simp [Act.eval, Act.put]) ct ?_; rintro v2 w2 ⟨rfl, rfl⟩)
          | (refine step_append2 rfl (.tmp 119) (.tmp 123) 22 rfl (B + 1) 5 i5 (.int .u8 0) 1 Tryd.underlying22 hi5 hz50 hz51 hz52 rfl (.slice aW nW cW) nW (X (st4.write [58]) 0) (by simp [Act.eval]) hoW ⟨wc.heap.size, 0, none⟩ 1 1 [.int .u8 (yy.toNat : Int)] (by simp [Act.eval]) rfl qW (by intro u hu; rw [List.mem_singleton.1 hu]; rfl) p1W p2W p3W ?_; intro v1 w1 r1 r2 r3; obtain ⟨a3, d1, rfl⟩ := owns_form r1; have x0 := ((HJW.out.kept (i := 0) (by omega) eW r2).1 0).trans kW; have xf := (HJW.out.kept (i := 0) (by omega) eW r2).2 0))
        all_goals
          go_wp2_with fail
          go_meet
          obtain ⟨q1, q2⟩ := HJW.out.appended (st' := ((st4.write [58]).write [yy])) (i := 0) (by omega) eW r1 r2 r3 (by simp [X, vb, St.write]) (X_but 0 (fun h => absurd rfl h) (fun _ => rfl) (fun _ => rfl) (fun _ => rfl) (fun _ => rfl) (fun _ => rfl)) rfl
          obtain ⟨R9, q1⟩ := q1
          exact ⟨_, R9, q1, ⟨(HOW.out.byte HY.out.2).mono (by omega) id, HK4.out.1, HK4.out.2⟩, hBW.trans q2⟩
  case rest =>
  obtain ⟨st3, R3, h3, ⟨ho3, hk3, hc3⟩, hB3⟩ := hcut
  have cv := value_ok B R3 sv st3 op wc (N + 30000) strs h3 ho3 (by have := HN.out; omega) (HSB.out.later hB3) HSL.out HSS.out
  have HC3 : Hid (st3.counts = cs ++ [c + 1]) := hc3.trans HC2.out
  clear h3 ho3 hk3 hc3 k3 hkc e3 h2 hB2
  go_wp2_with (go_at_call 10; refine cv.mono ?_; rintro e w' ⟨rfl, ⟨st', R', hJ', hV⟩, hB'⟩)
  go_end0
  refine ⟨rfl, ⟨st', R', hJ', ?_⟩, hB3.trans hB'⟩
  rcases hV with ⟨ok, _⟩ | ⟨ok, _, cc, _⟩
  · exact ok.mono (by omega) False.elim
  · exact ok.mono (by omega) (fun _ => ⟨cs, c + 1, cc.trans HC3.out, by omega⟩)
end Go.Proofs.Qxb6001559aDoor
