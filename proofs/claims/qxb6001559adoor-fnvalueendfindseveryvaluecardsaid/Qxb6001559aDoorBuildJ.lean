import Derived.Test.Qxb6001559aDoorBase
import Derived.BigQuiet
/-! THE WALK of buildJSON. -/
namespace Go.Proofs.Qxb6001559aDoor
open Go.RowKit Plain

theorem Ok.done {strs : List ByteArray} {N : Nat} {bare : Bool} {st : St} (h : Ok strs N (PB bare st) st) (hk : st.kinds = []) : Done (bare = true) st :=
  (h.inv.weak (R' := bare = true) (by
    rintro (⟨_, e⟩ | ⟨cs, c, e, _⟩)
    · exact e
    · have h2 := h.inv.hk
      rw [hk, e] at h2
      simp at h2)).done hk
set_option maxHeartbeats 4000000 in
set_option maxRecDepth 100000 in
theorem build_walk (ao : Option Addr) (n c : Nat) (ops : Plain.Bs) (so : Option Addr) (sm sd : Nat) (strs : List ByteArray) (w : World) (h : Yb w (.slice ao n c) ops) (B : Nat) (HBQ : Hid (B = w.heap.size)) (HSB : Hid (SB w B (.slice so sm sd) strs)) (hn : n ≤ 1024)
    (HSL : Hid (strs.length ≤ 1048576)) (HSS : Hid (∀ s ∈ strs, s.size ≤ 4096)) :
    Calls Tryd.prog 7 #[.slice ao n c, (.slice so sm sd)] w fun e w' => ∃ R bare st, e = .returned (.tuple #[R 0, R 1, R 2, .bool bare]) ∧ Built w B w' R (.slice so sm sd) bare st := by
  obtain ⟨i5, hi5, hz50, hz51, hz52⟩ := info_parts Tryd.info5
  have HL : Hid (n = ops.length) := h.len
  have HY : Hid (Yb w (.slice ao n c) ops) := h
  clear h
  go_enter Tryd.func7, Tryd.ntmps7
  obtain ⟨b0, hb0⟩ : ∃ b, decide (0 < n) = b := ⟨_, rfl⟩
  have HB0 : Hid (decide (0 < n) = b0) := hb0
  have hbq : w.heap.size = B := HBQ.out.symm
  go_upto_if 17 with fail
  (try simp only [hb0])
  (try simp only [hbq])
  clear hb0 hbq
  go_cut [9] (fun v wx => (∃ r0 : UInt8, v = .int .u8 (r0.toNat : Int)) ∧ ((∃ R', JB wx B R' (.slice so sm sd) St.empty) ∧ Below B w wx))
  case first =>
    have hj := jb_new w (.slice so sm sd)
    rw [← HBQ.out] at hj
    have hbl : Below B w (w.alloc (.cells #[.slice none 0 0, .slice none 0 0, .slice none 0 0, .slice none 0 0, .slice none 0 0, .slice none 0 0, (.slice so sm sd), .int .i64 0] 33)) := (Below.refl _ _).alloc (by rw [HBQ.out]; exact Nat.le_refl _) _
    have HJ : Hid (JB (w.alloc (.cells #[.slice none 0 0, .slice none 0 0, .slice none 0 0, .slice none 0 0, .slice none 0 0, .slice none 0 0, (.slice so sm sd), .int .i64 0] 33)) B (fun _ => .slice none 0 0) (.slice so sm sd) St.empty) := hj
    clear hj
    cases b0
    case true =>
      have h0 : 0 < n := of_decide_eq_true HB0.out
      obtain ⟨b, o, rfl, hL, hA, hbw⟩ := HY.out.at h0
      have hcell := hA 0 (by omega)
      rw [Nat.add_zero] at hcell
      obtain ⟨r0, hr0⟩ : ∃ r, r = ops[0]'(by omega) := ⟨_, rfl⟩
      rw [← hr0] at hcell
      have hcell' := later_cell (o := .cells #[.slice none 0 0, .slice none 0 0, .slice none 0 0, .slice none 0 0, .slice none 0 0, .slice none 0 0, (.slice so sm sd), .int .i64 0] 33) hcell
      clear hr0 hL hA hcell
      go_wp2_with fail
      go_meet
      exact ⟨⟨r0, rfl⟩, ⟨_, HJ.out⟩, hbl⟩
    case false =>
      go_wp2_with fail
      go_meet
      exact ⟨⟨4, rfl⟩, ⟨_, HJ.out⟩, hbl⟩
  case rest =>
  obtain ⟨⟨r0, rfl⟩, ⟨R0, hj0⟩, hB0⟩ := hcut
  obtain ⟨m0, hm0⟩ : ∃ m : Int, ((r0.toNat : Int) % 8) = m := ⟨_, rfl⟩
  have HM0 : Hid ((r0.toNat : Int) % 8 = m0) := hm0
  have hr0 : r0.toNat < 256 := r0.toNat_lt
  go_upto_block 0 with fail
  (try simp only [hm0])
  go_cut [9] (fun v wx => (∃ r : UInt8, v = .int .u8 (r.toNat : Int) ∧ (r.toNat % 8 = 0 ∨ r.toNat % 8 = 1 ∨ r.toNat % 8 = 3 ∨ r.toNat % 8 = 4 ∨ r.toNat % 8 = 5)) ∧ ((∃ R', JB wx B R' (.slice so sm sd) St.empty) ∧ Below B w wx))
  case first =>
    have fin : ∀ v : Value, v = .int .u8 ((r0.toNat : Int) - m0 + 4) → ∃ r : UInt8, v = .int .u8 (r.toNat : Int) ∧ (r.toNat % 8 = 0 ∨ r.toNat % 8 = 1 ∨ r.toNat % 8 = 3 ∨ r.toNat % 8 = 4 ∨ r.toNat % 8 = 5) := by
      intro v hv
      have := HM0.out
      have hq : (UInt8.ofNat (r0.toNat - r0.toNat % 8 + 4)).toNat = r0.toNat - r0.toNat % 8 + 4 := by rw [UInt8.toNat_ofNat']; omega
      refine ⟨UInt8.ofNat (r0.toNat - r0.toNat % 8 + 4), ?_, ?_⟩
      · rw [hv, hq]; congr 1; omega
      · rw [hq]; omega
    have HF : Hid (∀ v : Value, v = .int .u8 ((r0.toNat : Int) - m0 + 4) → ∃ r : UInt8, v = .int .u8 (r.toNat : Int) ∧ (r.toNat % 8 = 0 ∨ r.toNat % 8 = 1 ∨ r.toNat % 8 = 3 ∨ r.toNat % 8 = 4 ∨ r.toNat % 8 = 5)) := fin
    clear fin
    by_cases q2 : m0 = 2
    · have t2 : (m0 == 2) = true := by rw [q2]; rfl
      clear q2
      go_wp2_with fail
      go_meet
      exact ⟨HF.out _ rfl, ⟨R0, hj0⟩, hB0⟩
    · have t2 : (m0 == 2) = false := by rw [beq_eq_false_iff_ne]; exact q2
      by_cases q6 : m0 = 6
      · have t6 : (m0 == 6) = true := by rw [q6]; rfl
        clear q6 q2
        go_wp2_with fail
        go_meet
        exact ⟨HF.out _ rfl, ⟨R0, hj0⟩, hB0⟩
      · have t6 : (m0 == 6) = false := by rw [beq_eq_false_iff_ne]; exact q6
        by_cases q7 : m0 = 7
        · have t7 : (m0 == 7) = true := by rw [q7]; rfl
          clear q7 q6 q2
          go_wp2_with fail
          go_meet
          exact ⟨HF.out _ rfl, ⟨R0, hj0⟩, hB0⟩
        · have t7 : (m0 == 7) = false := by rw [beq_eq_false_iff_ne]; exact q7
          have HQ : Hid (r0.toNat % 8 = 0 ∨ r0.toNat % 8 = 1 ∨ r0.toNat % 8 = 3 ∨ r0.toNat % 8 = 4 ∨ r0.toNat % 8 = 5) := by show _ ∨ _; have := HM0.out; omega
          clear q7 q6 q2
          go_wp2_with fail
          go_meet
          exact ⟨⟨r0, rfl, HQ.out⟩, ⟨R0, hj0⟩, hB0⟩
  case rest =>
  clear hj0 hB0 HM0 hm0 hr0 HB0
  obtain ⟨⟨r, rfl, hr⟩, ⟨R1, hj1⟩, hB1⟩ := hcut
  have HR : Hid (r.toNat % 8 = 0 ∨ r.toNat % 8 = 1 ∨ r.toNat % 8 = 3 ∨ r.toNat % 8 = 4 ∨ r.toNat % 8 = 5) := hr
  clear hr
  obtain ⟨m1, hm1⟩ : ∃ m : Int, ((r.toNat : Int) % 8) = m := ⟨_, rfl⟩
  have HM1 : Hid ((r.toNat : Int) % 8 = m1) := hm1
  go_upto_region 10 with fail
  go_cut [10] (fun v wx => (∃ bare : Bool, v = .bool bare ∧ (r.toNat % 8 ≠ 0 → r.toNat % 8 ≠ 1 → r.toNat % 8 ≠ 3 → bare = true)) ∧ wx = wc)
  case first =>
    by_cases q4 : m1 = 4
    · have t4 : (m1 == 4) = true := by rw [q4]; rfl
      clear q4
      go_wp2_with fail
      go_meet
      exact ⟨⟨true, rfl, fun _ _ _ => rfl⟩, rfl⟩
    · have t4 : (m1 == 4) = false := by rw [beq_eq_false_iff_ne]; exact q4
      by_cases q5 : m1 = 5
      · have t5 : (m1 == 5) = true := by rw [q5]; rfl
        clear q4 q5
        go_wp2_with fail
        go_meet
        exact ⟨⟨true, rfl, fun _ _ _ => rfl⟩, rfl⟩
      · have t5 : (m1 == 5) = false := by rw [beq_eq_false_iff_ne]; exact q5
        have HQ : Hid (r.toNat % 8 ≠ 0 → r.toNat % 8 ≠ 1 → r.toNat % 8 ≠ 3 → false = true) := by show _ → _; have := HM1.out; have := HR.out; omega
        clear q4 q5
        go_wp2_with fail
        go_meet
        exact ⟨⟨false, rfl, HQ.out⟩, rfl⟩
  case rest =>
  obtain ⟨⟨bare, rfl, hbare⟩, rfl⟩ := hcut
  have HBR : Hid (r.toNat % 8 ≠ 0 → r.toNat % 8 ≠ 1 → r.toNat % 8 ≠ 3 → bare = true) := hbare
  have HBe : Hid (Below B w wc) := hB1
  have cv := value_ok B R1 (.slice so sm sd) St.empty r wc 0 strs hj1 (ok_empty strs) (by omega) (HSB.out.later hB1) HSL.out HSS.out
  clear hbare hj1 hB1 hm1 HM1
  go_upto_block 1 with (go_at_call 10; refine cv.mono ?_; rintro e w1 ⟨rfl, ⟨st1, R2, hj2, hV⟩, hB2⟩)
  have hO1 : Ok strs 60000 (PB bare st1) st1 := by
    rcases hV with ⟨ok, _⟩ | ⟨ok, ek, _, n0, n1, n3⟩
    · exact ok.mono (by omega) False.elim
    · exact ok.mono (by omega) (fun _ => .inl ⟨ek, HBR.out n0 n1 n3⟩)
  have HO1 : Hid (Ok strs 60000 (PB bare st1) st1) := hO1
  have HJ1 : Hid (JB w1 B R2 (.slice so sm sd) st1) := hj2
  have HB1 : Hid (Below B w w1) := HBe.out.trans hB2
  clear hO1 hj2 hB2 hV cv
  go_cut [11, 12] (fun _ _ wx => ∃ st R', JB wx B R' (.slice so sm sd) st ∧ Ok strs 62000000 (PB bare st) st ∧ Below B w wx)
  case first =>
    go_wp2_with fail
    go_loopw [11, 12] (fun k _ wr => ∃ (i : Nat) (st : St) (R' : Nat → Value), 1 ≤ i ∧ (i = 1 ∨ i ≤ n) ∧ k = .int .i64 (i : Int) ∧ JB wr B R' (.slice so sm sd) st ∧ Ok strs (60000 * i) (PB bare st) st ∧ Below B w wr) (fun k _ _ => n - (intOf k).toNat)
    case atStart => exact ⟨1, st1, R2, by omega, .inl rfl, rfl, HJ1.out, HO1.out, HB1.out⟩
    case round =>
      obtain ⟨i, st, R', hi1, hin, rfl, hJ, hO, hBl⟩ := hrel
      have HO : Hid (Ok strs (60000 * i) (PB bare st) st) := hO
      have HJ : Hid (JB wr B R' (.slice so sm sd) st) := hJ
      have HBl : Hid (Below B w wr) := hBl
      obtain ⟨a3, c3, k3⟩ := hJ.kinds
      obtain ⟨kn, hkn⟩ : ∃ kn, kn = st.kinds.length := ⟨_, rfl⟩
      have HKN : Hid (kn = st.kinds.length) := hkn
      rw [← hkn] at k3
      clear hO hBl hkn HO1 HJ1 HB1
      by_cases hlt : i < n
      · by_cases hk0 : kn = 0
        · subst hk0
          clear hJ
          go_wp2_with fail
          go_meet
          exact ⟨st, R', HJ.out, HO.out.mono (by omega) id, HBl.out⟩
        · have hk1 : 0 < kn := by omega
          obtain ⟨ks, kc, ss, slot, cs, cc, ek, es, ec, hl1, hl2, hse, hO'⟩ := HO.out.open (fun e => by have := HKN.out; rw [e] at this; simp at this; omega)
          have HEK : Hid (st.kinds = ks ++ [kc] ∧ st.slots = ss ++ [slot]) := ⟨ek, es⟩
          have hop0 : 0 < n := by omega
          obtain ⟨b, o, rfl, hL, hA, hbw⟩ := HY.out.at hop0
          have hcell := (HBl.out.cell (p := ⟨b, o + i, none⟩) (by rw [HBQ.out]; exact hbw)).trans (hA i (by omega))
          obtain ⟨op, hop⟩ : ∃ x, x = ops[i]'(by omega) := ⟨_, rfl⟩
          rw [← hop] at hcell
          obtain ⟨m, hm⟩ : ∃ m : Int, ((op.toNat : Int) % 8) = m := ⟨_, rfl⟩
          have hzo := HO.out.sz.o
          have hzk := HO.out.sz.k
          rw [ek] at hzk
          simp only [List.length_append, List.length_cons, List.length_nil] at hzk
          by_cases q2 : m = 2 ∨ m = 7
          · have ccl := close_walk B R' (.slice so sm sd) st wr hJ ks kc ss slot ek es hl1 (by rw [ec]; simp [hl2]) hse (by omega) (by omega)
            clear hJ ek es ec hl1 hl2 hse hO' hL hA hop hk0 hop0 hzo hzk
            rcases q2 with q2 | q2
            · have t2 : (m == 2) = true := by rw [q2]; rfl
              clear q2
              go_wp2_with (go_at_call 11; refine ccl.mono ?_; rintro e w2 ⟨rfl, ⟨R3, hj3⟩, hb3⟩)
              go_roundw
              case measure => simp [intOf]; omega
              case rel => exact ⟨i + 1, _, R3, by omega, .inr (by omega), by go_num, hj3, (HO.out.pop HEK.out.1 HEK.out.2).mono (by omega) False.elim, HBl.out.trans hb3⟩
            · have t2 : (m == 2) = false := by rw [q2]; rfl
              have t7 : (m == 7) = true := by rw [q2]; rfl
              clear q2
              go_wp2_with (go_at_call 11; refine ccl.mono ?_; rintro e w2 ⟨rfl, ⟨R3, hj3⟩, hb3⟩)
              go_roundw
              case measure => simp [intOf]; omega
              case rel => exact ⟨i + 1, _, R3, by omega, .inr (by omega), by go_num, hj3, (HO.out.pop HEK.out.1 HEK.out.2).mono (by omega) False.elim, HBl.out.trans hb3⟩
          · have t2 : (m == 2) = false := by rw [beq_eq_false_iff_ne]; exact fun e => q2 (.inl e)
            have t7 : (m == 7) = false := by rw [beq_eq_false_iff_ne]; exact fun e => q2 (.inr e)
            by_cases q6 : m = 6
            · have t6 : (m == 6) = true := by rw [q6]; rfl
              clear ek es ec hl1 hl2 hse hO' hL hA hop hk0 hop0 q2 q6 hzo hzk
              obtain ⟨sl, hsl⟩ : ∃ s : UInt8, ((op.toNat : Int) / 8) = (s.toNat : Int) := ⟨op >>> 3, shr3 op⟩
              obtain ⟨yy, hyy⟩ : ∃ y, y = ws sl := ⟨_, rfl⟩
              have HYY : Hid (dl yy ∧ plain yy) := by show dl yy ∧ plain yy; rw [hyy]; exact ws_dl sl
              have ct : Calls Tryd.prog 12 #[.int .u8 (sl.toNat : Int)] wr.drew fun e w' => ∃ v, e = .returned v ∧ (v = .int .u8 (yy.toNat : Int) ∧ w' = wr.drew) := (ws_walk sl wr.drew).mono (by
                rintro e w' ⟨rfl, rfl⟩
                exact ⟨_, rfl, by rw [hyy], rfl⟩)
              clear hyy
              obtain ⟨aW, cW, eW⟩ := hJ.form (i := 0) (by omega)
              have kW := hJ.cell 0 (by omega)
              have rowW := hJ.row 0 (by omega)
              obtain ⟨nW, hnW⟩ : ∃ n, n = (X st 0).length := ⟨_, rfl⟩
              have hbdW : nW ≤ 4398046511104 := by rw [hnW]; have b1 := HO.out.sz.o; simp [X, vb]; omega
              rw [← hnW] at rowW eW
              rw [eW] at kW rowW
              have p1W : nW + 1 ≤ maxLen := by unfold maxLen; omega
              have p2W : (nW + 1) * 1 ≤ 140737488355328 := by omega
              have p3W : B + 1 ≤ (wr.alloc (.cells #[.int .u8 (yy.toNat : Int)] 5)).drew.heap.size := by have := hJ.lt; simp; omega
              have hoW : (wr.alloc (.cells #[.int .u8 (yy.toNat : Int)] 5)).drew.ownsRow (B + 1) 5 1 (.slice aW nW cW) nW (X st 0) := rowW.alloc _
              have qW : ∀ j u, [.int .u8 (yy.toNat : Int)][j]? = some u → (wr.alloc (.cells #[.int .u8 (yy.toNat : Int)] 5)).drew.cell? ((⟨wr.heap.size, 0, none⟩ : Addr).add j) = some u := cells_new wr #[.int .u8 (yy.toNat : Int)] 5
              have kW' : (wr.alloc (.cells #[.int .u8 (yy.toNat : Int)] 5)).cell? ⟨B, 0, none⟩ = some (.slice aW nW cW) := later_cell kW
              clear hJ rowW hnW
              go_wp2_with fail
              go_region_law (first
                | (refine step_call rfl 12 enter12 #[.tmp 71] #[5] rfl #[.int .u8 (sl.toNat : Int)] (by simp [Act.eval, Act.put]) ct ?_; rintro v2 w2 ⟨rfl, rfl⟩)
                | (refine step_append2 rfl (.tmp 69) (.tmp 73) 22 rfl (B + 1) 5 i5 (.int .u8 0) 1 Tryd.underlying22 hi5 hz50 hz51 hz52 rfl (.slice aW nW cW) nW (X st 0) (by simp [Act.eval]) hoW ⟨wr.heap.size, 0, none⟩ 1 1 [.int .u8 (yy.toNat : Int)] (by simp [Act.eval]) rfl qW (by intro u hu; rw [List.mem_singleton.1 hu]; rfl) p1W p2W p3W ?_; intro v1 w1 r1 r2 r3; obtain ⟨a3, d1, rfl⟩ := owns_form r1; have x0 := ((HJ.out.kept (i := 0) (by omega) eW r2).1 0).trans kW; have xf := (HJ.out.kept (i := 0) (by omega) eW r2).2 0))
              all_goals
                go_wp2_with fail
                go_roundw
                case measure => simp [intOf]; omega
                case rel =>
                  obtain ⟨⟨R9, q1⟩, q2⟩ := HJ.out.appended (st' := (st.write [yy])) (i := 0) (by omega) eW r1 r2 r3 (by simp [X, vb, St.write]) (X_but 0 (fun h => absurd rfl h) (fun _ => rfl) (fun _ => rfl) (fun _ => rfl) (fun _ => rfl) (fun _ => rfl)) rfl
                  exact ⟨i + 1, _, R9, by omega, .inr (by omega), by go_num, q1, (HO.out.dl HYY.out.1 HYY.out.2).mono (by omega) False.elim, HBl.out.trans q2⟩
            · have t6 : (m == 6) = false := by rw [beq_eq_false_iff_ne]; exact q6
              have cel := element_walk B R' (.slice so sm sd) st op wr (60000 * i) strs hJ ks kc cs cc ek ec hO' (show _ ≤ _ by omega) (HSB.out.later HBl.out) HSL.out HSS.out
              clear hJ ek es ec hl1 hl2 hse hO' hL hA hop hk0 hop0 q2 q6 hzo hzk
              go_wp2_with (go_at_call 13; refine cel.mono ?_; rintro e w2 ⟨rfl, ⟨st', R3, hj3, ok3⟩, hb3⟩)
              go_roundw
              case measure => simp [intOf]; omega
              case rel => exact ⟨i + 1, st', R3, by omega, .inr (by omega), by go_num, hj3, ok3.mono (by omega) .inr, HBl.out.trans hb3⟩
      · clear hJ
        go_wp2_with fail
        go_meet
        exact ⟨st, R', HJ.out, HO.out.mono (by omega) id, HBl.out⟩
  case rest =>
  obtain ⟨st2, R3, hj3, hO3, hB3⟩ := hcut
  have HO3 : Hid (Ok strs 62000000 (PB bare st2) st2) := hO3
  have HJ3 : Hid (JB wc B R3 (.slice so sm sd) st2) := hj3
  have HB3 : Hid (Below B w wc) := hB3
  clear hj3 hO3 hB3 HO1 HJ1 HB1
  go_wp2_with fail
  go_loopw [] (fun wr => ∃ (st : St) (R' : Nat → Value) (j : Nat), j + st.kinds.length ≤ 62000000 ∧ JB wr B R' (.slice so sm sd) st ∧ Ok strs (62000000 + j) (PB bare st) st ∧ Below B w wr) (fun wr => kl B wr)
  case atStart => exact ⟨st2, R3, 0, by have := HO3.out.sz.k; omega, HJ3.out, HO3.out, HB3.out⟩
  case round =>
    obtain ⟨st, R', j, hj, hJ, hO, hBl⟩ := hrel
    have HO : Hid (Ok strs (62000000 + j) (PB bare st) st) := hO
    have HJ : Hid (JB wr B R' (.slice so sm sd) st) := hJ
    have HBl : Hid (Below B w wr) := hBl
    have HJL : Hid (j + st.kinds.length ≤ 62000000) := hj
    obtain ⟨a3, c3, k3⟩ := hJ.kinds
    obtain ⟨kn, hkn⟩ : ∃ kn, kn = st.kinds.length := ⟨_, rfl⟩
    have HKN : Hid (kn = st.kinds.length) := hkn
    rw [← hkn] at k3
    clear hO hBl hkn HO3 HJ3 HB3 hj
    by_cases hk0 : kn = 0
    · subst hk0
      obtain ⟨a0, c0, e0⟩ := hJ.form (i := 0) (by omega)
      obtain ⟨a1, c1, e1⟩ := hJ.form (i := 1) (by omega)
      obtain ⟨a2, c2, e2⟩ := hJ.form (i := 2) (by omega)
      have k0 := hJ.cell 0 (by omega)
      have k1 := hJ.cell 1 (by omega)
      have k2 := hJ.cell 2 (by omega)
      rw [e0] at k0
      rw [e1] at k1
      rw [e2] at k2
      obtain ⟨n0, hn0⟩ : ∃ n, n = (X st 0).length := ⟨_, rfl⟩
      obtain ⟨n1, hn1⟩ : ∃ n, n = (X st 1).length := ⟨_, rfl⟩
      obtain ⟨n2, hn2⟩ : ∃ n, n = (X st 2).length := ⟨_, rfl⟩
      rw [← hn0] at k0 e0
      rw [← hn1] at k1 e1
      rw [← hn2] at k2 e2
      have HE : Hid (R' 0 = .slice a0 n0 c0 ∧ R' 1 = .slice a1 n1 c1 ∧ R' 2 = .slice a2 n2 c2) := ⟨e0, e1, e2⟩
      clear hn0 hn1 hn2 e0 e1 e2 hJ
      go_wp2_with fail
      go_quiet (fail)
      go_wp2_with fail
      (try simp only [Exit.inBlock, Exit.then])
      refine bodyPost_ret (results_tmp4 rfl _ _ _) rfl ?_
      have hk : st.kinds = [] := List.length_eq_zero_iff.1 HKN.out.symm
      refine ⟨R', bare, st, ?_, HJ.out.later (fun _ _ => rfl) (Nat.le_refl _), HO.out.done hk, HO.out.sz.mono (by have := HJL.out; omega), HO.out.inv.hl, ?_⟩
      · rw [HE.out.1, HE.out.2.1, HE.out.2.2]; rfl
      · exact below_drewN HBl.out _
    · have hk1 : 0 < kn := by omega
      obtain ⟨ks, kc, ss, slot, cs, cc, ek, es, ec, hl1, hl2, hse, hO'⟩ := HO.out.open (fun e => by have := HKN.out; rw [e] at this; simp at this; omega)
      have HEK : Hid (st.kinds = ks ++ [kc] ∧ st.slots = ss ++ [slot]) := ⟨ek, es⟩
      have hzo := HO.out.sz.o
      have hzk := HO.out.sz.k
      have hjl := HJL.out
      rw [ek] at hzk
      simp only [List.length_append, List.length_cons, List.length_nil] at hzk
      have ccl := close_walk B R' (.slice so sm sd) st wr hJ ks kc ss slot ek es hl1 (by rw [ec]; simp [hl2]) hse (by omega) (by omega)
      clear hJ ek es ec hl1 hl2 hse hO' hk0 hzo hzk hjl
      go_wp2_with (go_at_call 11; refine ccl.mono ?_; rintro e w2 ⟨rfl, ⟨R4, hj4⟩, hb4⟩)
      go_roundw
      case measure => rw [hj4.kl, HJ.out.kl]; have := HKN.out; simp [St.pop]; omega
      case rel => exact ⟨_, R4, j + 1, by have := HJL.out; have := HKN.out; simp [St.pop]; omega, hj4, (HO.out.pop HEK.out.1 HEK.out.2).mono (by omega) False.elim, HBl.out.trans hb4⟩
end Go.Proofs.Qxb6001559aDoor
