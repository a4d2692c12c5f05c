import Derived.Test.Qxb6001559aDoorBuildJ
import Derived.Test.Qxb6001559aDoorZve
/-! THE WALK of the law. -/
namespace Go.Proofs.Qxb6001559aDoor
open Go.RowKit Plain

/-- buildJSON, its slices written out. -/
theorem build_walk' (ao : Option Addr) (n c : Nat) (ops : Plain.Bs) (so : Option Addr) (sm sd : Nat) (strs : List ByteArray) (w : World) (h : Yb w (.slice ao n c) ops) (hs : Ss w (.slice so sm sd) strs) (hn : n ≤ 1024)
    (hsl : strs.length ≤ 1048576) (hss : ∀ s ∈ strs, s.size ≤ 4096) :
    Calls Tryd.prog 7 #[.slice ao n c, .slice so sm sd] w fun e w' => ∃ a0 a1 a2 n0 ns k0 k1 k2 bare R st, e = .returned (.tuple #[.slice a0 n0 k0, .slice a1 ns k1, .slice a2 ns k2, .bool bare]) ∧
      Hid (R 0 = .slice a0 n0 k0 ∧ R 1 = .slice a1 ns k1 ∧ R 2 = .slice a2 ns k2 ∧ n0 = st.out.length ∧ ns = st.starts.length) ∧ Hid (Built w w.heap.size w' R (.slice so sm sd) bare st) := by
  refine (build_walk ao n c ops so sm sd strs w h w.heap.size rfl (SB.of hs (Nat.le_refl _)) hn hsl hss).mono ?_
  rintro e w' ⟨R, bare, st, rfl, hb⟩
  obtain ⟨a0, k0, e0⟩ := hb.jb.form (i := 0) (by omega)
  obtain ⟨a1, k1, e1⟩ := hb.jb.form (i := 1) (by omega)
  obtain ⟨a2, k2, e2⟩ := hb.jb.form (i := 2) (by omega)
  rw [show (X st 0).length = st.out.length by show (vb st.out).length = _; simp [vb]] at e0
  rw [show (X st 1).length = st.starts.length by show (vn st.starts).length = _; simp [vn]] at e1
  rw [show (X st 2).length = st.starts.length by show (vi st.ends).length = _; simp [vi, hb.same]] at e2
  exact ⟨a0, a1, a2, _, _, k0, k1, k2, bare, R, st, by rw [e0, e1, e2], ⟨e0, e1, e2, rfl, rfl⟩, hb⟩

theorem made_owns (w : World) (N : Nat) (hN : N ≤ maxLen) : (w.alloc (.cells (zb N) 5)).ownsRow w.heap.size 5 1 (.slice (some ⟨w.heap.size, 0, none⟩) 0 N) 0 (vb []) :=
  ⟨rfl, .inr ⟨w.heap.size, N, zb N, rfl, Nat.le_refl _, heap_alloc_new w _, Nat.zero_le _, hN, by simp [zb], by simp [vb]⟩⟩
theorem make0_run (N : Nat) (hn : N ≤ 1073741824) (C : Int) (hC : C = (N : Int)) (w : World) : (Instr.makeSlice 22 (.int .i64 0) (.int .i64 C)).run Tryd.prog w =
    .ok (.slice (some ⟨w.heap.size, 0, none⟩) 0 N) (w.alloc (.cells (zb N) 5)) := by
  subst hC
  obtain ⟨i0, hi, hz0, hz1, hz2⟩ := info_parts Tryd.info5
  have h := run_make (P := Tryd.prog) w 22 5 i0 (.int .u8 0) Tryd.underlying22 hi hz0 .i64 .i64 0 (N : Int) (by omega) (by omega) (by rw [hz2]; omega) (by omega)
  rw [h, hz1, Int.toNat_natCast, Nat.mul_one]
  have e : madeCells (Value.int IntKind.u8 0).cells N = zb N := by
    apply Array.toList_inj.1
    have := toList_madeCells_one (.int .u8 0) N
    rw [show (Value.int IntKind.u8 0).cells = #[Value.int IntKind.u8 0] from rfl, this, zb]
  rw [e]
  rfl
/-- The data as it is laid: its slice, where it lies. -/
structure Data (w5 w : World) (v : Value) (n : Nat) (l : Plain.Bs) : Prop where
  own : w.ownsRow w5.heap.size 5 1 v n (vb l)
  below : Below w5.heap.size w5 w
  len : n = l.length
theorem Data.more {w5 w w' : World} {v v' : Value} {n : Nat} {l x : Plain.Bs} (h : Data w5 w v n l) (r1 : w'.ownsRow w5.heap.size 5 1 v' (n + x.length) (vb (l ++ x))) (r2 : w.grownBy w' v.ownBlock) : Data w5 w' v' (n + x.length) (l ++ x) :=
  ⟨r1, h.below.grown r2 h.below.size (fun k hk => (h.own.lt k hk).1), by rw [List.length_append, h.len]⟩
theorem Data.form {w5 w : World} {v : Value} {n : Nat} {l : Plain.Bs} (h : Data w5 w v n l) : ∃ a c, v = .slice a n c := owns_form h.own
theorem good_le {out : Plain.Bs} {s : Nat} {e : Int} (h : Plain.Good out s e) : 0 ≤ e ∧ e ≤ (out.length : Int) := by
  obtain ⟨A, V, C, rfl, _, rfl, _⟩ := h
  simp only [List.length_append]
  omega
theorem raw_le {out : Plain.Bs} {s : Nat} {e : Int} (h : Plain.Raw out s e) : 0 ≤ e ∧ e ≤ (out.length : Int) := by
  obtain ⟨A, V, rfl, _, rfl, _⟩ := h
  simp only [List.length_append]
  omega
set_option maxHeartbeats 4000000 in
set_option maxRecDepth 100000 in
theorem law_walk (a1 a2 a3 a4 : Option Addr) (n1 n2 n3 n4 c1 c2 c3 c4 : Nat) (pre ops suf : Plain.Bs) (strs : List ByteArray) (w : World) (h1 : Yb w (.slice a1 n1 c1) pre) (h2 : Yb w (.slice a2 n2 c2) ops) (h3 : Ss w (.slice a3 n3 c3) strs) (h4 : Yb w (.slice a4 n4 c4) suf)
    (m1 : n1 ≤ maxLen) (m2 : n2 ≤ maxLen) (m3 : n3 ≤ maxLen) (m4 : n4 ≤ maxLen) :
    Calls Tryd.prog 3 #[.slice a1 n1 c1, .slice a2 n2 c2, .slice a3 n3 c3, .slice a4 n4 c4] w fun e w' => e = .returned (.bool true) ∧ Below w.heap.size w w' := by
  have cz := zz_walk a1 a2 a3 a4 n1 n2 n3 n4 c1 c2 c3 c4 strs w h3 m1 m2 m3 m4
  have H1 : Hid (Yb w (.slice a1 n1 c1) pre) := h1
  have H2 : Hid (Yb w (.slice a2 n2 c2) ops) := h2
  have H3 : Hid (Ss w (.slice a3 n3 c3) strs) := h3
  have H4 : Hid (Yb w (.slice a4 n4 c4) suf) := h4
  unfold maxLen at m1 m2 m3 m4
  clear h1 h2 h3 h4
  go_enter Tryd.func3, Tryd.ntmps3
  go_upto_if 23 with (go_at_call 4; refine cz.mono ?_; rintro e w' ⟨⟨bz, rfl⟩, hw'⟩; obtain rfl := hw'.symm)
  clear cz
  cases bz
  case false =>
    go_wp2_with fail
    go_ret
    exact ⟨rfl, Below.refl _ _⟩
  case true =>
  go_upto_region 3 with fail
  go_cut [41] (fun v wx => (∃ b, v = .bool b ∧ (b = false → n1 ≤ 1048576 ∧ n4 ≤ 1048576 ∧ n2 ≤ 1024 ∧ n3 ≤ 1024)) ∧ wx = w)
  case first =>
    by_cases q1 : n1 ≤ 1048576
    · by_cases q4 : n4 ≤ 1048576
      · by_cases q2 : n2 ≤ 1024
        · by_cases q3 : n3 ≤ 1024
          · have Q : Hid (n1 ≤ 1048576 ∧ n4 ≤ 1048576 ∧ n2 ≤ 1024 ∧ n3 ≤ 1024) := ⟨q1, q4, q2, q3⟩
            go_wp2_with fail
            go_meet
            exact ⟨⟨_, rfl, fun _ => Q.out⟩, rfl⟩
          · have d3 : decide ((1024 : Int) < (n3 : Int)) = true := decide_eq_true (by omega)
            go_wp2_with fail
            go_meet
            exact ⟨⟨_, rfl, fun e => by cases e⟩, rfl⟩
        · go_wp2_with fail
          go_meet
          exact ⟨⟨_, rfl, fun e => by cases e⟩, rfl⟩
      · go_wp2_with fail
        go_meet
        exact ⟨⟨_, rfl, fun e => by cases e⟩, rfl⟩
    · go_wp2_with fail
      go_meet
      exact ⟨⟨_, rfl, fun e => by cases e⟩, rfl⟩
  case rest =>
  obtain ⟨⟨b, rfl, hb⟩, hwc⟩ := hcut
  obtain rfl := hwc.symm
  cases b
  case true =>
    go_wp2_with fail
    go_ret
    exact ⟨rfl, Below.refl _ _⟩
  case false =>
  obtain ⟨q1, q4, q2, q3⟩ := hb rfl
  clear hb m1 m2 m3 m4
  go_upto_block 0 with fail
  go_cut [9, 10] (fun z _ wx => (∃ t : Nat, t ≤ 4096 ∧ z = .int .i64 (t : Int) ∧ ∀ s ∈ strs, s.size ≤ 4096) ∧ wx = w)
  case first =>
    go_wp2_with fail
    go_loop [9, 10] (fun z i => ∃ k t : Nat, k ≤ n3 ∧ t ≤ 4096 ∧ i = .int .i64 k ∧ z = .int .i64 t ∧ Hid (∀ s ∈ strs.take k, s.size ≤ 4096)) (fun _ i => n3 - (intOf i).toNat)
    case atStart => exact ⟨0, 0, Nat.zero_le _, Nat.zero_le _, rfl, rfl, by show ∀ s ∈ strs.take 0, _; simp⟩
    case round =>
      obtain ⟨k, t, hk, ht, rfl, rfl, HA⟩ := hrel
      by_cases hlt : k < n3
      · obtain ⟨b, o, rfl, hL, hA, _⟩ := H3.out.at (by omega)
        have hcell := hA k (by omega)
        obtain ⟨s, hs⟩ : ∃ s, s = strs[k]'(by omega) := ⟨_, rfl⟩
        have HT : Hid (strs.take (k + 1) = strs.take k ++ [s]) := by show strs.take (k + 1) = _; rw [hs, List.take_succ_eq_append_getElem]
        rw [← hs] at hcell
        clear hs hA hL
        go_wp2_with fail
        · go_ret
          exact ⟨rfl, Below.refl _ _⟩
        · go_ret
          exact ⟨rfl, Below.refl _ _⟩
        · go_round
          case measure => simp [intOf]; omega
          case rel =>
            refine ⟨k + 1, t + s.size, by omega, by omega, by go_num, by go_num, ?_⟩
            show ∀ x ∈ strs.take (k + 1), x.size ≤ 4096
            rw [HT.out]
            intro x hx
            rcases List.mem_append.1 hx with hx | hx
            · exact HA.out x hx
            · rw [List.mem_singleton.1 hx]; omega
      · have HF : Hid (∀ s ∈ strs, s.size ≤ 4096) := by
          have e := H3.out.len
          have := HA.out
          rw [List.take_of_length_le (by omega)] at this
          exact this
        go_wp2_with fail
        go_meet
        exact ⟨⟨t, ht, rfl, HF.out⟩, rfl⟩
  case rest =>
  obtain ⟨⟨t, ht, rfl, hss⟩, hwc⟩ := hcut
  obtain rfl := hwc.symm
  have HSS : Hid (∀ s ∈ strs, s.size ≤ 4096) := hss
  clear hss
  go_upto_if 80 with fail
  go_cut [] (fun wx => wx = w)
  case first =>
    go_wp2_with fail
    · go_ret
      exact ⟨rfl, Below.refl _ _⟩
    · go_meet
      rfl
  case rest =>
  obtain rfl := hcut.symm
  have HL1 : Hid (n1 = pre.length) := H1.out.len
  have HL2 : Hid (n2 = ops.length) := H2.out.len
  have HL3 : Hid (n3 = strs.length) := H3.out.len
  have HL4 : Hid (n4 = suf.length) := H4.out.len
  have cc1 := cloneB_walk a1 n1 c1 pre w H1.out q1
  go_upto_region 17 with (go_at_call 5; refine cc1.mono ?_; rintro e w1 ⟨⟨v1, rfl, y1⟩, b1⟩)
  obtain ⟨p1, d1, rfl, hd1⟩ := y1.form
  rw [← HL1.out] at y1 hd1
  (try simp only [← HL1.out])
  have Y1 : Hid (Yb w1 (.slice p1 n1 d1) pre) := y1
  have B1 : Hid (Below w.heap.size w w1) := b1
  have cc2 := cloneB_walk a2 n2 c2 ops w1 (H2.out.later b1) (by omega)
  clear cc1 y1 b1
  go_upto_region 18 with (go_at_call 5; refine cc2.mono ?_; rintro e w2 ⟨⟨v2, rfl, y2⟩, b2⟩)
  obtain ⟨p2, d2, rfl, hd2⟩ := y2.form
  rw [← HL2.out] at y2 hd2
  (try simp only [← HL2.out])
  have Y2 : Hid (Yb w2 (.slice p2 n2 d2) ops) := y2
  have Y1b : Hid (Yb w2 (.slice p1 n1 d1) pre) := Y1.out.later b2
  have B2 : Hid (Below w.heap.size w w2) := below2 B1.out b2
  have cc3 := cloneS_walk a3 n3 c3 strs w2 (H3.out.later B2.out) (by omega)
  clear cc2 y2 b2 Y1 B1
  go_upto_region 19 with (go_at_call 6; refine cc3.mono ?_; rintro e w3 ⟨⟨v3, rfl, y3⟩, b3⟩)
  obtain ⟨p3, d3, rfl, hd3⟩ := y3.form
  rw [← HL3.out] at y3 hd3
  (try simp only [← HL3.out])
  have Y3 : Hid (Ss w3 (.slice p3 n3 d3) strs) := y3
  have Y2b : Hid (Yb w3 (.slice p2 n2 d2) ops) := Y2.out.later b3
  have Y1c : Hid (Yb w3 (.slice p1 n1 d1) pre) := Y1b.out.later b3
  have B3 : Hid (Below w.heap.size w w3) := below2 B2.out b3
  have cc4 := cloneB_walk a4 n4 c4 suf w3 (H4.out.later B3.out) (by omega)
  clear cc3 y3 b3 Y1b Y2 B2
  go_upto_region 20 with (go_at_call 5; refine cc4.mono ?_; rintro e w4 ⟨⟨v4, rfl, y4⟩, b4⟩)
  obtain ⟨p4, d4, rfl, hd4⟩ := y4.form
  rw [← HL4.out] at y4 hd4
  (try simp only [← HL4.out])
  have Y4 : Hid (Yb w4 (.slice p4 n4 d4) suf) := y4
  have Y1d : Hid (Yb w4 (.slice p1 n1 d1) pre) := Y1c.out.later b4
  have B4 : Hid (Below w.heap.size w w4) := below2 B3.out b4
  have cb := build_walk' p2 n2 d2 ops p3 n3 d3 strs w4 (Y2b.out.later b4) (Y3.out.later b4) q2 (by have := HL3.out; omega) HSS.out
  clear cc4 y4 b4 Y1c Y2b Y3 B3
  go_upto_region 21 with (go_at_call 7; refine cb.mono ?_; rintro e w5 ⟨o0, o1, o2, n0, ns, k0, k1, k2, bare, R, st, rfl, HE, HB⟩)
  have Y4b : Hid (Yb w5 (.slice p4 n4 d4) suf) := Y4.out.later HB.out.below
  have Y1e : Hid (Yb w5 (.slice p1 n1 d1) pre) := Y1d.out.later HB.out.below
  have B5 : Hid (Below w.heap.size w w5) := below2 B4.out HB.out.below
  clear cb Y4 Y1d
  go_cut [109] (fun v wx => (∃ b, v = .bool b ∧ (b = false → bare = true → suf = [] ∨ ∃ c r, suf = c :: r ∧ dl c)) ∧ wx = w5)
  case first =>
    cases bare
    case false =>
      go_wp2_with fail
      go_meet
      exact ⟨⟨false, rfl, fun _ e => by cases e⟩, rfl⟩
    case true =>
      by_cases hz : 0 < n4
      · obtain ⟨b, o, rfl, hL, hA, hbw⟩ := Y4b.out.at hz
        have hcell := hA 0 (by omega)
        rw [Nat.add_zero] at hcell
        obtain ⟨x, hx⟩ : ∃ x, x = suf[0]'(by omega) := ⟨_, rfl⟩
        rw [← hx] at hcell
        have HX : Hid (dl x → suf = [] ∨ ∃ c r, suf = c :: r ∧ dl c) := by
          show dl x → _
          intro hdx
          cases suf with
          | nil => exact .inl rfl
          | cons c r => exact .inr ⟨c, r, rfl, by simp at hx; rw [← hx]; exact hdx⟩
        obtain ⟨bd, hbd⟩ : ∃ bd, bd = decide (dl x) := ⟨_, rfl⟩
        have HBD : Hid (bd = decide (dl x)) := hbd
        have cd := delim_walk x w5
        rw [← hbd] at cd
        clear hx hL hA hbd
        go_wp2_with (go_at_call 8; refine cd.mono ?_; rintro e w' ⟨rfl, hw'⟩; obtain rfl := hw'.symm)
        go_meet
        refine ⟨⟨_, rfl, fun e _ => HX.out ?_⟩, rfl⟩
        have hbt : bd = true := by simpa using e
        rw [HBD.out] at hbt
        exact of_decide_eq_true hbt
      · have HX : Hid (suf = []) := by show suf = []; have := HL4.out; exact List.length_eq_zero_iff.1 (by omega)
        go_wp2_with fail
        go_meet
        exact ⟨⟨_, rfl, fun _ _ => .inl HX.out⟩, rfl⟩
  case rest =>
  obtain ⟨⟨b, rfl, hb⟩, hwc⟩ := hcut
  obtain rfl := hwc.symm
  cases b
  case true =>
    go_wp2_with fail
    go_ret
    exact ⟨rfl, B5.out⟩
  case false =>
  have HBA : Hid (bare = true → suf = [] ∨ ∃ c r, suf = c :: r ∧ dl c) := hb rfl
  clear hb
  obtain ⟨i5, hi5, hz50, hz51, hz52⟩ := info_parts Tryd.info5
  have hn0 : n0 ≤ 130000000 := by have := HB.out.sz.o; have := HE.out.2.2.2.1; omega
  have hmk := make0_run (n1 + n0 + n4) (by omega) ((n1 : Int) + (n0 : Int) + (n4 : Int)) (by omega)
  go_upto_region 23 with fail
  go_cut [15] (fun v wx => ∃ a c, v = .slice a 0 c ∧ Data w5 wx v 0 [])
  case first =>
    go_wp2_with fail
    go_meet
    exact ⟨_, _, rfl, made_owns w5 _ (by unfold maxLen; omega), (Below.refl _ _).alloc (Nat.le_refl _) _, rfl⟩
  case rest =>
  obtain ⟨aD, cD, rfl, hD⟩ := hcut
  have HD : Hid (Data w5 wc (.slice aD 0 cD) 0 []) := hD
  have hsrc : Src wc (.slice p1 n1 d1) pre := (Y1e.out.later hD.below).src
  have hown := hD.own
  have x1 : 0 + pre.length ≤ maxLen := by have := HL1.out; unfold maxLen; omega
  have x2 : (0 + pre.length) * 1 ≤ 140737488355328 := by have := HL1.out; omega
  have x3 : w5.heap.size ≤ wc.heap.size := hD.below.size
  clear hD hmk
  go_upto_region 24 with fail
  go_cut [15] (fun v wx => ∃ a c, v = .slice a n1 c ∧ Data w5 wx v n1 pre)
  case first =>
    go_wp2_with (at_builtin; refine wpList_append3 rfl (.tmp 119) (.tmp 120) 22 rfl w5.heap.size 5 i5 (.int .u8 0) Tryd.underlying22 hi5 hz50 hz51 hz52 rfl (.slice aD 0 cD) 0 [] pre rfl hown (.slice p1 n1 d1) rfl hsrc x1 x2 x3 ?_; intro v' w' r1 r2 r3)
    go_meet
    have hm := HD.out.more r1 r2
    rw [Nat.zero_add, ← HL1.out, List.nil_append] at hm
    obtain ⟨a, c, e⟩ := hm.form
    exact ⟨a, c, e, hm⟩
  case rest =>
  clear HD hsrc hown x1 x2 x3
  obtain ⟨aE, cE, rfl, hD⟩ := hcut
  have HD : Hid (Data w5 wc (.slice aE n1 cE) n1 pre) := hD
  have hsrc : Src wc (.slice o0 n0 k0) st.out := by
    have r0 := (HB.out.jb.later (w' := wc) (fun k hk => hD.below.block k hk) hD.below.size).row 0 (by omega)
    rw [HE.out.1] at r0
    have r1 : wc.ownsRow (w4.heap.size + 1) 5 1 (.slice o0 n0 k0) (vb st.out).length (vb st.out) := r0
    rw [vb_len] at r1
    exact ownsRow.src r1
  have hown := hD.own
  have x1 : n1 + st.out.length ≤ maxLen := by have := HE.out.2.2.2.1; unfold maxLen; omega
  have x2 : (n1 + st.out.length) * 1 ≤ 140737488355328 := by have := HE.out.2.2.2.1; omega
  have x3 : w5.heap.size ≤ wc.heap.size := hD.below.size
  clear hD
  go_upto_region 26 with fail
  go_cut [15] (fun v wx => ∃ a c nn, v = .slice a nn c ∧ Data w5 wx v nn (pre ++ st.out))
  case first =>
    go_wp2_with (at_builtin; refine wpList_append3 rfl (.tmp 124) (.tmp 125) 22 rfl w5.heap.size 5 i5 (.int .u8 0) Tryd.underlying22 hi5 hz50 hz51 hz52 rfl (.slice aE n1 cE) n1 pre st.out rfl hown (.slice o0 n0 k0) rfl hsrc x1 x2 x3 ?_; intro v' w' r1 r2 r3)
    go_meet
    have hm := HD.out.more r1 r2
    obtain ⟨a, c, e⟩ := hm.form
    exact ⟨a, c, _, e, hm⟩
  case rest =>
  clear HD hsrc hown x1 x2 x3
  obtain ⟨aF, cF, nF, rfl, hD⟩ := hcut
  have HD : Hid (Data w5 wc (.slice aF nF cF) nF (pre ++ st.out)) := hD
  have hsrc : Src wc (.slice p4 n4 d4) suf := (Y4b.out.later hD.below).src
  have hown := hD.own
  have hnF : nF ≤ 140000000 := by have := HE.out.2.2.2.1; have := HL1.out; rw [hD.len, List.length_append]; omega
  have x1 : nF + suf.length ≤ maxLen := by have := HL4.out; unfold maxLen; omega
  have x2 : (nF + suf.length) * 1 ≤ 140737488355328 := by have := HL4.out; omega
  have x3 : w5.heap.size ≤ wc.heap.size := hD.below.size
  clear hD
  go_upto_region 27 with fail
  go_cut [15] (fun v wx => ∃ a c nn, v = .slice a nn c ∧ Data w5 wx v nn (pre ++ st.out ++ suf))
  case first =>
    go_wp2_with (at_builtin; refine wpList_append3 rfl (.tmp 127) (.tmp 128) 22 rfl w5.heap.size 5 i5 (.int .u8 0) Tryd.underlying22 hi5 hz50 hz51 hz52 rfl (.slice aF nF cF) nF (pre ++ st.out) suf rfl hown (.slice p4 n4 d4) rfl hsrc x1 x2 x3 ?_; intro v' w' r1 r2 r3)
    go_meet
    have hm := HD.out.more r1 r2
    obtain ⟨a, c, e⟩ := hm.form
    exact ⟨a, c, _, e, hm⟩
  case rest =>
  clear HD hsrc hown x1 x2 x3 hnF
  obtain ⟨aG, cG, nG, rfl, hD⟩ := hcut
  have HD : Hid (Data w5 wc (.slice aG nG cG) nG (pre ++ st.out ++ suf)) := hD
  have hnG : nG ≤ 150000000 := by have := HE.out.2.2.2.1; have := HL1.out; have := HL4.out; rw [hD.len]; simp only [List.length_append]; omega
  have HW : Hid (Below w.heap.size w wc) := below2 B5.out hD.below
  have hns : ns ≤ 130000000 := by have := HB.out.sz.s; have := HE.out.2.2.2.2; omega
  clear hD
  go_wp2_with fail
  go_loopw [17] (fun i wr => ∃ k : Nat, k ≤ ns ∧ i = .int .i64 (k : Int) ∧ Below wc.heap.size wc wr) (fun i _ => ns - (intOf i).toNat)
  case atStart => exact ⟨0, Nat.zero_le _, rfl, Below.refl _ _⟩
  case round =>
    obtain ⟨k, hk, rfl, hbr⟩ := hrel
    have HBR : Hid (Below wc.heap.size wc wr) := hbr
    clear hbr
    by_cases hlt : k < ns
    · have hsl := HB.out.same
      have hE := HE.out
      obtain ⟨s, hs⟩ : ∃ s, st.starts[k]? = some s := ⟨_, List.getElem?_eq_getElem (by omega)⟩
      obtain ⟨ev, he⟩ : ∃ e, st.ends[k]? = some e := ⟨_, List.getElem?_eq_getElem (by omega)⟩
      have hdone := HB.out.done k s ev hs he
      have hle : 0 ≤ ev ∧ ev ≤ (st.out.length : Int) := by
        rcases hdone with h | ⟨_, h⟩
        · exact good_le h
        · exact raw_le h
      obtain ⟨n, hen, hve⟩ : ∃ n : Nat, ev = ((s + n : Nat) : Int) ∧ VE 0 ((pre ++ st.out ++ suf).drop (pre.length + s)) n := by
        rcases hdone with h | ⟨hb, h⟩
        · exact h.scan pre suf
        · exact h.scan pre suf (HBA.out hb)
      have hlt2 := VE.lt hve
      have hD := HD.out
      rw [← hD.len] at hlt2
      rw [← HL1.out] at hve hlt2
      have hbw : Below w5.heap.size w5 wr := below2 hD.below HBR.out
      obtain ⟨g, cap, eg, hcap, _, hgl, hcells, _⟩ := row_form hD.own (by omega)
      have ea : aG = some ⟨g, 0, none⟩ := by injection eg
      have ec : cG = cap := by injection eg
      subst ea; subst ec
      have hgw : g < wr.heap.size := Nat.lt_of_lt_of_le hgl HBR.out.size
      have hAt : At wr.drew g 0 (pre ++ st.out ++ suf) := fun j hj => by
        rw [Nat.zero_add]
        exact (HBR.out.cell (p := ⟨g, j, none⟩) hgl).trans (hcells j _ (by simp only [vb, List.getElem?_map]; rw [List.getElem?_eq_getElem hj]; rfl))
      obtain ⟨rv, hrv⟩ : ∃ rv : Int, rv = ((n1 + s + n : Nat) : Int) := ⟨_, rfl⟩
      have cz := zve_walk g cG (n1 + s) n (pre ++ st.out ++ suf) wr.drew hAt hgw (by rw [← hD.len]; omega) (by rw [← hD.len]; exact hcap) hve
      rw [← hrv, ← hD.len, show ((n1 + s : Nat) : Int) = (n1 : Int) + (s : Int) by omega] at cz
      have cz' : Calls Tryd.prog 9 #[.slice (some ⟨g, 0, none⟩) nG cG, .int .i64 ((n1 : Int) + (s : Int))] wr.drew fun e w' => ∃ v, e = .returned v ∧ (v = .int .i64 rv ∧ Below wr.heap.size wr w') := cz.mono (by
        rintro e w' ⟨rfl, h2⟩
        exact ⟨_, rfl, rfl, ((Below.refl _ wr).drew).trans h2⟩)
      have hne : (rv != (n1 : Int) + ev) = false := by rw [hrv, hen]; simp; omega
      have row1 := HB.out.jb.row 1 (by omega)
      have row2 := HB.out.jb.row 2 (by omega)
      rw [hE.2.1] at row1
      rw [hE.2.2.1] at row2
      have hX1 : (X st 1).length = ns := by rw [hE.2.2.2.2]; show (vn st.starts).length = _; simp [vn]
      have hX2 : (X st 2).length = ns := by rw [hE.2.2.2.2, hsl]; show (vi st.ends).length = _; simp [vi]
      rw [hX1] at row1
      rw [hX2] at row2
      obtain ⟨g1, cap1, eg1, _, _, hg1l, hcells1, _⟩ := row_form row1 (by omega)
      obtain ⟨g2, cap2, eg2, _, _, hg2l, hcells2, _⟩ := row_form row2 (by omega)
      have ea1 : o1 = some ⟨g1, 0, none⟩ := by injection eg1
      have ea2 : o2 = some ⟨g2, 0, none⟩ := by injection eg2
      subst ea1; subst ea2
      have hc1 : wr.cell? ⟨g1, k, none⟩ = some (.int .i64 (s : Int)) := (hbw.cell (p := ⟨g1, k, none⟩) hg1l).trans (hcells1 k _ (by show (vn st.starts)[k]? = _; simp [vn, hs]))
      have hc2 : wr.cell? ⟨g2, k, none⟩ = some (.int .i64 ev) := (hbw.cell (p := ⟨g2, k, none⟩) hg2l).trans (hcells2 k _ (by show (vi st.ends)[k]? = _; simp [vi, he]))
      have hg2w : g2 < wr.heap.size := Nat.lt_of_lt_of_le hg2l hbw.size
      have hev0 : 0 ≤ ev := hle.1
      have hev1 : ev ≤ 130000000 := by have := hle.2; omega
      have hs1 : s ≤ 150000000 := by omega
      have hix : (k : Int) < (ns : Int) := by omega
      have hwr : IntKind.i64.wrap ((n1 : Int) + (s : Int)) = (n1 : Int) + (s : Int) := IntWalk.i64_in _ (by omega)
      have hwe : IntKind.i64.wrap ((n1 : Int) + ev) = (n1 : Int) + ev := IntWalk.i64_in _ (by omega)
      clear hsl hE hs he hdone hle hen hve hlt2 hD hbw eg hcap hgl hcells hgw hAt hrv cz row1 row2 hX1 hX2 eg1 hg1l hcells1 eg2 hg2l hcells2
      go_wp2_with fail
      go_region_law (refine step_call rfl 9 enter9 #[.tmp 136, .tmp 142] #[22, 3] rfl #[.slice (some ⟨g, 0, none⟩) nG cG, .int .i64 ((n1 : Int) + (s : Int))] (by simp [Act.eval, Act.put]) cz' ?_; rintro v2 w2 ⟨rfl, b2⟩; have y2 := (b2.cell (p := ⟨g2, k, none⟩) hg2w).trans hc2)
      all_goals
        go_wp2_with fail
        go_roundw
        case measure => simp [intOf]; omega
        case rel => exact ⟨k + 1, by omega, by go_num, below2 HBR.out b2⟩
    · go_wp2_with fail
      go_ret
      exact ⟨rfl, below2 HW.out HBR.out⟩
end Go.Proofs.Qxb6001559aDoor
