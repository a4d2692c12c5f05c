import Derived.Test.Qxb6600738aDoorMore
import Derived.Test.Qxb6600738aDoorExact
/-! THE WALK of FnKeysAddLeavesItsSourceAlone. -/
namespace Go.Proofs.Qxb6600738aDoor
open Go.RowKit

theorem rq_true (r n : Nat) : rq true r n = orb r n := if_pos rfl
theorem rq_false (r n : Nat) : rq false r n = r := if_neg (by simp)
theorem ss_one (w : World) (x : ByteArray) : Ss (w.alloc (.cells #[.string x] 9)) (.slice (some ⟨w.heap.size, 0, none⟩) 1 1) [x] := by
  refine .inr (.inr ⟨w.heap.size, 0, 1, rfl, by simp, by simp, by unfold maxLen; omega, ?_, by simp⟩)
  intro j hj
  have : j = 0 := by simpa using hj
  subst this
  go_simp

/-- What lies in the law's world once the three Keys are built. -/
structure Bund (w0 w : World) (a2 a3 : Option Addr) (n c2 c3 g1 c1 g2 d1 : Nat) (L : List ByteArray) (x y : ByteArray) (g3 j1 j2 : Nat) (r r1 r2 : Int) : Prop where
  v : Ss w (.slice a3 n c3) L
  m : Ss w (.slice a2 n c2) L
  p : Ss w (.slice (some ⟨g1, 0, none⟩) (n + 1) c1) (L ++ [x])
  q : Ss w (.slice (some ⟨g2, 0, none⟩) (n + 1) d1) (L ++ [y])
  b : Below w0.heap.size w0 w
  K : Kat w g3 (.slice a3 n c3) r 0
  J : Kat w j1 (.slice (some ⟨g1, 0, none⟩) (n + 1) c1) r1 0
  I : Kat w j2 (.slice (some ⟨g2, 0, none⟩) (n + 1) d1) r2 0
theorem Bund.later {w0 w w' : World} {a2 a3 : Option Addr} {n c2 c3 g1 c1 g2 d1 : Nat} {L : List ByteArray} {x y : ByteArray} {g3 j1 j2 : Nat} {r r1 r2 : Int}
    (h : Bund w0 w a2 a3 n c2 c3 g1 c1 g2 d1 L x y g3 j1 j2 r r1 r2) (hb : Below w.heap.size w w') : Bund w0 w' a2 a3 n c2 c3 g1 c1 g2 d1 L x y g3 j1 j2 r r1 r2 :=
  ⟨h.v.later hb, h.m.later hb, h.p.later hb, h.q.later hb, below2 h.b hb, h.K.later hb, h.J.later hb, h.I.later hb⟩

set_option maxHeartbeats 2000000 in
set_option maxRecDepth 100000 in
theorem leaves_main (ao : Option Addr) (n c : Nat) (req : Nat) (x y : ByteArray) (rx ry : Bool) (L : List ByteArray) (w : World) (h : Ss w (.slice ao n c) L) (hn : n ≤ maxLen) (hx : x.size ≤ maxLen) (hy : y.size ≤ maxLen) (hr : req < 18446744073709551616) :
    Calls Tryd.prog 4 #[.slice ao n c, .int .u64 (req : Int), .string x, .bool rx, .string y, .bool ry] w fun e w' => e = .returned (.bool true) ∧ Below w.heap.size w w' := by
  have c19 := bytes19_walk ao n c req x y rx ry L w h hn hx hy
  have c10 := addStrings_walk 0 ao n c L w h hn (by omega) (by omega)
  have HR : Hid (req < 18446744073709551616) := hr
  clear hr
  unfold maxLen at hn
  go_enter Tryd.func4, Tryd.ntmps4
  go_wp2_with fail
  refine c19.mono ?_
  rintro e w' ⟨⟨b9, rfl⟩, hw'⟩
  obtain rfl := hw'.symm
  cases b9 with
  | false =>
    go_wp2_with fail
    go_ret
    exact ⟨rfl, Below.refl _ _⟩
  | true =>
  go_wp2_with fail
  refine c10.mono ?_
  rintro e w' ⟨⟨t, rfl, ht1, ht2⟩, hw'⟩
  obtain rfl := hw'.symm
  clear c19 c10
  go_wp2_with fail
  refine (addString_walk t x w ht1 ht2).mono ?_
  rintro e w' ⟨⟨t2, rfl, ht3, ht4⟩, hw'⟩
  obtain rfl := hw'.symm
  go_wp2_with fail
  refine (addString_walk t2 y w ht3 ht4).mono ?_
  rintro e w' ⟨⟨t3, rfl, ht5, ht6⟩, hw'⟩
  obtain rfl := hw'.symm
  clear ht1 ht2 ht3 ht4
  by_cases htn : t3 < 0
  · go_wp2_with fail
    go_ret
    exact ⟨rfl, Below.refl _ _⟩
  by_cases hbig : 63 < n
  · go_wp2_with fail
    go_ret
    exact ⟨rfl, Below.refl _ _⟩
  have c11 := distinct_walk ao n c L w h (by omega)
  by_cases hnd : L.Nodup
  · have HD : Hid L.Nodup := hnd
    have HL : Hid (n = L.length) := h.len
    rw [decide_eq_true hnd] at c11
    clear hnd
    go_wp2_with fail
    refine c11.mono ?_
    rintro e w1 ⟨rfl, q, rfl⟩
    have h1 := h.drawn q
    have hb1 : Below w.heap.size w (w.drewN q) := below_drewN (Below.refl _ _) q
    generalize w.drewN q = w1 at h1 hb1 ⊢
    clear c11 h
    by_cases hmx : x ∈ L
    · have c21 := contains_walk ao n c x L w1 h1 (by omega)
      rw [memb_yes hmx] at c21
      clear hmx
      go_wp2_with fail
      refine c21.mono ?_
      rintro e w' ⟨rfl, hw'⟩
      obtain rfl := hw'.symm
      go_wp2_with fail
      go_ret
      exact ⟨rfl, hb1⟩
    have c21 := contains_walk ao n c x L w1 h1 (by omega)
    rw [memb_no hmx] at c21
    have HX : Hid (x ∉ L) := hmx
    clear hmx
    go_wp2_with fail
    refine c21.mono ?_
    rintro e w' ⟨rfl, hw'⟩
    obtain rfl := hw'.symm
    clear c21
    by_cases hmy : y ∈ L
    · have c21 := contains_walk ao n c y L w1 h1 (by omega)
      rw [memb_yes hmy] at c21
      clear hmy
      go_wp2_with fail
      refine c21.mono ?_
      rintro e w' ⟨rfl, hw'⟩
      obtain rfl := hw'.symm
      go_wp2_with fail
      go_ret
      exact ⟨rfl, hb1⟩
    have c21 := contains_walk ao n c y L w1 h1 (by omega)
    rw [memb_no hmy] at c21
    have HY : Hid (y ∉ L) := hmy
    clear hmy
    go_wp2_with fail
    refine c21.mono ?_
    rintro e w' ⟨rfl, hw'⟩
    obtain rfl := hw'.symm
    clear c21
    go_wp2_with fail
    refine (clone_walk ao n c L _ h1 (by omega)).mono ?_
    rintro e w2 ⟨⟨v2, rfl, hv2⟩, hb2⟩
    obtain ⟨a2, c2, rfl, _⟩ := hv2.form
    rw [← HL.out] at hv2 ⊢
    have hb02 := below2 hb1 hb2
    clear h1 hb1 hb2
    go_wp2_with fail
    refine (build_walk a2 n c2 req L _ hv2 (by omega) HD.out HR.out).mono ?_
    rintro e w3 ⟨⟨a3, c3, rfl, hv3⟩, hb3⟩
    have hn3 := hv2.later hb3
    have hb03 := below2 hb02 hb3
    clear hv2 hb3 hb02
    have hK : Kat (w3.alloc (.cells #[.slice a3 n c3, .int .u64 (low req n), .int .u64 0] 29)) w3.heap.size (.slice a3 n c3) (low req n) 0 := kat_new _ _ _ _
    have hsl : ∃ x y z, (.slice a3 n c3 : Value) = .slice x y z := ⟨_, _, _, rfl⟩
    have hlow : low req n < 18446744073709551616 := low_64lt (by omega)
    have hn64 : n < 64 := by omega
    go_wp2_with fail
    have hal : Below w3.heap.size w3 (w3.alloc (.cells #[.slice a3 n c3, .int .u64 (low req n), .int .u64 0] 29)) := (Below.refl _ _).alloc (Nat.le_refl _) _
    have hv4 := hv3.later hal
    have hn4 := hn3.later hal
    have hb04 := below2 hb03 hal
    generalize w3.alloc (.cells #[.slice a3 n c3, .int .u64 (low req n), .int .u64 0] 29) = w4 at hK hv4 hn4 hb04 ⊢
    generalize w3.heap.size = g3 at hK ⊢
    clear hal hv3 hn3 hb03 w3
    refine (zzadd_walk a3 n c3 (low req n) 0 (rq rx (low req n) n) L x rx _ fun wx hbx => add_walk a3 n c3 (low req n) 0 L x rx wx (hv4.later hbx) hn64 HX.out hlow).mono ?_
    rintro e w5 ⟨⟨g1, c1, rfl, hg1, hs1⟩, hb5⟩
    have hK5 := hK.later hb5
    have hv5 := hv4.later hb5
    have hn5 := hn4.later hb5
    have hb05 := below2 hb04 hb5
    clear hK hv4 hn4 hb04 hb5 hg1
    obtain ⟨k0, k1, k2, hkl⟩ := hK5
    go_wp2_with fail
    have hJ : Kat (w5.alloc (.cells #[.slice (some ⟨g1, 0, none⟩) (n + 1) c1, .int .u64 (rq rx (low req n) n), .int .u64 0] 29)) w5.heap.size (.slice (some ⟨g1, 0, none⟩) (n + 1) c1) (rq rx (low req n) n) 0 := kat_new _ _ _ _
    have hal : Below w5.heap.size w5 (w5.alloc (.cells #[.slice (some ⟨g1, 0, none⟩) (n + 1) c1, .int .u64 (rq rx (low req n) n), .int .u64 0] 29)) := (Below.refl _ _).alloc (Nat.le_refl _) _
    have hs6 := hs1.later hal
    have hv6 := hv5.later hal
    have hn6 := hn5.later hal
    have hb06 := below2 hb05 hal
    have hK6 := Kat.later ⟨k0, k1, k2, hkl⟩ hal
    generalize w5.alloc (.cells #[.slice (some ⟨g1, 0, none⟩) (n + 1) c1, .int .u64 (rq rx (low req n) n), .int .u64 0] 29) = w6 at hJ hs6 hv6 hn6 hb06 hK6 ⊢
    generalize w5.heap.size = j1 at hJ ⊢
    clear k0 k1 k2 hkl hal hs1 hv5 hn5 hb05 w5
    refine (zzadd_walk a3 n c3 (low req n) 0 (rq ry (low req n) n) L y ry _ fun wx hbx => add_walk a3 n c3 (low req n) 0 L y ry wx (hv6.later hbx) hn64 HY.out hlow).mono ?_
    rintro e w7 ⟨⟨g2, d1, rfl, hg2, hs7⟩, hb7⟩
    have hK7 := hK6.later hb7
    have hJ7 := hJ.later hb7
    have hv7 := hv6.later hb7
    have hn7 := hn6.later hb7
    have hr7 := hs6.later hb7
    have hb07 := below2 hb06 hb7
    clear hK6 hJ hv6 hn6 hs6 hb06 hb7 hg2
    have hI : Kat (w7.alloc (.cells #[.slice (some ⟨g2, 0, none⟩) (n + 1) d1, .int .u64 (rq ry (low req n) n), .int .u64 0] 29)) w7.heap.size (.slice (some ⟨g2, 0, none⟩) (n + 1) d1) (rq ry (low req n) n) 0 := kat_new _ _ _ _
    have hal : Below w7.heap.size w7 (w7.alloc (.cells #[.slice (some ⟨g2, 0, none⟩) (n + 1) d1, .int .u64 (rq ry (low req n) n), .int .u64 0] 29)) := (Below.refl _ _).alloc (Nat.le_refl _) _
    go_wp2_with fail
    have hq8 := hs7.later hal
    have hv8 := hv7.later hal
    have hn8 := hn7.later hal
    have hr8 := hr7.later hal
    have hb08 := below2 hb07 hal
    have hK8 := hK7.later hal
    have hJ8 := hJ7.later hal
    generalize w7.alloc (.cells #[.slice (some ⟨g2, 0, none⟩) (n + 1) d1, .int .u64 (rq ry (low req n) n), .int .u64 0] 29) = w8 at hI hq8 hv8 hn8 hr8 hb08 hK8 hJ8 ⊢
    generalize w7.heap.size = j2 at hI ⊢
    clear hal hs7 hv7 hn7 hr7 hb07 hK7 hJ7 w7
    refine (mask_walk n (by omega) _).mono ?_
    rintro e w' ⟨rfl, hw'⟩
    obtain rfl := hw'.symm
    have hand := and_mask (r := req) (n := n) HR.out (by omega)
    have hor := or_bit (r := low req n) (n := n) hlow hn64
    have B8 : Bund w w8 a2 a3 n c2 c3 g1 c1 g2 d1 L x y g3 j1 j2 (low req n) (rq rx (low req n) n) (rq ry (low req n) n) := ⟨hv8, hn8, hr8, hq8, hb08, hK8, hJ8, hI⟩
    clear hv8 hn8 hr8 hq8 hb08 hK8 hJ8 hI
    have hdx : decide (L ++ [x] = L ++ [x]) = true := decide_eq_true rfl
    have hdy : decide (L ++ [y] = L ++ [y]) = true := decide_eq_true rfl
    have hdl : decide (L = L) = true := decide_eq_true rfl
    cases rx <;> cases ry <;> simp only [rq_true, rq_false] at B8
    all_goals
      obtain ⟨k0, k1, k2, _⟩ := B8.K
      go_wp2_with fail
      refine (names_walk (.slice a3 n c3) hsl (low req n) 0 _).mono ?_
      rintro e w9 ⟨rfl, hb9⟩
      have B9 := B8.later hb9
      clear B8 hb9 k0 k1 k2
      obtain ⟨k0, k1, k2, _⟩ := B9.K
      go_wp2_with fail
      refine (same_walk a3 a2 n n c3 c2 L L _ B9.v B9.m (by omega) (by omega)).mono ?_
      rintro e w5 ⟨rfl, q5, rfl⟩
      have BA := B9.later (below_drewN (Below.refl _ _) q5)
      generalize w9.drewN q5 = wa at BA ⊢
      clear k0 k1 k2 B9
      obtain ⟨k0, k1, k2, _⟩ := BA.K
      go_wp2_with fail
      refine (required_walk (.slice a3 n c3) hsl (low req n) 0 _).mono ?_
      rintro e wb ⟨rfl, hb⟩
      have BB := BA.later hb
      clear k0 k1 k2 BA hb
      obtain ⟨k0, k1, k2, _⟩ := BB.K
      go_wp2_with fail
      refine (oneOf_walk (.slice a3 n c3) hsl (low req n) 0 _).mono ?_
      rintro e wc ⟨rfl, hb⟩
      have BC := BB.later hb
      clear k0 k1 k2 BB hb
      obtain ⟨k0, k1, k2, _⟩ := BC.J
      go_wp2_with fail
      refine (names_walk (.slice (some ⟨g1, 0, none⟩) (n + 1) c1) ⟨_, _, _, rfl⟩ _ 0 _).mono ?_
      rintro e wd ⟨rfl, hb⟩
      have BD := BC.later hb
      clear k0 k1 k2 BC hb
      go_wp2_with fail
      have hal : Below wd.heap.size wd (wd.alloc (.cells #[.string x] 9)) := (Below.refl _ _).alloc (Nat.le_refl _) _
      have BE := BD.later hal
      have hone := ss_one wd x
      refine (concat_walk a2 (some ⟨wd.heap.size, 0, none⟩) n 1 c2 1 L [x] _ BE.m hone (by omega) (by omega)).mono ?_
      rintro e wf ⟨rfl, hcat, hb⟩
      have BF := BE.later hb
      clear BD BE hb hal hone
      generalize (wd.alloc (.cells #[.string x] 9)).heap.size = gg at hcat ⊢
      go_wp2_with fail
      refine (same_walk (some ⟨g1, 0, none⟩) (some ⟨gg, 0, none⟩) (n + 1) (n + 1) c1 (n + 1) (L ++ [x]) (L ++ [x]) _ BF.p hcat (by omega) (by omega)).mono ?_
      rintro e w5 ⟨rfl, q6, rfl⟩
      have BG := BF.later (below_drewN (Below.refl _ _) q6)
      generalize wf.drewN q6 = wg at BG ⊢
      clear BF hcat
      obtain ⟨k0, k1, k2, _⟩ := BG.J
      go_wp2_with fail
      refine (required_walk (.slice (some ⟨g1, 0, none⟩) (n + 1) c1) ⟨_, _, _, rfl⟩ _ 0 _).mono ?_
      rintro e wh ⟨rfl, hb⟩
      have BH := BG.later hb
      clear k0 k1 k2 BG hb
      obtain ⟨k0, k1, k2, _⟩ := BH.J
      go_wp2_with fail
      refine (oneOf_walk (.slice (some ⟨g1, 0, none⟩) (n + 1) c1) ⟨_, _, _, rfl⟩ _ 0 _).mono ?_
      rintro e wi ⟨rfl, hb⟩
      have BI := BH.later hb
      clear k0 k1 k2 BH hb
      obtain ⟨k0, k1, k2, _⟩ := BI.I
      go_wp2_with fail
      refine (names_walk (.slice (some ⟨g2, 0, none⟩) (n + 1) d1) ⟨_, _, _, rfl⟩ _ 0 _).mono ?_
      rintro e wd ⟨rfl, hb⟩
      have BD := BI.later hb
      clear k0 k1 k2 BI hb
      go_wp2_with fail
      have hal : Below wd.heap.size wd (wd.alloc (.cells #[.string y] 9)) := (Below.refl _ _).alloc (Nat.le_refl _) _
      have BE := BD.later hal
      have hone := ss_one wd y
      refine (concat_walk a2 (some ⟨wd.heap.size, 0, none⟩) n 1 c2 1 L [y] _ BE.m hone (by omega) (by omega)).mono ?_
      rintro e wf ⟨rfl, hcat, hb⟩
      have BF := BE.later hb
      clear BD BE hb hal hone
      generalize (wd.alloc (.cells #[.string y] 9)).heap.size = gg at hcat ⊢
      go_wp2_with fail
      refine (same_walk (some ⟨g2, 0, none⟩) (some ⟨gg, 0, none⟩) (n + 1) (n + 1) d1 (n + 1) (L ++ [y]) (L ++ [y]) _ BF.q hcat (by omega) (by omega)).mono ?_
      rintro e w5 ⟨rfl, q7, rfl⟩
      have BG := BF.later (below_drewN (Below.refl _ _) q7)
      generalize wf.drewN q7 = wg at BG ⊢
      clear BF hcat
      obtain ⟨k0, k1, k2, _⟩ := BG.I
      go_wp2_with fail
      refine (required_walk (.slice (some ⟨g2, 0, none⟩) (n + 1) d1) ⟨_, _, _, rfl⟩ _ 0 _).mono ?_
      rintro e wh ⟨rfl, hb⟩
      have BH := BG.later hb
      clear k0 k1 k2 BG hb
      obtain ⟨k0, k1, k2, _⟩ := BH.I
      go_wp2_with fail
      refine (oneOf_walk (.slice (some ⟨g2, 0, none⟩) (n + 1) d1) ⟨_, _, _, rfl⟩ _ 0 _).mono ?_
      rintro e wi ⟨rfl, hb⟩
      have BI := BH.later hb
      clear k0 k1 k2 BH hb
      go_wp2_with fail
      go_ret
      exact ⟨rfl, BI.b⟩
  · rw [decide_eq_false hnd] at c11
    go_wp2_with fail
    refine c11.mono ?_
    rintro e w1 ⟨rfl, q, rfl⟩
    go_wp2_with fail
    go_ret
    exact ⟨rfl, below_drewN (Below.refl _ _) q⟩
end Go.Proofs.Qxb6600738aDoor
