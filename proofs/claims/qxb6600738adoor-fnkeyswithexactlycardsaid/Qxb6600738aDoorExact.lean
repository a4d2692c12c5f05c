import Derived.Test.Qxb6600738aDoorBuild
/-! THE WALK of FnKeysAddBuildsExactly. -/
namespace Go.Proofs.Qxb6600738aDoor
open Go.RowKit

/-- A Keys lies in block g. -/
def Kat (w : World) (g : Nat) (v : Value) (r o : Int) : Prop :=
  w.cell? ⟨g, 0, none⟩ = some v ∧ w.cell? ⟨g, 1, none⟩ = some (.int .u64 r) ∧ w.cell? ⟨g, 2, none⟩ = some (.int .u64 o) ∧ g < w.heap.size
theorem Kat.later {w w' : World} {g : Nat} {v : Value} {r o : Int} (h : Kat w g v r o) (hb : Below w.heap.size w w') : Kat w' g v r o := by
  obtain ⟨k0, k1, k2, hl⟩ := h
  exact ⟨(hb.cell (by exact hl)).trans k0, (hb.cell (by exact hl)).trans k1, (hb.cell (by exact hl)).trans k2, Nat.lt_of_lt_of_le hl hb.size⟩
theorem kat_new (w : World) (v : Value) (r o : Int) : Kat (w.alloc (.cells #[v, .int .u64 r, .int .u64 o] 29)) w.heap.size v r o :=
  ⟨by go_simp, by go_simp, by go_simp, by simp⟩

set_option maxHeartbeats 1000000 in
set_option maxRecDepth 100000 in
theorem exact_main (ao : Option Addr) (n c : Nat) (req : Nat) (L : List ByteArray) (w : World) (h : Ss w (.slice ao n c) L) (hn : n ≤ maxLen) (hr : req < 18446744073709551616) :
    Calls Tryd.prog 3 #[.slice ao n c, .int .u64 (req : Int)] w fun e w' => e = .returned (.bool true) ∧ Below w.heap.size w w' := by
  have c9 := bytes9_walk ao n c req L w h hn
  have c10 := addStrings_walk 0 ao n c L w h hn (by omega) (by omega)
  have HR : Hid (req < 18446744073709551616) := hr
  clear hr
  unfold maxLen at hn
  go_enter Tryd.func3, Tryd.ntmps3
  go_wp2_with fail
  refine c9.mono ?_
  rintro e w' ⟨⟨b9, rfl⟩, hw'⟩
  obtain rfl := hw'.symm
  cases b9 with
  | false =>
    go_wp2_with fail
    go_ret
    exact ⟨rfl, Below.refl _ _⟩
  | true =>
  go_wp2_with fail
  refine c10.mono ?_
  rintro e w' ⟨⟨t, rfl, ht1, ht2⟩, hw'⟩
  obtain rfl := hw'.symm
  clear c9 c10
  by_cases htn : t < 0
  · go_wp2_with fail
    go_ret
    exact ⟨rfl, Below.refl _ _⟩
  by_cases hbig : 64 < n
  · go_wp2_with fail
    go_ret
    exact ⟨rfl, Below.refl _ _⟩
  have c11 := distinct_walk ao n c L w h (by omega)
  by_cases hnd : L.Nodup
  · have HD : Hid L.Nodup := hnd
    have HL : Hid (n = L.length) := h.len
    rw [decide_eq_true hnd] at c11
    clear hnd
    go_wp2_with fail
    refine c11.mono ?_
    rintro e w1 ⟨rfl, q, rfl⟩
    go_wp2_with fail
    refine (clone_walk ao n c L _ (h.drawn q) (by omega)).mono ?_
    rintro e w2 ⟨⟨v2, rfl, hv2⟩, hb2⟩
    obtain ⟨a2, c2, rfl, _⟩ := hv2.form
    rw [← HL.out] at hv2 ⊢
    go_wp2_with fail
    refine (build_walk a2 n c2 req L _ hv2 (by omega) HD.out HR.out).mono ?_
    rintro e w3 ⟨⟨a3, c3, rfl, hv3⟩, hb3⟩
    have hK : Kat (w3.alloc (.cells #[.slice a3 n c3, .int .u64 (low req n), .int .u64 0] 29)) w3.heap.size (.slice a3 n c3) (low req n) 0 := kat_new _ _ _ _
    have hsl : ∃ x y z, (.slice a3 n c3 : Value) = .slice x y z := ⟨_, _, _, rfl⟩
    go_wp2_with fail
    refine (names_walk (.slice a3 n c3) hsl (low req n) 0 _).mono ?_
    rintro e w4 ⟨rfl, hb4⟩
    have hb34 : Below w3.heap.size w3 w4 := below2 ((Below.refl _ _).alloc (Nat.le_refl _) _) hb4
    have hK4 := hK.later hb4
    have hv4 := hv3.later hb34
    have hn4 := (hv2.later hb3).later hb34
    clear hK hb4
    obtain ⟨k0, k1, k2, hkl⟩ := hK4
    go_wp2_with fail
    refine (same_walk a3 a2 n n c3 c2 L L _ hv4 hn4 (by omega) (by omega)).mono ?_
    rintro e w5 ⟨rfl, q5, rfl⟩
    have hdt : decide (L = L) = true := decide_eq_true rfl
    go_wp2_with fail
    refine (required_walk (.slice a3 n c3) hsl (low req n) 0 _).mono ?_
    rintro e w6 ⟨rfl, hb6⟩
    have hK6 : Kat w6 w3.heap.size (.slice a3 n c3) (low req n) 0 := Kat.later ⟨k0, k1, k2, hkl⟩ (below2 (below_drewN (Below.refl _ _) q5) hb6)
    clear k0 k1 k2 hkl
    obtain ⟨k0, k1, k2, hkl⟩ := hK6
    have hand := and_mask (r := req) (n := n) HR.out (by omega)
    go_wp2_with fail
    refine (mask_walk n (by omega) _).mono ?_
    rintro e w' ⟨rfl, hw'⟩
    obtain rfl := hw'.symm
    go_wp2_with fail
    refine (oneOf_walk (.slice a3 n c3) hsl (low req n) 0 _).mono ?_
    rintro e w7 ⟨rfl, hb7⟩
    go_wp2_with fail
    go_ret
    refine ⟨rfl, ?_⟩
    exact below2 (below2 (below_drewN (below2 (below2 (below2 (below_drewN (Below.refl _ _) q) hb2) hb3) hb34) q5) hb6) hb7
  · rw [decide_eq_false hnd] at c11
    go_wp2_with fail
    refine c11.mono ?_
    rintro e w1 ⟨rfl, q, rfl⟩
    go_wp2_with fail
    go_ret
    exact ⟨rfl, below_drewN (Below.refl _ _) q⟩
end Go.Proofs.Qxb6600738aDoor
