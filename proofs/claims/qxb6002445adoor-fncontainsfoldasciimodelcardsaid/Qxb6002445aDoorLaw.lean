import Derived.Test.Qxb6002445aDoorClone
import Derived.Deep.RegionWith
/-! THE WALK of FnContainsFoldASCIIModel, out of the contracts. -/
namespace Go.Proofs.Qxb6002445aDoor
open Go.RowKit

set_option maxHeartbeats 400000 in
theorem equal_none (a1 a2 : Option Addr) (c1 c2 : Nat) (w : World) :
    Calls Tryd.prog 10 #[.slice a1 0 c1, .slice a2 0 c2] w fun e w' => e = .returned (.bool true) ∧ ∃ q, w' = w.drewN q := by
  go_enter Tryd.func10, Tryd.ntmps10
  go_wp2
  go_loop [5] (fun i => i = .int .i64 0) (fun _ => 0)
  case atStart => rfl
  case round =>
    obtain rfl := hrel
    go_wp2
    go_ret
    exact ⟨rfl, 0, rfl⟩

theorem equal_any (v u : Value) (x y : List UInt8) (w : World) (hx : Bs w v x) (hy : Bs w u y) (hl : x.length = y.length) (hn : y.length ≤ 4096) :
    Calls Tryd.prog 10 #[v, u] w fun e w' => e = .returned (.bool (x == y)) ∧ ∃ q, w' = w.drewN q := by
  by_cases h0 : y.length = 0
  · obtain ⟨ao, c, rfl, _⟩ := hx.form
    obtain ⟨ao2, c2, rfl, _⟩ := hy.form
    have ex : x = [] := List.length_eq_zero_iff.1 (by omega)
    have ey : y = [] := List.length_eq_zero_iff.1 h0
    subst ex; subst ey
    exact equal_none ao ao2 c c2 w
  · obtain ⟨b, o, c, rfl, _, hA⟩ := hx.pos (by omega)
    obtain ⟨b2, o2, c2, rfl, _, hB⟩ := hy.pos (by omega)
    exact equal_walk b o c b2 o2 c2 x y w (by omega) hl hA hB

theorem ascii_all {x : List UInt8} (h : asciiB x = true) : ∀ b ∈ x, b.toNat < 128 := by
  intro b hb
  exact of_decide_eq_true (List.all_eq_true.1 h b hb)
theorem Bs.formMap {w : World} {v : Value} {x : List UInt8} {f : UInt8 → UInt8} (h : Bs w v (x.map f)) : ∃ ao c, v = .slice ao x.length c ∧ x.length ≤ c := by
  obtain ⟨ao, c, rfl, hc⟩ := h.form
  rw [List.length_map] at *
  exact ⟨ao, c, rfl, hc⟩
theorem below2 {B : Nat} {w w1 w2 : World} (h : Below B w w1) (h2 : Below w1.heap.size w1 w2) (hB : B ≤ w.heap.size := by simp) : Below B w w2 :=
  h.trans (h2.mono (Nat.le_trans hB h.size))

theorem Bs.drawn {w : World} {v : Value} {x : List UInt8} (h : Bs w v x) (q : Nat) : Bs (w.drewN q) v x := h.later (below_drewN (Below.refl _ _) q)
theorem ascii_upper {x : List UInt8} (h : asciiB x = true) : asciiB (x.map Plain.upper) = true := by
  unfold asciiB at *
  rw [List.all_map, List.all_eq_true] at *
  exact fun b hb => decide_eq_true (Plain.upper_ascii b (of_decide_eq_true (h b hb)))
theorem ascii_lower {x : List UInt8} (h : asciiB x = true) : asciiB (x.map Plain.lower) = true := by
  unfold asciiB at *
  rw [List.all_map, List.all_eq_true] at *
  exact fun b hb => decide_eq_true (Plain.lower_ascii b (of_decide_eq_true (h b hb)))

theorem part_end {w : World} {al : Option Addr} {cl m : Nat} {x y : List UInt8} (hx : x.length ≤ cl) (h0 : m = 0) : Bs w (.slice al m 0) (((x.map Plain.lower).drop cl).take (y.map Plain.lower).length) := by
  rw [List.drop_eq_nil_of_le (by rw [List.length_map]; exact hx), List.take_nil]
  subst h0
  cases al with
  | none => exact .inl ⟨rfl, rfl⟩
  | some a => exact .inr (.inl ⟨a, 0, rfl, rfl⟩)
theorem part_in {w : World} {al : Option Addr} {cl k : Nat} {x y : List UInt8} (h : Bs w (.slice al x.length cl) (x.map Plain.lower)) (hin : k + y.length ≤ x.length) (hck : ¬ cl = k) :
    Bs w (.slice (al.map (fun x => x.add k)) y.length (cl - k)) (((x.map Plain.lower).drop k).take (y.map Plain.lower).length) := by
  have hl : (((x.map Plain.lower).drop k).take (y.map Plain.lower).length).length = y.length := by
    rw [List.length_take, List.length_drop, List.length_map, List.length_map]; omega
  rcases h with ⟨h, h2⟩ | ⟨a, c, h, h2⟩ | ⟨b, o, c, h, h1, h2, h3, hA, h4⟩
  · injection h with e1 e2 e3
    omega
  · injection h with e1 e2 e3
    subst e1
    have hy : y.length = 0 := by omega
    have : ((x.map Plain.lower).drop k).take (y.map Plain.lower).length = [] := List.length_eq_zero_iff.1 (by rw [hl]; exact hy)
    rw [this, hy]
    exact .inr (.inl ⟨_, _, rfl, rfl⟩)
  · injection h with e1 e2 e3
    subst e1
    subst e3
    rw [List.length_map] at h2
    by_cases hy : y.length = 0
    · have : ((x.map Plain.lower).drop k).take (y.map Plain.lower).length = [] := List.length_eq_zero_iff.1 (by rw [hl]; exact hy)
      rw [this, hy]
      exact .inr (.inl ⟨_, _, rfl, rfl⟩)
    · refine .inr (.inr ⟨b, o + k, cl - k, ?_, by rw [hl]; omega, by rw [hl]; omega, by omega, hA.part k _, h4⟩)
      rw [hl, Option.map_some, WideShapes.add_plain]

set_option maxHeartbeats 1000000 in
theorem law_main (ao am : Option Addr) (c d : Nat) (x y : List UInt8) (w : World) (hx : Bs w (.slice ao x.length c) x) (hy : Bs w (.slice am y.length d) y) (nx : x.length ≤ 4096) (ny : y.length ≤ 4096)
    (ax : asciiB x = true) (ay : asciiB y = true) :
    Calls Tryd.prog 3 #[.slice ao x.length c, .slice am y.length d] w fun e w' => e = .returned (.bool true) ∧ Below w.heap.size w w' := by
  have cax := ascii_walk _ x w hx nx
  have cay := ascii_walk _ y w hy ny
  rw [ax] at cax
  rw [ay] at cay
  have cx := clone_walk _ x w hx nx
  have cy : ∀ w1, Below w.heap.size w w1 → Calls Tryd.prog 7 #[.slice am y.length d] w1 fun e w' => ∃ v', e = .returned v' ∧ Bs w' v' y ∧ Below w1.heap.size w1 w' := fun w1 h => clone_walk _ y w1 (hy.later h) ny
  clear hx hy
  obtain ⟨G, hG⟩ : ∃ G, G = Plain.F (x.map Plain.lower) (y.map Plain.lower) := ⟨_, rfl⟩
  have hcont : ∀ (v u : Value) (x' y' : List UInt8) (wx : World), Bs wx v x' → Bs wx u y' → x'.map Plain.lower = x.map Plain.lower → y'.map Plain.lower = y.map Plain.lower → x'.length ≤ 4096 → y'.length ≤ 4096 → asciiB x' = true → asciiB y' = true →
      Calls Tryd.prog 8 #[v, u] wx fun e w' => e = .returned (.bool G) ∧ w' = wx := fun v u x' y' wx h1 h2 e1 e2 n1 n2 a1 a2 => by
    have := zzcont_walk v u x' y' wx h1 h2 n1 n2 (ascii_all a1) (ascii_all a2)
    rw [e1, e2, ← hG] at this
    exact this
  have HG : Hid (G = Plain.F (x.map Plain.lower) (y.map Plain.lower)) := hG
  clear hG
  have HC : Hid (∀ (v u : Value) (x' y' : List UInt8) (wx : World), Bs wx v x' → Bs wx u y' → x'.map Plain.lower = x.map Plain.lower → y'.map Plain.lower = y.map Plain.lower → x'.length ≤ 4096 → y'.length ≤ 4096 → asciiB x' = true → asciiB y' = true →
      Calls Tryd.prog 8 #[v, u] wx fun e w' => e = .returned (.bool G) ∧ w' = wx) := hcont
  clear hcont
  go_enter Tryd.func3, Tryd.ntmps3
  go_wp2_with (first
    | (go_at_call_of 6 (Value.slice ao x.length c); refine cax.mono ?_; rintro e w' ⟨rfl, hw'⟩; obtain rfl := hw'.symm)
    | (go_at_call_of 6 (Value.slice am y.length d); refine cay.mono ?_; rintro e w' ⟨rfl, hw'⟩; obtain rfl := hw'.symm)
    | (go_at_call_of 7 (Value.slice ao x.length c); refine cx.mono ?_; rintro e w1 ⟨b1, rfl, hb1, hB1⟩)
    | (go_at_call_of 7 (Value.slice am y.length d); refine (cy _ hB1).mono ?_; rintro e w2 ⟨m1, rfl, hm1, hB2⟩)
    | (go_at_call 5; go_in))
  have hb2 := hb1.later hB2
  refine (HC.out b1 m1 x y _ hb2 hm1 rfl rfl nx ny ax ay).mono ?_
  rintro e w' ⟨rfl, hw'⟩
  obtain rfl := hw'.symm
  go_wp2_with fail
  refine (mapLower_walk b1 x _ hb2 nx).mono ?_
  rintro e w3 ⟨lb, rfl, hlb, hB3⟩
  obtain ⟨al, cl, rfl, hcl⟩ := hlb.formMap
  go_wp2_with fail
  refine (mapLower_walk m1 y _ (hm1.later hB3) ny).mono ?_
  rintro e w4 ⟨lm, rfl, hlm, hB4⟩
  obtain ⟨ak, ck, rfl, hck⟩ := hlm.formMap
  have hlb4 := hlb.later hB4
  have hb4 := (hb2.later hB3).later hB4
  have hm4 := (hm1.later hB3).later hB4
  have hall : Below w.heap.size w w4 := below2 (below2 (below2 hB1 hB2) hB3) hB4
  clear hb1 hm1 hb2 hlb hB1 hB2 hB3 hB4 cax cay cx cy
  go_wp2_with fail
  go_loopw [8, 9] (fun t i wr => ∃ k : Nat, k ≤ x.length + 1 ∧ i = .int .i64 k ∧ t = .bool false ∧ Hid (∀ j, j < k → Plain.hit (x.map Plain.lower) (y.map Plain.lower) j = false) ∧ ∃ q, wr = w4.drewN q) (fun _ i _ => x.length + 2 - (intOf i).toNat)
  case atStart => exact ⟨0, Nat.zero_le _, rfl, rfl, fun j hj => by omega, 0, rfl⟩
  case round =>
    obtain ⟨k, hk, rfl, rfl, HK, q, rfl⟩ := hrel
    by_cases hin : k + y.length ≤ x.length
    · have hY : Bs (w4.drewN q) (.slice ak y.length ck) (y.map Plain.lower) := hlm.drawn q
      by_cases hck0 : cl = k
      · subst hck0
        have ceq := equal_any (.slice al y.length 0) (.slice ak y.length ck) (((x.map Plain.lower).drop cl).take (y.map Plain.lower).length) (y.map Plain.lower) (w4.drewN q) (part_end hcl (by omega)) hY
          (by rw [List.length_take, List.length_drop, List.length_map, List.length_map]; omega) (by rw [List.length_map]; exact ny)
        change Calls _ _ _ _ (fun e w' => e = .returned (.bool (Plain.hit (x.map Plain.lower) (y.map Plain.lower) cl)) ∧ _) at ceq
        have hno : ∀ h, h = Plain.hit (x.map Plain.lower) (y.map Plain.lower) cl → h = true ∨ h = false := fun h _ => by cases h <;> simp
        obtain ⟨h, hh⟩ : ∃ h, h = Plain.hit (x.map Plain.lower) (y.map Plain.lower) cl := ⟨_, rfl⟩
        rw [← hh] at ceq
        rcases hno h hh with rfl | rfl
        · have hG1 : G = true := HG.out.trans (Plain.F_hit (by rw [List.length_map, List.length_map]; exact hin) hh.symm)
          subst hG1
          clear HG HK hno hh
          go_wp2_with (go_at_call 10; refine ceq.mono ?_; rintro e w5 ⟨rfl, q2, rfl⟩)
          refine (mapUpper_walk b1 x _ (hb4.drawn (q + q2)) nx).mono ?_
          rintro e w5 ⟨ub, rfl, hub, hB5⟩
          go_wp2_with fail
          refine (HC.out ub m1 (x.map Plain.upper) y _ hub ((hm4.drawn (q + q2)).later hB5) (Plain.map_lower_upper x) rfl (by rw [List.length_map]; exact nx) ny (ascii_upper ax) ay).mono ?_
          rintro e w' ⟨rfl, hw'⟩
          obtain rfl := hw'.symm
          go_wp2_with fail
          refine (mapUpper_walk m1 y _ ((hm4.drawn (q + q2)).later hB5) ny).mono ?_
          rintro e w6 ⟨um, rfl, hum, hB6⟩
          go_wp2_with fail
          refine (HC.out (.slice al x.length cl) um (x.map Plain.lower) (y.map Plain.upper) _ (((hlb4.drawn (q + q2)).later hB5).later hB6) hum (Plain.map_lower_lower x) (Plain.map_lower_upper y) (by rw [List.length_map]; exact nx) (by rw [List.length_map]; exact ny) (ascii_lower ax) (ascii_upper ay)).mono ?_
          rintro e w' ⟨rfl, hw'⟩
          obtain rfl := hw'.symm
          go_wp2_with fail
          go_ret
          exact ⟨rfl, below2 (below2 (below_drewN hall (q + q2)) hB5) hB6⟩
        · have HH : Hid (false = Plain.hit (x.map Plain.lower) (y.map Plain.lower) cl) := hh
          clear hno hh
          go_wp2_with (go_at_call 10; refine ceq.mono ?_; rintro e w5 ⟨rfl, q2, rfl⟩)
          go_roundw
          case rel => exact ⟨cl + 1, by omega, by go_num, rfl, no_hit HK.out HH.out.symm, q + q2, rfl⟩
          case measure => simp [intOf]; omega
      · have ceq := equal_any (.slice (al.map (fun x => x.add k)) y.length (cl - k)) (.slice ak y.length ck) (((x.map Plain.lower).drop k).take (y.map Plain.lower).length) (y.map Plain.lower) (w4.drewN q) (part_in (hlb4.drawn q) hin hck0) hY
          (by rw [List.length_take, List.length_drop, List.length_map, List.length_map]; omega) (by rw [List.length_map]; exact ny)
        change Calls _ _ _ _ (fun e w' => e = .returned (.bool (Plain.hit (x.map Plain.lower) (y.map Plain.lower) k)) ∧ _) at ceq
        have hno : ∀ h, h = Plain.hit (x.map Plain.lower) (y.map Plain.lower) k → h = true ∨ h = false := fun h _ => by cases h <;> simp
        obtain ⟨h, hh⟩ : ∃ h, h = Plain.hit (x.map Plain.lower) (y.map Plain.lower) k := ⟨_, rfl⟩
        rw [← hh] at ceq
        rcases hno h hh with rfl | rfl
        · have hG1 : G = true := HG.out.trans (Plain.F_hit (by rw [List.length_map, List.length_map]; exact hin) hh.symm)
          subst hG1
          clear HG HK hno hh
          go_wp2_with (go_at_call 10; refine ceq.mono ?_; rintro e w5 ⟨rfl, q2, rfl⟩)
          refine (mapUpper_walk b1 x _ (hb4.drawn (q + q2)) nx).mono ?_
          rintro e w5 ⟨ub, rfl, hub, hB5⟩
          go_wp2_with fail
          refine (HC.out ub m1 (x.map Plain.upper) y _ hub ((hm4.drawn (q + q2)).later hB5) (Plain.map_lower_upper x) rfl (by rw [List.length_map]; exact nx) ny (ascii_upper ax) ay).mono ?_
          rintro e w' ⟨rfl, hw'⟩
          obtain rfl := hw'.symm
          go_wp2_with fail
          refine (mapUpper_walk m1 y _ ((hm4.drawn (q + q2)).later hB5) ny).mono ?_
          rintro e w6 ⟨um, rfl, hum, hB6⟩
          go_wp2_with fail
          refine (HC.out (.slice al x.length cl) um (x.map Plain.lower) (y.map Plain.upper) _ (((hlb4.drawn (q + q2)).later hB5).later hB6) hum (Plain.map_lower_lower x) (Plain.map_lower_upper y) (by rw [List.length_map]; exact nx) (by rw [List.length_map]; exact ny) (ascii_lower ax) (ascii_upper ay)).mono ?_
          rintro e w' ⟨rfl, hw'⟩
          obtain rfl := hw'.symm
          go_wp2_with fail
          go_ret
          exact ⟨rfl, below2 (below2 (below_drewN hall (q + q2)) hB5) hB6⟩
        · have HH : Hid (false = Plain.hit (x.map Plain.lower) (y.map Plain.lower) k) := hh
          clear hno hh
          go_wp2_with (go_at_call 10; refine ceq.mono ?_; rintro e w5 ⟨rfl, q2, rfl⟩)
          go_roundw
          case rel => exact ⟨k + 1, by omega, by go_num, rfl, no_hit HK.out HH.out.symm, q + q2, rfl⟩
          case measure => simp [intOf]; omega
    · have hG0 : G = false := HG.out.trans (Plain.F_none HK.out (by rw [List.length_map, List.length_map]; omega))
      subst hG0
      clear HG HK
      go_wp2_with fail
      refine (mapUpper_walk b1 x _ (hb4.drawn q) nx).mono ?_
      rintro e w5 ⟨ub, rfl, hub, hB5⟩
      go_wp2_with fail
      refine (HC.out ub m1 (x.map Plain.upper) y _ hub ((hm4.drawn q).later hB5) (Plain.map_lower_upper x) rfl (by rw [List.length_map]; exact nx) ny (ascii_upper ax) ay).mono ?_
      rintro e w' ⟨rfl, hw'⟩
      obtain rfl := hw'.symm
      go_wp2_with fail
      refine (mapUpper_walk m1 y _ ((hm4.drawn q).later hB5) ny).mono ?_
      rintro e w6 ⟨um, rfl, hum, hB6⟩
      go_wp2_with fail
      refine (HC.out (.slice al x.length cl) um (x.map Plain.lower) (y.map Plain.upper) _ (((hlb4.drawn q).later hB5).later hB6) hum (Plain.map_lower_lower x) (Plain.map_lower_upper y) (by rw [List.length_map]; exact nx) (by rw [List.length_map]; exact ny) (ascii_lower ax) (ascii_upper ay)).mono ?_
      rintro e w' ⟨rfl, hw'⟩
      obtain rfl := hw'.symm
      go_wp2_with fail
      go_ret
      exact ⟨rfl, below2 (below2 (below_drewN hall q) hB5) hB6⟩

set_option maxHeartbeats 400000 in
/-- Too long. -/
theorem law_long (ao am : Option Addr) (n m c d : Nat) (w : World) (hn : n ≤ maxLen) (hm : m ≤ maxLen) (h : 4096 < n ∨ 4096 < m) :
    Calls Tryd.prog 3 #[.slice ao n c, .slice am m d] w fun e w' => e = .returned (.bool true) ∧ Below w.heap.size w w' := by
  unfold maxLen at hn hm
  have hlong : ¬ ((n : Int) ≤ 4096 ∧ (m : Int) ≤ 4096) := by omega
  go_enter Tryd.func3, Tryd.ntmps3
  go_wp2
  all_goals
    first
    | (exfalso; omega)
    | (go_ret; exact ⟨rfl, Below.refl _ _⟩)

set_option maxHeartbeats 400000 in
/-- Not ASCII. -/
theorem law_raw (ao am : Option Addr) (c d : Nat) (x y : List UInt8) (w : World) (hx : Bs w (.slice ao x.length c) x) (hy : Bs w (.slice am y.length d) y) (nx : x.length ≤ 4096) (ny : y.length ≤ 4096)
    (ha : asciiB x = false ∨ asciiB y = false) :
    Calls Tryd.prog 3 #[.slice ao x.length c, .slice am y.length d] w fun e w' => e = .returned (.bool true) ∧ Below w.heap.size w w' := by
  have cax := ascii_walk _ x w hx nx
  have cay := ascii_walk _ y w hy ny
  clear hx hy
  cases hax : asciiB x with
  | false =>
    rw [hax] at cax
    clear hax ha cay
    go_enter Tryd.func3, Tryd.ntmps3
    go_wp2_with (first
      | (go_at_call_of 6 (Value.slice ao x.length c); refine cax.mono ?_; rintro e w' ⟨rfl, hw'⟩; obtain rfl := hw'.symm)
      | (go_at_call 5; go_in))
    go_ret
    exact ⟨rfl, Below.refl _ _⟩
  | true =>
    have hay : asciiB y = false := by
      rcases ha with h | h
      · rw [hax] at h; cases h
      · exact h
    rw [hax] at cax
    rw [hay] at cay
    clear hax hay ha
    go_enter Tryd.func3, Tryd.ntmps3
    go_wp2_with (first
      | (go_at_call_of 6 (Value.slice ao x.length c); refine cax.mono ?_; rintro e w' ⟨rfl, hw'⟩; obtain rfl := hw'.symm)
      | (go_at_call_of 6 (Value.slice am y.length d); refine cay.mono ?_; rintro e w' ⟨rfl, hw'⟩; obtain rfl := hw'.symm)
      | (go_at_call 5; go_in))
    go_ret
    exact ⟨rfl, Below.refl _ _⟩

/-- THE LAW, at whatever two slices. -/
theorem law_any (ao am : Option Addr) (c d : Nat) (x y : List UInt8) (w : World) (hx : Bs w (.slice ao x.length c) x) (hy : Bs w (.slice am y.length d) y) (mx : x.length ≤ maxLen) (my : y.length ≤ maxLen) :
    Calls Tryd.prog 3 #[.slice ao x.length c, .slice am y.length d] w fun e w' => e = .returned (.bool true) ∧ Below w.heap.size w w' := by
  by_cases h : x.length ≤ 4096 ∧ y.length ≤ 4096
  · by_cases ha : asciiB x = true ∧ asciiB y = true
    · exact law_main ao am c d x y w hx hy h.1 h.2 ha.1 ha.2
    · refine law_raw ao am c d x y w hx hy h.1 h.2 ?_
      cases hax : asciiB x with
      | false => exact .inl rfl
      | true => exact .inr (by cases hay : asciiB y with
                               | false => rfl
                               | true => exact absurd ⟨hax, hay⟩ ha)
  · exact law_long ao am _ _ c d w mx my (by omega)
end Go.Proofs.Qxb6002445aDoor
