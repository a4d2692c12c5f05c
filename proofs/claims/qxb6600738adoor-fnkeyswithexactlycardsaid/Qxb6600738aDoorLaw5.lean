import Derived.Test.Qxb6600738aDoorWith
import Derived.Test.Qxb6600738aDoorFresh
import Derived.Test.Qxb6600738aDoorExact
import Derived.Deep.DeepCutAuto
/-! THE WALK of FnKeysWithExactly. -/
namespace Go.Proofs.Qxb6600738aDoor
open Go.RowKit

/-- The copies that the law has made: an, bn, an0, all. -/
structure Cops (w0 w : World) (a b z : Option Addr) (n m ca cb cz g : Nat) (L M : List ByteArray) : Prop where
  a : Ss w (.slice a n ca) L
  b : Ss w (.slice b m cb) M
  z : Ss w (.slice z n cz) L
  l : Ss w (.slice (some ⟨g, 0, none⟩) (n + m) (n + m)) (L ++ M)
  w : Below w0.heap.size w0 w
theorem Cops.later {w0 w w' : World} {a b z : Option Addr} {n m ca cb cz g : Nat} {L M : List ByteArray} (h : Cops w0 w a b z n m ca cb cz g L M) (hb : Below w.heap.size w w') : Cops w0 w' a b z n m ca cb cz g L M :=
  ⟨h.a.later hb, h.b.later hb, h.z.later hb, h.l.later hb, below2 h.w hb⟩

/-- An empty Keys in block j, free to be written. -/
def Zero (w : World) (j : Nat) : Prop :=
  w.cell? ⟨j, 0, none⟩ = some (.slice none 0 0) ∧ w.cell? ⟨j, 1, none⟩ = some (.int .u64 0) ∧ w.cell? ⟨j, 2, none⟩ = some (.int .u64 0) ∧ w.frozen? ⟨j, 0, none⟩ = false ∧ w.frozen? ⟨j, 1, none⟩ = false ∧ w.frozen? ⟨j, 2, none⟩ = false ∧ j < w.heap.size
theorem Zero.later {w w' : World} {j : Nat} (h : Zero w j) (hb : Below w.heap.size w w') : Zero w' j := by
  obtain ⟨z0, z1, z2, z3, z4, z5, z6⟩ := h
  exact ⟨(hb.cell (by exact z6)).trans z0, (hb.cell (by exact z6)).trans z1, (hb.cell (by exact z6)).trans z2, (hb.frozen (by exact z6)).trans z3, (hb.frozen (by exact z6)).trans z4, (hb.frozen (by exact z6)).trans z5, Nat.lt_of_lt_of_le z6 hb.size⟩
theorem zero_new (w : World) : Zero (w.alloc (.cells #[.slice none 0 0, .int .u64 0, .int .u64 0] 29)) w.heap.size :=
  ⟨by go_simp, by go_simp, by go_simp, by go_simp, by go_simp, by go_simp, by simp⟩
theorem after26 {w w' : World} {o : Obj} (h : Below (w.alloc o).drew.heap.size (w.alloc o).drew w') : Below w.heap.size w w' :=
  below2 (((Below.refl _ _).alloc (Nat.le_refl _) _).drew) h
theorem one_after {w w' : World} {x : ByteArray} (h : Below (w.alloc (.cells #[.string x] 9)).drew.heap.size (w.alloc (.cells #[.string x] 9)).drew w') : Ss w' (.slice (some ⟨w.heap.size, 0, none⟩) 1 1) [x] := by
  refine Ss.later (w := (w.alloc (.cells #[.string x] 9)).drew) ?_ h
  refine .inr (.inr ⟨w.heap.size, 0, 1, rfl, by simp, by simp, by unfold maxLen; omega, ?_, by simp⟩)
  intro j hj
  have : j = 0 := by simpa using hj
  subst this
  go_simp
/-- The other Keys laid in its block. -/
theorem other_set {wo wx wf : World} {j k c' : Nat} {a' : Option Addr} {r o : Int} {Z : List ByteArray} (hz : Zero wf j) (hof : Below wo.heap.size wo wf) (hj : wo.heap.size ≤ j) (hs : Ss wf (.slice a' k c') Z) (hnew : NewAt wx 1 a') (hx : j < wx.heap.size) :
    Below wo.heap.size wo (((wf.setCell ⟨j, 0, none⟩ (.slice a' k c')).setCell ⟨j, 1, none⟩ (.int .u64 r)).setCell ⟨j, 2, none⟩ (.int .u64 o)) ∧
    Kat (((wf.setCell ⟨j, 0, none⟩ (.slice a' k c')).setCell ⟨j, 1, none⟩ (.int .u64 r)).setCell ⟨j, 2, none⟩ (.int .u64 o)) j (.slice a' k c') r o ∧
    Ss (((wf.setCell ⟨j, 0, none⟩ (.slice a' k c')).setCell ⟨j, 1, none⟩ (.int .u64 r)).setCell ⟨j, 2, none⟩ (.int .u64 o)) (.slice a' k c') Z := by
  obtain ⟨z0, z1, z2, z3, z4, z5, z6⟩ := hz
  have hsS := ((((Below.refl 0 wf).setCell (Nat.zero_le (⟨j, 0, none⟩ : Addr).block) (.slice a' k c')).setCell (Nat.zero_le (⟨j, 1, none⟩ : Addr).block) (.int .u64 r)).setCell (Nat.zero_le (⟨j, 2, none⟩ : Addr).block) (.int .u64 o)).size
  obtain ⟨g, rfl, hg⟩ := hnew (by omega)
  exact ⟨((hof.setCell hj _).setCell hj _).setCell hj _, ⟨by go_simp, by go_simp, by go_simp, Nat.lt_of_lt_of_le z6 hsS⟩,
    hs.of_block (fun i => by rw [set_other _ _ _ _ (by simp; omega), set_other _ _ _ _ (by simp; omega), set_other _ _ _ _ (by simp; omega)]) hsS⟩

/-- What the second With has laid, where it was called. -/
def Other (w : World) (j k r o : Nat) (L : List ByteArray) (v : Value) : Prop :=
  ∃ s, v = .string s ∧ (k < 64 → ∃ a' c', Kat w j (.slice a' (k + 1) c') (orb r k : Nat) o ∧ Ss w (.slice a' (k + 1) c') (L ++ [s]))

theorem Other.later {w w' : World} {j k r o : Nat} {L : List ByteArray} {v : Value} (h : Other w j k r o L v) (hb : Below w.heap.size w w') : Other w' j k r o L v := by
  obtain ⟨s, hv, h⟩ := h
  refine ⟨s, hv, fun hk => ?_⟩
  obtain ⟨a', c', h1, h2⟩ := h hk
  exact ⟨a', c', h1.later hb, h2.later hb⟩
/-- What lies in the law's world when it comes to its tests. -/
structure Fin5 (w0 w : World) (z ag : Option Addr) (k m cz g6 gk jk jg cg r o R O : Nat) (L M : List ByteArray) (v : Value) : Prop where
  z : Ss w (.slice z k cz) L
  l : Ss w (.slice (some ⟨g6, 0, none⟩) (k + m) (k + m)) (L ++ M)
  b : Below w0.heap.size w0 w
  K : Kat w jk (.slice (some ⟨gk, 0, none⟩) k (k + m + 1)) r o
  kn : Ss w (.slice (some ⟨gk, 0, none⟩) k (k + m + 1)) L
  G : Kat w jg (.slice ag (k + m) cg) R O
  g : Ss w (.slice ag (k + m) cg) (L ++ M)
  ot : Other w (jg + 1) k r o L v
theorem Fin5.later {w0 w w' : World} {z ag : Option Addr} {k m cz g6 gk jk jg cg r o R O : Nat} {L M : List ByteArray} {v : Value} (h : Fin5 w0 w z ag k m cz g6 gk jk jg cg r o R O L M v) (hb : Below w.heap.size w w') : Fin5 w0 w' z ag k m cz g6 gk jk jg cg r o R O L M v :=
  ⟨h.z.later hb, h.l.later hb, below2 h.b hb, h.K.later hb, h.kn.later hb, h.G.later hb, h.g.later hb, h.ot.later hb⟩

theorem or_shl {r p k m : Nat} (hr : r < 18446744073709551616) (hp : p < 2 ^ m) (h : k + m ≤ 64) : bits .or .u64 (r : Int) (IntKind.u64.wrap ((p : Int) * 2 ^ k)) = ((wset r p k m : Nat) : Int) := by
  have hs := shl_lt (b := p) (n := k) (m := m) hp h
  rw [shl_form hs, u64_or_nat r _ hr hs, wset_all, low_id hp]
theorem ss_one (w : World) (x : ByteArray) : Ss (w.alloc (.cells #[.string x] 9)) (.slice (some ⟨w.heap.size, 0, none⟩) 1 1) [x] := by
  refine .inr (.inr ⟨w.heap.size, 0, 1, rfl, by simp, by simp, by unfold maxLen; omega, ?_, by simp⟩)
  intro j hj
  have : j = 0 := by simpa using hj
  subst this
  go_simp

/-- Both groups are there. -/
def bothSet (o q : Nat) : Bool := decide (o ≠ 0 ∧ q ≠ 0)

theorem wset_one (r k : Nat) : wset r 1 k 1 = orb r k := by rw [wset_succ, wset_zero, show Nat.testBit 1 0 = true from rfl, rq_true]; rfl
theorem wset_none (o k : Nat) : wset o 0 k 1 = o := by rw [wset_succ, wset_zero, Nat.zero_testBit, rq_false]
theorem nodup_fresh {L M : List ByteArray} {s : ByteArray} (h : (L ++ M).Nodup) (hs : s ∉ L ++ M) : (L ++ [s]).Nodup := by
  obtain ⟨h1, _, _⟩ := List.nodup_append.1 h
  refine List.nodup_append.2 ⟨h1, by simp, ?_⟩
  intro a ha b hb e
  rw [List.mem_singleton] at hb
  subst hb
  subst e
  exact hs (List.mem_append_left _ ha)

set_option maxHeartbeats 2000000 in
set_option maxRecDepth 100000 in
theorem law5_main (ao am : Option Addr) (n m c d : Nat) (r o p q : Nat) (L M : List ByteArray) (w : World) (h : Ss w (.slice ao n c) L) (h2 : Ss w (.slice am m d) M) (hn : n ≤ maxLen) (hm : m ≤ maxLen)
    (hr : r < 18446744073709551616) (ho : o < 18446744073709551616) (hp : p < 18446744073709551616) (hq : q < 18446744073709551616) :
    Calls Tryd.prog 5 #[.slice ao n c, .int .u64 (r : Int), .int .u64 (o : Int), .slice am m d, .int .u64 (p : Int), .int .u64 (q : Int)] w fun e w' => e = .returned (.bool true) ∧ Below w.heap.size w w' := by
  have c24 := bytes24_walk ao am n m c d r o p q L M w h h2 hn hm
  have c10 := addStrings_walk 0 ao n c L w h hn (by omega) (by omega)
  have c10b : ∀ t : Int, -1 ≤ t → t ≤ 1048576 → _ := fun t h1 h2' => addStrings_walk t am m d M w h2 hm h1 h2'
  have HR : Hid (r < 18446744073709551616) := hr
  have HO : Hid (o < 18446744073709551616) := ho
  have HP : Hid (p < 18446744073709551616) := hp
  have HQ : Hid (q < 18446744073709551616) := hq
  clear hr ho hp hq
  unfold maxLen at hn hm
  go_enter Tryd.func5, Tryd.ntmps5
  go_wp2_with fail
  refine c24.mono ?_
  rintro e w' ⟨⟨b9, rfl, hfit⟩, hw'⟩
  obtain rfl := hw'.symm
  cases b9 with
  | false =>
    go_wp2_with fail
    go_ret
    exact ⟨rfl, Below.refl _ _⟩
  | true =>
  obtain ⟨⟨hnb, hmb⟩, hfit2⟩ := hfit rfl
  rw [← h.len] at hnb
  rw [← h2.len] at hmb
  have HF : Hid ((∀ s ∈ L, s.size ≤ 1048576) ∧ ∀ s ∈ M, s.size ≤ 1048576) := hfit2
  clear hfit hfit2 c24
  go_wp2_with fail
  refine c10.mono ?_
  rintro e w' ⟨⟨t, rfl, ht1, ht2⟩, hw'⟩
  obtain rfl := hw'.symm
  go_wp2_with fail
  refine (c10b t ht1 ht2).mono ?_
  rintro e w' ⟨⟨t2, rfl, ht3, ht4⟩, hw'⟩
  obtain rfl := hw'.symm
  clear c10 c10b ht1 ht2
  by_cases htn : t2 < 0
  · go_wp2_with fail
    go_ret
    exact ⟨rfl, Below.refl _ _⟩
  by_cases hbig : 64 < n + m
  · go_wp2_with fail
    go_ret
    exact ⟨rfl, Below.refl _ _⟩
  have hnm : n + m ≤ 64 := by omega
  by_cases b1 : r < 2 ^ n
  case neg =>
    have c25 := within_walk r n HR.out (by omega) w
    rw [decide_eq_false b1] at c25
    clear b1
    go_wp2_with fail
    refine c25.mono ?_
    rintro e w' ⟨rfl, hw'⟩
    obtain rfl := hw'.symm
    go_wp2_with fail
    go_ret
    exact ⟨rfl, Below.refl _ _⟩
  have B1 : Hid (r < 2 ^ n) := b1
  have c25 := within_walk r n HR.out (by omega) w
  rw [decide_eq_true b1] at c25
  clear b1
  go_wp2_with fail
  refine c25.mono ?_
  rintro e w' ⟨rfl, hw'⟩
  obtain rfl := hw'.symm
  clear c25
  by_cases b2 : o < 2 ^ n
  case neg =>
    have c25 := within_walk o n HO.out (by omega) w
    rw [decide_eq_false b2] at c25
    clear b2
    go_wp2_with fail
    refine c25.mono ?_
    rintro e w' ⟨rfl, hw'⟩
    obtain rfl := hw'.symm
    go_wp2_with fail
    go_ret
    exact ⟨rfl, Below.refl _ _⟩
  have B2 : Hid (o < 2 ^ n) := b2
  have c25 := within_walk o n HO.out (by omega) w
  rw [decide_eq_true b2] at c25
  clear b2
  go_wp2_with fail
  refine c25.mono ?_
  rintro e w' ⟨rfl, hw'⟩
  obtain rfl := hw'.symm
  clear c25
  by_cases b3 : p < 2 ^ m
  case neg =>
    have c25 := within_walk p m HP.out (by omega) w
    rw [decide_eq_false b3] at c25
    clear b3
    go_wp2_with fail
    refine c25.mono ?_
    rintro e w' ⟨rfl, hw'⟩
    obtain rfl := hw'.symm
    go_wp2_with fail
    go_ret
    exact ⟨rfl, Below.refl _ _⟩
  have B3 : Hid (p < 2 ^ m) := b3
  have c25 := within_walk p m HP.out (by omega) w
  rw [decide_eq_true b3] at c25
  clear b3
  go_wp2_with fail
  refine c25.mono ?_
  rintro e w' ⟨rfl, hw'⟩
  obtain rfl := hw'.symm
  clear c25
  by_cases b4 : q < 2 ^ m
  case neg =>
    have c25 := within_walk q m HQ.out (by omega) w
    rw [decide_eq_false b4] at c25
    clear b4
    go_wp2_with fail
    refine c25.mono ?_
    rintro e w' ⟨rfl, hw'⟩
    obtain rfl := hw'.symm
    go_wp2_with fail
    go_ret
    exact ⟨rfl, Below.refl _ _⟩
  have B4 : Hid (q < 2 ^ m) := b4
  have c25 := within_walk q m HQ.out (by omega) w
  rw [decide_eq_true b4] at c25
  clear b4
  go_wp2_with fail
  refine c25.mono ?_
  rintro e w' ⟨rfl, hw'⟩
  obtain rfl := hw'.symm
  clear c25
  go_upto_region 11 with fail
  go_cut [77] (fun v wx => v = .bool (bothSet o q) ∧ w = wx)
  case first =>
    by_cases hoz : o = 0
    · have e0 : ((o : Int) != 0) = false := by simp [hoz]
      have HB : Hid (bothSet o q = false) := decide_eq_false (by omega)
      clear hoz
      go_wp2_with fail
      go_meet
      exact ⟨by rw [HB.out], rfl⟩
    · have e0 : ((o : Int) != 0) = true := by simp [hoz]
      have HB : Hid (((q : Int) != 0) = bothSet o q) := by
        show ((q : Int) != 0) = bothSet o q
        unfold bothSet
        by_cases hq0 : q = 0
        · simp [hq0]
        · simp [hq0, hoz]
      clear hoz
      go_wp2_with fail
      go_meet
      exact ⟨by rw [HB.out], rfl⟩
  case rest =>
  obtain ⟨rfl, rfl⟩ := hcut
  by_cases hoq : o = 0 ∨ q = 0
  case neg =>
    have hbs : bothSet o q = true := decide_eq_true (by omega)
    rw [hbs]
    go_wp2_with fail
    go_ret
    exact ⟨rfl, Below.refl _ _⟩
  have HA : Hid (o = 0 ∨ q = 0) := hoq
  have hbs : bothSet o q = false := decide_eq_false (by omega)
  rw [hbs]
  clear hoq hbs
  go_wp2_with fail
  refine (concat_walk ao am n m c d L M w h h2 (by omega) (by omega)).mono ?_
  rintro e w1 ⟨rfl, hcat, hb1⟩
  have h1 := h.later hb1
  have h21 := h2.later hb1
  generalize w.heap.size = g0 at hcat ⊢
  have c11 := distinct_walk _ _ _ _ w1 hcat (by omega)
  by_cases hnd : (L ++ M).Nodup
  case neg =>
    rw [decide_eq_false hnd] at c11
    go_wp2_with fail
    refine c11.mono ?_
    rintro e w1 ⟨rfl, q, rfl⟩
    go_wp2_with fail
    go_ret
    exact ⟨rfl, below_drewN hb1 q⟩
  have HD : Hid (L ++ M).Nodup := hnd
  have HL : Hid (n = L.length) := h.len
  have HM : Hid (m = M.length) := h2.len
  rw [decide_eq_true hnd] at c11
  clear hnd h h2
  go_wp2_with fail
  refine c11.mono ?_
  rintro e w2 ⟨rfl, q2, rfl⟩
  have hb2 := below_drewN (Below.refl w1.heap.size w1) q2
  have h1' := h1.later hb2
  have h2' := h21.later hb2
  have hw2 := below2 hb1 hb2
  generalize w1.drewN q2 = w2 at h1' h2' hw2 ⊢
  clear c11 hb2 hcat h1 h21 hb1 w1
  go_wp2_with fail
  refine (clone_walk ao n c L _ h1' (by omega)).mono ?_
  rintro e w3 ⟨⟨v3, rfl, hv3⟩, hb3⟩
  obtain ⟨a3, c3, rfl, _⟩ := hv3.form
  rw [← HL.out] at hv3 ⊢
  have h23 := h2'.later hb3
  have hw3 := below2 hw2 hb3
  clear h1' h2' hb3 hw2 w2
  go_wp2_with fail
  refine (clone_walk am m d M _ h23 (by omega)).mono ?_
  rintro e w4 ⟨⟨v4, rfl, hv4⟩, hb4⟩
  obtain ⟨a4, c4, rfl, _⟩ := hv4.form
  rw [← HM.out] at hv4 ⊢
  have hv34 := hv3.later hb4
  have hw4 := below2 hw3 hb4
  clear h23 hb4 hv3 hw3 w3
  go_wp2_with fail
  refine (clone_walk a3 n c3 L _ hv34 (by omega)).mono ?_
  rintro e w5 ⟨⟨v5, rfl, hv5⟩, hb5⟩
  obtain ⟨a5, c5, rfl, _⟩ := hv5.form
  rw [← HL.out] at hv5 ⊢
  have hv35 := hv34.later hb5
  have hv45 := hv4.later hb5
  have hw5 := below2 hw4 hb5
  clear hv34 hv4 hw4 hb5 w4
  go_wp2_with fail
  refine (concat_walk a3 a4 n m c3 c4 L M _ hv35 hv45 (by omega) (by omega)).mono ?_
  rintro e w6 ⟨rfl, hcat, hb6⟩
  have hC : Cops w w6 a3 a4 a5 n m c3 c4 c5 w5.heap.size L M := ⟨hv35.later hb6, hv45.later hb6, hv5.later hb6, hcat, below2 hw5 hb6⟩
  generalize w5.heap.size = g6 at hC ⊢
  clear hv35 hv45 hv5 hcat hb6 hw5 w5
  obtain ⟨i0, hi, hz0, hz1, hz2⟩ := info_parts Tryd.info9
  have hb2 : i0.bytes * (n + m + 1) ≤ 281474976710656 := by rw [hz2]; omega
  go_wp2_with (at_make; refine wpList_make_own _ rfl _ _ 22 rfl w6.heap.size 9 i0 (.string ByteArray.empty) 1 Tryd.underlying22 hi hz0 hz1 .i64 .i64 _ (n + m + 1) rfl rfl (by omega) hb2 (by unfold maxLen; omega) (Nat.le_refl _) ?_; intro w0 hown0 hgrow0)
  go_loopw [17, 18] (fun v i wr => ∃ k : Nat, k ≤ n ∧ i = .int .i64 k ∧ v = .slice (some ⟨w6.heap.size, 0, none⟩) k (n + m + 1) ∧ wr.ownsRow w6.heap.size 9 1 v k (sv (L.take k)) ∧ Below w6.heap.size w6 wr) (fun _ i _ => n - (intOf i).toNat)
  case atStart => exact ⟨0, Nat.zero_le _, rfl, rfl, by simpa [sv] using hown0, (Below.refl _ _).grown hgrow0 (by simp) (fun _ h => by cases h)⟩
  case round =>
    clear hown0 hgrow0
    obtain ⟨k, hk, rfl, rfl, hown, hb⟩ := hrel
    have hsz := hb.size
    by_cases hlt : k < n
    · obtain ⟨b, of, rfl, hq1, hA, hbw⟩ := hC.a.at (by omega)
      clear hq1
      have hkL : k < L.length := by have := HL.out; omega
      have hcell : wr.cell? ⟨b, of + k, none⟩ = some (.string L[k]) := (hb.cell (p := ⟨b, of + k, none⟩) hbw).trans (hA k hkL)
      obtain ⟨s, hs⟩ : ∃ s, s = L[k] := ⟨_, rfl⟩
      rw [← hs] at hcell
      have HS : Hid (s = L[k]) := hs
      clear hs hA
      go_wp2_with (at_builtin; refine wpList_append_fits _ rfl (.tmp 105) (.tmp 110) 22 rfl w6.heap.size 9 i0 1 Tryd.underlying22 hi hz1 w6.heap.size k (n + m + 1) _ rfl (hown.alloc _) ⟨wr.heap.size, 0, none⟩ 1 1 [.string s] rfl rfl (cell_one_new _ _ _) (by intro u hu; simp at hu; subst hu; rfl) (by omega) ?_; intro w1 hown1 hgrow1)
      go_roundw
      case rel => exact ⟨k + 1, by omega, by go_num, rfl, by rw [sv_step hkL HS.out]; exact hown1, below_app hb hgrow1⟩
      case measure => simp [intOf]; omega
    · have hke : k = n := by omega
      subst hke
      have hf : L.take k = L := List.take_of_length_le (by rw [← HL.out]; exact Nat.le_refl _)
      rw [hf] at hown
      have hkn := ss_of_own hown HL.out (by unfold maxLen; omega)
      have hC7 := hC.later hb
      clear hown hb hsz hf hC hi hz0 hz1 hz2 hb2
      go_wp2_with fail
      generalize w6.heap.size = gk at hkn ⊢
      refine (keysOf_walk (some ⟨gk, 0, none⟩) k (k + m + 1) r o _).mono ?_
      rintro e w7 ⟨rfl, hb7⟩
      have hal7 : Below w7.heap.size w7 (w7.alloc (.cells #[.slice (some ⟨gk, 0, none⟩) k (k + m + 1), .int .u64 r, .int .u64 o] 29)) := (Below.refl _ _).alloc (Nat.le_refl _) _
      have hK8 : Kat (w7.alloc (.cells #[.slice (some ⟨gk, 0, none⟩) k (k + m + 1), .int .u64 r, .int .u64 o] 29)) w7.heap.size (.slice (some ⟨gk, 0, none⟩) k (k + m + 1)) r o := kat_new _ _ _ _
      have hC8 := (hC7.later hb7).later hal7
      have hkn8 := (hkn.later hb7).later hal7
      go_wp2_with fail
      generalize w7.alloc (.cells #[.slice (some ⟨gk, 0, none⟩) k (k + m + 1), .int .u64 r, .int .u64 o] 29) = w8 at hK8 hC8 hkn8 ⊢
      generalize w7.heap.size = jk at hK8 ⊢
      clear hal7 hb7 hkn hC7 w7
      refine (keysOf_walk a4 m c4 p q _).mono ?_
      rintro e w9 ⟨rfl, hb9⟩
      have hal9 : Below w9.heap.size w9 (w9.alloc (.cells #[.slice a4 m c4, .int .u64 p, .int .u64 q] 29)) := (Below.refl _ _).alloc (Nat.le_refl _) _
      have hCa := (hC8.later hb9).later hal9
      have hKa := (hK8.later hb9).later hal9
      have hkna := (hkn8.later hb9).later hal9
      obtain ⟨k0, k1, k2, k3⟩ := hK8.later hb9
      go_wp2_with fail
      generalize w9.alloc (.cells #[.slice a4 m c4, .int .u64 p, .int .u64 q] 29) = wa at hCa hKa hkna ⊢
      generalize w9.heap.size = jm at ⊢
      clear k0 k1 k2 k3 hal9 hb9 hC8 hK8 hkn8 w9
      refine (with_walk (some ⟨gk, 0, none⟩) a4 k (k + m + 1) m c4 r o p q L M wa hkna hCa.b (by omega) HD.out HR.out HO.out HP.out HQ.out HA.out).mono ?_
      rintro e wb ⟨⟨ag, cg, rfl, hgot, _⟩, hbb⟩
      have hal : Below wb.heap.size wb (wb.alloc (.cells #[.slice ag (k + m) cg, .int .u64 (wset r p k m : Nat), .int .u64 (wset o q k m : Nat)] 29)) := (Below.refl _ _).alloc (Nat.le_refl _) _
      have hGo : Kat (wb.alloc (.cells #[.slice ag (k + m) cg, .int .u64 (wset r p k m : Nat), .int .u64 (wset o q k m : Nat)] 29)) wb.heap.size (.slice ag (k + m) cg) (wset r p k m : Nat) (wset o q k m : Nat) := kat_new _ _ _ _
      have hCo := (hCa.later hbb).later hal
      have hKo := (hKa.later hbb).later hal
      have hkno := (hkna.later hbb).later hal
      have hgo := hgot.later hal
      go_upto_if 124 with fail
      have hjo : (wb.alloc (.cells #[.slice ag (k + m) cg, .int .u64 (wset r p k m : Nat), .int .u64 (wset o q k m : Nat)] 29)).heap.size = wb.heap.size + 1 := by simp
      generalize wb.alloc (.cells #[.slice ag (k + m) cg, .int .u64 (wset r p k m : Nat), .int .u64 (wset o q k m : Nat)] 29) = wo at hGo hCo hKo hkno hgo hjo ⊢
      generalize wb.heap.size = jg at hGo hjo ⊢
      clear hal hbb hgot hCa hKa hkna wb
      go_cut [22] (fun v wx => Other wx (jg + 1) k r o L v ∧ Below wo.heap.size wo wx)
      case first =>
        by_cases h64 : k < 64
        case neg =>
          have hal : Below wo.heap.size wo (wo.alloc (.cells #[.slice none 0 0, .int .u64 0, .int .u64 0] 29)) := (Below.refl _ _).alloc (Nat.le_refl _) _
          go_wp2_with fail
          go_meet
          exact ⟨⟨_, rfl, fun h => absurd h h64⟩, hal⟩
        have hal : Below wo.heap.size wo (wo.alloc (.cells #[.slice none 0 0, .int .u64 0, .int .u64 0] 29)) := (Below.refl _ _).alloc (Nat.le_refl _) _
        have hz := zero_new wo
        go_wp2_with fail
        refine (fresh_walk (some ⟨g6, 0, none⟩) (k + m) (k + m) (L ++ M) _ (hCo.l.later hal) (by omega) (fun s hs => (List.mem_append.1 hs).elim (HF.out.1 s) (HF.out.2 s))).mono ?_
        rintro e wd ⟨⟨s, rfl, hs⟩, hbd⟩
        have hod := below2 hal hbd
        have hzd := hz.later hbd
        rw [hjo] at hzd
        have HZ : Hid (Zero wd (jg + 1)) := hzd
        have HJ : Hid (wo.heap.size ≤ jg + 1) := Nat.le_of_eq hjo
        have HN : Hid (L ++ [s]).Nodup := nodup_fresh HD.out hs
        have hKd := hKo.later hod
        have HKd : Hid (Kat wd jk (.slice (some ⟨gk, 0, none⟩) k (k + m + 1)) r o) := hKd
        have hknd := hkno.later hod
        have cw : ∀ wx, Below wd.heap.size wd wx → Ss wx (.slice (some ⟨wd.heap.size, 0, none⟩) 1 1) [s] → Calls Tryd.prog 27 #[keysV (.slice (some ⟨gk, 0, none⟩) k (k + m + 1)) r o, keysV (.slice (some ⟨wd.heap.size, 0, none⟩) 1 1) 1 0] wx (Grown wx 1 (L ++ [s]) (orb r k : Nat) o (k + 1)) := fun wx hx hs => by
          have := with_walk (some ⟨gk, 0, none⟩) (some ⟨wd.heap.size, 0, none⟩) k (k + m + 1) 1 1 r o 1 0 L [s] wx (hknd.later hx) hs (by omega) HN.out HR.out HO.out (by decide) (by decide) (.inr rfl)
          rw [wset_one, wset_none] at this
          exact this
        obtain ⟨k0, k1, k2, k3⟩ := hKd
        obtain ⟨z0, z1, z2, z3, z4, z5, z6⟩ := hzd
        clear hs hbd hal hz hjo
        go_wp2_with fail
        go_region_with (first
          | (go_at_call 26; refine (keysOf_walk _ 1 1 1 0 _).mono ?_; rintro e we ⟨rfl, hbe⟩; obtain ⟨m0, m1, m2, m3⟩ := HKd.out.later (after26 hbe))
          | (go_at_call 27; refine (cw _ (after26 hbe) (one_after hbe)).mono ?_; rintro e wf ⟨⟨a', c', rfl, hso, hnew⟩, hbf⟩; obtain ⟨y0, y1, y2, y3, y4, y5, y6⟩ := (HZ.out.later (after26 hbe)).later hbf))
        all_goals
          obtain ⟨hoW, hOW, hsW⟩ := other_set (r := (orb r k : Nat)) (o := o) ((HZ.out.later (after26 hbe)).later hbf) (below2 (below2 hod (after26 hbe)) hbf) HJ.out hso hnew (Nat.lt_of_lt_of_le z6 (after26 hbe).size)
          go_wp2_with fail
          go_meet
          exact ⟨⟨s, rfl, fun _ => ⟨a', c', hOW, hsW⟩⟩, hoW⟩
      case rest =>
        obtain ⟨⟨s, hv, hh⟩, hoW⟩ := hcut
        subst hv
        have F1 : Fin5 w wc a5 ag k m c5 g6 gk jk jg cg r o (wset r p k m) (wset o q k m) L M (.string s) := ⟨(hCo.later hoW).z, (hCo.later hoW).l, (hCo.later hoW).w, hKo.later hoW, hkno.later hoW, hGo.later hoW, hgo.later hoW, s, rfl, hh⟩
        clear hCo hKo hkno hGo hgo hh hoW hjo
        have hdl : decide (L ++ M = L ++ M) = true := decide_eq_true rfl
        have hdx : decide (L ++ [s] = L ++ [s]) = true := decide_eq_true rfl
        have hd0 : decide (L = L) = true := decide_eq_true rfl
        obtain ⟨k0, k1, k2, k3⟩ := F1.G
        go_wp2_with fail
        refine (names_walk (.slice ag (k + m) cg) ⟨_, _, _, rfl⟩ _ _ _).mono ?_
        rintro e x1 ⟨rfl, hb⟩
        have F2 := F1.later hb
        clear F1 hb k0 k1 k2 k3
        go_wp2_with fail
        refine (same_walk ag (some ⟨g6, 0, none⟩) (k + m) (k + m) cg (k + m) (L ++ M) (L ++ M) _ F2.g F2.l (by omega) (by omega)).mono ?_
        rintro e x2 ⟨rfl, q5, rfl⟩
        have F3 := F2.later (below_drewN (Below.refl _ _) q5)
        generalize x1.drewN q5 = x2 at F3 ⊢
        clear F2
        obtain ⟨k0, k1, k2, k3⟩ := F3.G
        go_wp2_with fail
        refine (required_walk (.slice ag (k + m) cg) ⟨_, _, _, rfl⟩ _ _ _).mono ?_
        rintro e x3 ⟨rfl, hb⟩
        have F4 := F3.later hb
        clear F3 hb k0 k1 k2 k3
        obtain ⟨k0, k1, k2, k3⟩ := F4.G
        have hor1 := or_shl (r := r) (p := p) (k := k) (m := m) HR.out B3.out hnm
        go_wp2_with fail
        refine (oneOf_walk (.slice ag (k + m) cg) ⟨_, _, _, rfl⟩ _ _ _).mono ?_
        rintro e x4 ⟨rfl, hb⟩
        have F5 := F4.later hb
        clear F4 hb k0 k1 k2 k3 hor1
        have hor2 := or_shl (r := o) (p := q) (k := k) (m := m) HO.out B4.out hnm
        by_cases h64 : k < 64
        case neg =>
          obtain ⟨k0, k1, k2, k3⟩ := F5.K
          go_wp2_with fail
          refine (names_walk (.slice (some ⟨gk, 0, none⟩) k (k + m + 1)) ⟨_, _, _, rfl⟩ _ _ _).mono ?_
          rintro e x5 ⟨rfl, hb⟩
          have F6 := F5.later hb
          clear F5 hb k0 k1 k2 k3
          go_wp2_with fail
          refine (same_walk (some ⟨gk, 0, none⟩) a5 k k (k + m + 1) c5 L L _ F6.kn F6.z (by omega) (by omega)).mono ?_
          rintro e x6 ⟨rfl, q6, rfl⟩
          go_wp2_with fail
          go_ret
          exact ⟨rfl, below_drewN F6.b q6⟩
        have hor3 := or_bit (r := r) (n := k) HR.out h64
        obtain ⟨s', hes, hh⟩ := F5.ot
        obtain rfl : s = s' := by injection hes
        clear hes
        obtain ⟨a', c', hJ, hj⟩ := hh h64
        obtain ⟨k0, k1, k2, k3⟩ := hJ
        go_wp2_with fail
        refine (names_walk (.slice a' (k + 1) c') ⟨_, _, _, rfl⟩ _ _ _).mono ?_
        rintro e x5 ⟨rfl, hb⟩
        have F6 := F5.later hb
        have hj6 := hj.later hb
        have hJ6 := Kat.later ⟨k0, k1, k2, k3⟩ hb
        clear F5 hb k0 k1 k2 k3 hj hh
        go_wp2_with fail
        have hal : Below x5.heap.size x5 (x5.alloc (.cells #[.string s] 9)) := (Below.refl _ _).alloc (Nat.le_refl _) _
        have F7 := F6.later hal
        have hj7 := hj6.later hal
        have hJ7 := hJ6.later hal
        refine (concat_walk a5 (some ⟨x5.heap.size, 0, none⟩) k 1 c5 1 L [s] _ F7.z (ss_one x5 s) (by omega) (by omega)).mono ?_
        rintro e x7 ⟨rfl, hcat, hb⟩
        have F8 := F7.later hb
        have hj8 := hj7.later hb
        have hJ8 := hJ7.later hb
        clear F6 hj6 hJ6 F7 hj7 hJ7 hb hal
        generalize (x5.alloc (.cells #[.string s] 9)).heap.size = gg at hcat ⊢
        go_wp2_with fail
        refine (same_walk a' (some ⟨gg, 0, none⟩) (k + 1) (k + 1) c' (k + 1) (L ++ [s]) (L ++ [s]) _ hj8 hcat (by omega) (by omega)).mono ?_
        rintro e x8 ⟨rfl, q8, rfl⟩
        have F9 := F8.later (below_drewN (Below.refl _ _) q8)
        have hJ9 := hJ8.later (below_drewN (Below.refl _ _) q8)
        generalize x7.drewN q8 = x8 at F9 hJ9 ⊢
        clear F8 hj8 hJ8 hcat
        obtain ⟨k0, k1, k2, k3⟩ := hJ9
        go_wp2_with fail
        refine (required_walk (.slice a' (k + 1) c') ⟨_, _, _, rfl⟩ _ _ _).mono ?_
        rintro e x9 ⟨rfl, hb⟩
        have FA := F9.later hb
        have hJA := Kat.later ⟨k0, k1, k2, k3⟩ hb
        clear F9 hb k0 k1 k2 k3
        obtain ⟨k0, k1, k2, k3⟩ := hJA
        go_wp2_with fail
        refine (oneOf_walk (.slice a' (k + 1) c') ⟨_, _, _, rfl⟩ _ _ _).mono ?_
        rintro e xa ⟨rfl, hb⟩
        have FB := FA.later hb
        clear FA hb k0 k1 k2 k3
        obtain ⟨k0, k1, k2, k3⟩ := FB.K
        go_wp2_with fail
        refine (names_walk (.slice (some ⟨gk, 0, none⟩) k (k + m + 1)) ⟨_, _, _, rfl⟩ _ _ _).mono ?_
        rintro e xb ⟨rfl, hb⟩
        have FC := FB.later hb
        clear FB hb k0 k1 k2 k3
        go_wp2_with fail
        refine (same_walk (some ⟨gk, 0, none⟩) a5 k k (k + m + 1) c5 L L _ FC.kn FC.z (by omega) (by omega)).mono ?_
        rintro e xc ⟨rfl, qc, rfl⟩
        go_wp2_with fail
        go_ret
        exact ⟨rfl, below_drewN FC.b qc⟩
end Go.Proofs.Qxb6600738aDoor
