import Derived.Test.Qxb6600738aDoorStrs
import Derived.Test.Qxb6600738aDoorBits
/-! Keys: index, add. -/
namespace Go.Proofs.Qxb6600738aDoor
open Go.RowKit

/-- A Keys. -/
abbrev keysV (v : Value) (r o : Int) : Value := .agg #[v, .int .u64 r, .int .u64 o]

set_option maxHeartbeats 400000 in
/-- index: the name is not among them. -/
theorem index_walk (ao : Option Addr) (n c : Nat) (r o : Int) (L : List ByteArray) (s : ByteArray) (g cap : Nat) (w : World) (h : Ss w (.slice ao n c) L) (hn : n ≤ 64)
    (hs : ∀ wx, Below w.heap.size w wx → (convert 56 9 (.slice (some ⟨g, 0, none⟩) s.size cap)).run Tryd.prog wx = .ok (.string s) wx) (hni : s ∉ L) :
    Calls Tryd.prog 40 #[keysV (.slice ao n c) r o, .slice (some ⟨g, 0, none⟩) s.size cap] w fun e w' => e = .returned (.int .i64 (-1)) ∧ Below w.heap.size w w' := by
  have HL : Hid (n = L.length) := h.len
  have hb0 : Below w.heap.size w (w.alloc (.cells #[.slice ao n c, .int .u64 r, .int .u64 o] 29)) := (Below.refl _ _).alloc (Nat.le_refl _) _
  have hs0 := hs _ hb0
  clear hs
  go_enter Tryd.func40, Tryd.ntmps40
  go_wp2
  go_loop [5, 6, 10] (fun a b i => ∃ k : Nat, k ≤ n ∧ i = .int .i64 k) (fun _ _ i => n - (intOf i).toNat)
  case atStart => exact ⟨0, Nat.zero_le _, rfl⟩
  case round =>
    obtain ⟨k, hk, rfl⟩ := hrel
    by_cases hlt : k < n
    · obtain ⟨b, o, rfl, hq1, hA, hbw⟩ := (h.later hb0).at (by omega)
      clear hq1
      have hkL : k < L.length := by have := HL.out; omega
      have hcell := hA k hkL
      obtain ⟨t, ht⟩ : ∃ t, t = L[k] := ⟨_, rfl⟩
      rw [← ht] at hcell
      have hne : (t.toList == s.toList) = false := by
        rw [beq_eq_false_iff_ne]
        intro e
        exact hni (by rw [← str_eq (beq_iff_eq.2 e), ht]; exact List.getElem_mem _)
      clear ht hA h
      go_wp2
      go_round
      case rel => exact ⟨k + 1, by omega, by go_num⟩
      case measure => simp [intOf]; omega
    · go_wp2
      go_ret
      exact ⟨rfl, hb0⟩

/-- The block that a conversion to bytes lays. -/
abbrev byteBlock (s : ByteArray) (cap : Nat) : Obj := .cells (bytesRow s cap) 5 ((bytesRow s cap).size, (bytesRow s cap).size + 1)

theorem size_eq (s : ByteArray) : s.data.toList.length = s.size := by rw [Array.length_toList]; rfl
theorem below3 (w : World) (A B C : Obj) : Below w.heap.size w (((w.alloc A).alloc B).alloc C).drew :=
  ((((Below.refl _ _).alloc (Nat.le_refl _) _).alloc (by simp) _).alloc (by simp; omega) _).drew
theorem Ss.cap {w : World} {ao : Option Addr} {n c : Nat} {L : List ByteArray} (h : Ss w (.slice ao n c) L) : n ≤ c := by
  rcases h with ⟨h, _⟩ | ⟨a, d, h, _⟩ | ⟨b, o, d, h, _, h2, _⟩
  · injection h with e1 e2 e3; omega
  · injection h with e1 e2 e3; omega
  · injection h with e1 e2 e3; omega
theorem Ss.olds {w : World} {ao : Option Addr} {n c : Nat} {L : List ByteArray} (h : Ss w (.slice ao n c) L) : ∀ b, ao = some b → ∀ j u, (L.map Value.string)[j]? = some u → w.cell? (b.add j) = some u := by
  intro b hb j u hj
  have hjl : j < L.length := by
    have := (List.getElem?_eq_some_iff.1 hj).1
    simpa using this
  obtain ⟨b', o', e, hn, hA, _⟩ := h.at (by rw [h.len]; omega)
  rw [hb] at e
  obtain rfl := Option.some.inj e
  rw [WideShapes.add_plain, hA j hjl]
  simp [hjl] at hj
  rw [hj]
theorem Ss.none_zero {w : World} {ao : Option Addr} {n c : Nat} {L : List ByteArray} (h : Ss w (.slice ao n c) L) (e : ao = none) : n = 0 := by
  subst e
  rw [h.len, h.none_nil]; rfl
theorem full_run (ao : Option Addr) (n c : Nat) (hnc : n ≤ c) (w : World) : (Instr.slice 22 (.slice ao n c) none (some (.int .i64 (n : Int))) (some (.int .i64 (n : Int)))).run Tryd.prog w = .ok (.slice ao n n) w := by
  have h0 : ∀ a : Addr, a.add 0 = a := fun a => by unfold Addr.add; rw [if_pos rfl]
  rw [run_slice_hm (P := Tryd.prog) w 22 ao n c (by kernel_rfl) .i64 .i64 (n : Int) (n : Int) (by omega) (by omega) (by omega)]
  have hz : ∀ wx, (sizeOf (Tryd.prog.elem 22)).run Tryd.prog wx = .ok 1 wx := fun wx => by kernel_rfl
  rw [hz]
  simp only [Result.andThen, sliced, Int.toNat_natCast, Nat.zero_mul, Nat.sub_zero]
  split
  · rfl
  · cases ao with
    | none => rfl
    | some a => simp [h0]
theorem own_form {w : World} {base n : Nat} {v : Value} {M : List ByteArray} (h : w.ownsRow base 9 1 v n (M.map Value.string)) (hn : 0 < n) :
    ∃ g cap, v = .slice (some ⟨g, 0, none⟩) n cap ∧ base ≤ g ∧ n ≤ cap ∧ cap ≤ maxLen ∧ n = M.length ∧ AtS w g 0 M ∧ g < w.heap.size := by
  have hl : n = M.length := by have := h.1; simp at this; omega
  have h' := h
  rcases h.2 with ⟨_, h0⟩ | ⟨g, cap, cur, rfl, hb, hh, h1, h2, h3, h4⟩
  · omega
  · refine ⟨g, cap, rfl, hb, h1, h2, hl, fun j hj => ?_, (Array.getElem?_eq_some_iff.1 hh).1⟩
    rw [Nat.zero_add, h'.cellAt j (by omega)]
    simp [hj]
theorem set_other (w : World) (p q : Addr) (v : Value) (h : p.block ≠ q.block) : (w.setCell p v).cell? q = w.cell? q :=
  World.cell?_setCell_other _ _ _ _ (fun e => h (by rw [e]))
theorem ss_final {w5 w6 : World} {g n cap : Nat} {M : List ByteArray} (hA : AtS w5 g 0 M) (hn : n + 1 = M.length) (h1 : n + 1 ≤ cap) (h2 : cap ≤ maxLen) (hc : ∀ j, w6.cell? ⟨g, j, none⟩ = w5.cell? ⟨g, j, none⟩) (hg : g < w6.heap.size) :
    Ss w6 (.slice (some ⟨g, 0, none⟩) (n + 1) cap) M :=
  .inr (.inr ⟨g, 0, cap, by rw [hn], by omega, by omega, h2, fun j hj => (hc _).trans (hA j hj), hg⟩)
/-- The six cells that the rest of add reads and writes. -/
def Six (B : Nat) (w : World) (ao : Option Addr) (n c r o : Nat) : Prop :=
  w.cell? ⟨B, 0, none⟩ = some (.slice ao n c) ∧ w.cell? ⟨B, 1, none⟩ = some (.int .u64 r) ∧ w.cell? ⟨B, 2, none⟩ = some (.int .u64 o) ∧ w.frozen? ⟨B, 0, none⟩ = false ∧ w.frozen? ⟨B, 1, none⟩ = false ∧
  w.cell? ⟨B + 1, 0, none⟩ = some (.slice none 0 0) ∧ w.cell? ⟨B + 1, 1, none⟩ = some (.int .u64 0) ∧ w.cell? ⟨B + 1, 2, none⟩ = some (.int .u64 0) ∧ w.frozen? ⟨B + 1, 0, none⟩ = false ∧ w.frozen? ⟨B + 1, 1, none⟩ = false ∧ w.frozen? ⟨B + 1, 2, none⟩ = false
theorem six_set {B : Nat} {w : World} {ao : Option Addr} {n c r o : Nat} (h : Six B w ao n c r o) (r' : Nat) : Six B (w.setCell ⟨B, 1, none⟩ (.int .u64 r')).drew ao n c r' o := by
  obtain ⟨f0, f1, f2, f3, f4, g0, g1, g2, g3, g4, g5⟩ := h
  exact ⟨by go_simp, by go_simp, by go_simp, by go_simp, by go_simp, by go_simp, by go_simp, by go_simp, by go_simp, by go_simp, by go_simp⟩
theorem Six.later {B : Nat} {w w' : World} {ao : Option Addr} {n c r o : Nat} (h : Six B w ao n c r o) (hb : Below w.heap.size w w') (hB : B + 1 < w.heap.size) : Six B w' ao n c r o := by
  obtain ⟨f0, f1, f2, f3, f4, g0, g1, g2, g3, g4, g5⟩ := h
  have hc : ∀ b o, b = B ∨ b = B + 1 → w'.cell? ⟨b, o, none⟩ = w.cell? ⟨b, o, none⟩ := fun b o h => hb.cell (by rcases h with rfl | rfl <;> simp <;> omega)
  have hf : ∀ b o, b = B ∨ b = B + 1 → w'.frozen? ⟨b, o, none⟩ = w.frozen? ⟨b, o, none⟩ := fun b o h => hb.frozen (by rcases h with rfl | rfl <;> simp <;> omega)
  exact ⟨(hc _ _ (.inl rfl)).trans f0, (hc _ _ (.inl rfl)).trans f1, (hc _ _ (.inl rfl)).trans f2, (hf _ _ (.inl rfl)).trans f3, (hf _ _ (.inl rfl)).trans f4,
    (hc _ _ (.inr rfl)).trans g0, (hc _ _ (.inr rfl)).trans g1, (hc _ _ (.inr rfl)).trans g2, (hf _ _ (.inr rfl)).trans g3, (hf _ _ (.inr rfl)).trans g4, (hf _ _ (.inr rfl)).trans g5⟩
theorem later_cell {w : World} {a : Addr} {u : Value} {o : Obj} (h : w.cell? a = some u) : (w.alloc o).cell? a = some u := by
  rw [World.cell?_alloc_old _ _ _ (Nat.ne_of_lt (World.block_lt_of_cell? _ _ h))]; exact h
theorem conv_back (W wx : World) (s : ByteArray) (cap : Nat) (hb : Below (W.alloc (byteBlock s cap)).drew.heap.size (W.alloc (byteBlock s cap)).drew wx) :
    (convert 56 9 (.slice (some ⟨W.heap.size, 0, none⟩) s.size cap)).run Tryd.prog wx = .ok (.string s) wx := by
  have h := run_convert_bytes_back (P := Tryd.prog) wx 56 9 5 ⟨W.heap.size, 0, none⟩ cap s.data.toList Tryd.underlying56 Tryd.underlying5 Tryd.underlying9 (fun j hj => by
    rw [WideShapes.add_plain, Nat.zero_add, hb.cell (p := ⟨W.heap.size, j, none⟩) (by simp), World.cell?_drew, World.cell?_alloc_mark]
    have hj' : j < s.data.size := by simpa using hj
    rw [bytesRow_at s cap j hj']
    simp)
  rw [size_eq] at h
  have e : (⟨s.data.toList.toArray⟩ : ByteArray) = s := by simp
  rw [e] at h
  exact h

/-- Both blocks of the call, later. -/
theorem two_blocks {w W w4 : World} {A B : Obj} {C : Obj} (hW : W = (((w.alloc A).alloc B).alloc C).drew) (hb : Below W.heap.size W w4) (p : Addr) (hp : p.block = w.heap.size ∨ p.block = w.heap.size + 1) :
    w4.cell? p = (((w.alloc A).alloc B).alloc C).cell? p ∧ w4.frozen? p = (((w.alloc A).alloc B).alloc C).frozen? p := by
  subst hW
  exact ⟨hb.cell (by simp; omega), hb.frozen (by simp; omega)⟩

/-- What adding one key does. -/
def Added (w : World) (L : List ByteArray) (s : ByteArray) (r o : Int) (n : Nat) (e : Ending) (w' : World) : Prop :=
  (∃ g c, e = .returned (keysV (.slice (some ⟨g, 0, none⟩) (n + 1) c) r o) ∧ w.heap.size ≤ g ∧ Ss w' (.slice (some ⟨g, 0, none⟩) (n + 1) c) (L ++ [s])) ∧ Below w.heap.size w w'
/-- A slice of strings, where its own block has not turned. -/
theorem Ss.of_block {w w' : World} {g o n c : Nat} {L : List ByteArray} (h : Ss w (.slice (some ⟨g, o, none⟩) n c) L) (hc : ∀ j, w'.cell? ⟨g, j, none⟩ = w.cell? ⟨g, j, none⟩) (hs : w.heap.size ≤ w'.heap.size) : Ss w' (.slice (some ⟨g, o, none⟩) n c) L := by
  rcases h with ⟨h, _⟩ | ⟨a, d, h, h2⟩ | ⟨b, p, d, h, h1, h2, h3, hA, hb⟩
  · cases h
  · exact .inr (.inl ⟨a, d, h, h2⟩)
  · injection h with e1 e2 e3
    injection (Option.some.inj e1) with e4 e5
    subst e4; subst e5; subst e3
    exact .inr (.inr ⟨g, o, c, by rw [e2], h1, h2, h3, fun j hj => (hc _).trans (hA j hj), Nat.lt_of_lt_of_le hb hs⟩)

set_option maxHeartbeats 400000 in
set_option maxRecDepth 100000 in
theorem add_walk (ao : Option Addr) (n c : Nat) (r o : Nat) (L : List ByteArray) (s : ByteArray) (req : Bool) (w : World) (h : Ss w (.slice ao n c) L) (hn : n < 64) (hni : s ∉ L) (hr : r < 18446744073709551616) :
    Calls Tryd.prog 38 #[keysV (.slice ao n c) r o, .string s, .bool req] w (Added w L s (rq req r n) o n) := by
  have hcv : ∀ wx : World, (convert 9 56 (.string s)).run Tryd.prog wx = .ok (.slice (some ⟨wx.heap.size, 0, none⟩) s.size (grownCap wx s.size 0 5)) ((wx.alloc (byteBlock s (grownCap wx s.size 0 5))).drew) := fun wx => run_bytes_of_string wx 9 56 5 s Tryd.underlying9 Tryd.underlying56 Tryd.underlying5
  obtain ⟨i0, hi, hz0, hz1, hz2⟩ := info_parts Tryd.info9
  have HR : Hid (r < 18446744073709551616) := hr
  clear hr
  go_enter Tryd.func38, Tryd.ntmps38
  go_wp2_with fail
  refine (index_walk ao n c r o L s _ _ _ ?hss (by omega) ?hbk hni).mono ?_
  case hss => exact h.later (below3 _ _ _ _)
  case hbk =>
    intro wx hb
    have hcb := conv_back ((w.alloc (.cells #[.slice ao n c, .int .u64 r, .int .u64 o] 29)).alloc (.cells #[.slice none 0 0, .int .u64 0, .int .u64 0] 29)) wx s _ hb
    simpa using hcb
  rintro e w4 ⟨rfl, hb4⟩
  have T := fun (b o : Nat) (hp : b = w.heap.size ∨ b = w.heap.size + 1) => two_blocks rfl hb4 ⟨b, o, none⟩ hp
  have S4 : Six w.heap.size w4 ao n c r o := ⟨(T _ 0 (.inl rfl)).1.trans (by go_simp), (T _ 1 (.inl rfl)).1.trans (by go_simp), (T _ 2 (.inl rfl)).1.trans (by go_simp), (T _ 0 (.inl rfl)).2.trans (by go_simp), (T _ 1 (.inl rfl)).2.trans (by go_simp),
    (T _ 0 (.inr rfl)).1.trans (by go_simp), (T _ 1 (.inr rfl)).1.trans (by go_simp), (T _ 2 (.inr rfl)).1.trans (by go_simp), (T _ 0 (.inr rfl)).2.trans (by go_simp), (T _ 1 (.inr rfl)).2.trans (by go_simp), (T _ 2 (.inr rfl)).2.trans (by go_simp)⟩
  have hbw : Below w.heap.size w w4 := below2 (below3 _ _ _ _) hb4
  have hsz4 : w.heap.size + 3 ≤ w4.heap.size := by have := hb4.size; simp at this; omega
  have hsl := full_run ao n c h.cap
  have h4 := h.later hbw
  have HZ : Hid (ao = none → n = 0) := h.none_zero
  have HN : Hid (n = L.length) := h.len
  have h0 := h
  have hR : bits .or .u64 (r : Int) (IntKind.u64.wrap (2 ^ n)) = ((orb r n : Nat) : Int) := or_bit HR.out hn
  clear T hb4 hcv h
  obtain ⟨f0, f1, f2, f3, f4, g0, g1, g2, g3, g4, g5⟩ := S4
  cases req with
  | false =>
    go_wp2_with (at_builtin; refine wpList_append_grows _ rfl (.tmp 39) (.tmp 41) 22 rfl 9 i0 (.string ByteArray.empty) 1 16 Tryd.underlying22 hi hz0 hz1 hz2 rfl (by decide) ao n n (L.map Value.string) rfl ?c1 ?c2 ?c3 ⟨w4.heap.size, 0, none⟩ 1 1 [.string s] rfl rfl (cell_one_new _ _ _) ?c4 ?c5 ?c6 ?c7 ?_)
    case c1 => exact fun e => ⟨HZ.out e, HZ.out e⟩
    case c2 => rw [List.length_map, Nat.mul_one]; exact HN.out.symm
    case c3 => exact fun b hb j u hj => later_cell (h4.olds b hb j u hj)
    case c4 => intro u hu; simp at hu; subst hu; rfl
    case c5 => omega
    case c6 => unfold maxLen; omega
    case c7 => omega
    intro v5 w5 hown hgrow
    have hb5 : Below w4.heap.size w4 w5 := ((Below.refl _ _).alloc (Nat.le_refl _) _).grown hgrow (by simp) (fun _ h => by cases h)
    have S5 := Six.later (B := w.heap.size) ⟨f0, f1, f2, f3, f4, g0, g1, g2, g3, g4, g5⟩ hb5 (by omega)
    clear f0 f1 f2 f3 f4 g0 g1 g2 g3 g4 g5
    obtain ⟨f0, f1, f2, f3, f4, g0, g1, g2, g3, g4, g5⟩ := S5
    obtain ⟨g, cap5, rfl, hg, hcap1, hcap2, hnl, hAt, hglt⟩ := own_form (M := L ++ [s]) (by rw [List.map_append]; exact hown) (by omega)
    have hbw5 := below2 hbw hb5
    have HNL : Hid (n + 1 = (L ++ [s]).length) := hnl
    have HA : Hid (AtS w5 g 0 (L ++ [s])) := hAt
    clear hown hgrow hsl h4 hnl hAt
    go_wp2_with fail
    refine bodyPost_ret (v := keysV (.slice (some ⟨g, 0, none⟩) (n + 1) cap5) r o) (by simp [results, Tryd.results38, go_sem, g0, g1, g2]) rfl ⟨⟨g, cap5, rfl, by omega, ?_⟩, ?_⟩
    · exact ss_final HA.out HNL.out hcap1 hcap2 (fun j => by rw [set_other _ _ _ _ (by simp; omega), set_other _ _ _ _ (by simp; omega), set_other _ _ _ _ (by simp; omega), set_other _ _ _ _ (by simp; omega)]) (by simpa using hglt)
    · exact (((hbw5.setCell (by simp) _).setCell (by simp) _).setCell (by simp) _).setCell (by simp) _
  | true =>
    go_wp2_with fail
    go_region
    generalize hwv : (w4.setCell ⟨w.heap.size, 1, none⟩ (.int .u64 ((orb r n : Nat) : Int))).drew = wv
    have hbv : Below w.heap.size w wv := by rw [← hwv]; exact (hbw.setCell (by simp) _).drew
    have hszv : w.heap.size + 3 ≤ wv.heap.size := by rw [← hwv]; exact Nat.le_trans hsz4 (((Below.refl 0 w4).setCell (Nat.zero_le _) _).drew).size
    have hv4 : Ss wv (.slice ao n c) L := h0.later hbv
    have SV : Six w.heap.size wv ao n c (orb r n) o := by rw [← hwv]; exact six_set ⟨f0, f1, f2, f3, f4, g0, g1, g2, g3, g4, g5⟩ _
    clear f0 f1 f2 f3 f4 g0 g1 g2 g3 g4 g5 hwv hbw hsz4 h4 hR
    obtain ⟨f0, f1, f2, f3, f4, g0, g1, g2, g3, g4, g5⟩ := SV
    go_wp2_with (at_builtin; refine wpList_append_grows _ rfl (.tmp 39) (.tmp 41) 22 rfl 9 i0 (.string ByteArray.empty) 1 16 Tryd.underlying22 hi hz0 hz1 hz2 rfl (by decide) ao n n (L.map Value.string) rfl ?c1 ?c2 ?c3 ⟨wv.heap.size, 0, none⟩ 1 1 [.string s] rfl rfl (cell_one_new _ _ _) ?c4 ?c5 ?c6 ?c7 ?_)
    case c1 => exact fun e => ⟨HZ.out e, HZ.out e⟩
    case c2 => rw [List.length_map, Nat.mul_one]; exact HN.out.symm
    case c3 => exact fun b hb j u hj => later_cell (hv4.olds b hb j u hj)
    case c4 => intro u hu; simp at hu; subst hu; rfl
    case c5 => omega
    case c6 => unfold maxLen; omega
    case c7 => omega
    intro v5 w5 hown hgrow
    have hb5 : Below wv.heap.size wv w5 := ((Below.refl _ _).alloc (Nat.le_refl _) _).grown hgrow (by simp) (fun _ h => by cases h)
    have S5 := Six.later (B := w.heap.size) ⟨f0, f1, f2, f3, f4, g0, g1, g2, g3, g4, g5⟩ hb5 (by omega)
    clear f0 f1 f2 f3 f4 g0 g1 g2 g3 g4 g5
    obtain ⟨f0, f1, f2, f3, f4, g0, g1, g2, g3, g4, g5⟩ := S5
    obtain ⟨g, cap5, rfl, hg, hcap1, hcap2, hnl, hAt, hglt⟩ := own_form (M := L ++ [s]) (by rw [List.map_append]; exact hown) (by omega)
    have hbw5 := below2 hbv hb5
    have HNL : Hid (n + 1 = (L ++ [s]).length) := hnl
    have HA : Hid (AtS w5 g 0 (L ++ [s])) := hAt
    clear hown hgrow hsl hv4 hnl hAt
    go_wp2_with fail
    refine bodyPost_ret (v := keysV (.slice (some ⟨g, 0, none⟩) (n + 1) cap5) (orb r n) o) (by simp [results, Tryd.results38, go_sem, g0, g1, g2]) rfl ⟨⟨g, cap5, rfl, by omega, ?_⟩, ?_⟩
    · exact ss_final HA.out HNL.out hcap1 hcap2 (fun j => by rw [set_other _ _ _ _ (by simp; omega), set_other _ _ _ _ (by simp; omega), set_other _ _ _ _ (by simp; omega), set_other _ _ _ _ (by simp; omega)]) (by simpa using hglt)
    · exact (((hbw5.setCell (by simp) _).setCell (by simp) _).setCell (by simp) _).setCell (by simp) _
end Go.Proofs.Qxb6600738aDoor
