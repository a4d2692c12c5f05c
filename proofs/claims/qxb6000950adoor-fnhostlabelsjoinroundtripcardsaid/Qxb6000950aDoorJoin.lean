import Derived.Test.Qxb6000950aDoorHost
/-! THE WALK of FnHostLabelsJoinRoundTrip, out of hostLabels' contract. -/
namespace Go.Proofs.Qxb6000950aDoor
open Go.RowKit

theorem Tryd.info5 : (Tryd.prog.info? 5).map (fun i => (i.zero, i.size, i.bytes)) = some (some (.int .u8 0), 1, 1) := by kernel_rfl

/-- Bytes as cells. -/
def vb (l : List UInt8) : List Value := l.map fun b => .int .u8 (b.toNat : Int)

/-- What has been joined of the first k labels. -/
def jk (L : List ByteArray) (k : Nat) : List UInt8 := Plain.jn ((L.take k).map (·.data.toList))

theorem jk_le {s : ByteArray} {L : List ByteArray} (g3 : Plain.jn ((L.take (keep L)).map (·.data.toList)) = Plain.want s.data.toList) (k : Nat) (hk : k ≤ keep L) :
    (jk L k).length ≤ s.size := by
  have h1 := Plain.jn_take_le ((L.take (keep L)).map (·.data.toList)) k
  rw [g3, ← List.map_take, List.take_take, Nat.min_eq_left hk] at h1
  have h2 := Plain.want_le s.data.toList
  have h3 : s.data.toList.length = s.size := (Lib.size_eq s).symm
  unfold jk
  omega

theorem jk_succ (L : List ByteArray) (k : Nat) (h : k < L.length) :
    jk L (k + 1) = (if k < 1 then jk L k else jk L k ++ [46]) ++ L[k].data.toList := by
  have := Plain.jn_take_succ (L.map (·.data.toList)) k (by simpa using h)
  rw [← List.map_take, ← List.map_take] at this
  unfold jk
  rw [this]
  by_cases h0 : k = 0
  · subst h0; simp [Plain.jn]
  · rw [if_neg h0, if_neg (by omega)]; simp

/-- What one round of the outer loop wants. -/
theorem round_facts (s : ByteArray) (w wr : World) (L : List ByteArray) (k : Nat) (hlt : k < keep L) (g2 : keep L ≤ L.length)
    (g3 : Plain.jn ((L.take (keep L)).map (·.data.toList)) = Plain.want s.data.toList) (g4 : ∀ p ∈ L.take (keep L), (46 : UInt8) ∉ p.data.toList)
    (hb : Below (w.heap.size + 1) (w.alloc (.cells (L.map Value.string).toArray 9)) wr) :
    ∃ (l : ByteArray) (pre : List UInt8), wr.cell? ⟨w.heap.size, k, none⟩ = some (.string l) ∧ pre = (if k < 1 then jk L k else jk L k ++ [46]) ∧
      (∀ (m : Nat) (h : m < l.size), ((l[m].toNat : Int) == 46) = false) ∧ pre.length + l.size ≤ s.size ∧ jk L (k + 1) = pre ++ l.data.toList := by
  have hkl : k < L.length := by omega
  refine ⟨L[k], _, (hb.cell (p := ⟨w.heap.size, k, none⟩) (by simp)).trans (cell_piece w L k hkl), rfl, ?_, ?_, jk_succ L k hkl⟩
  · intro m h
    have hm : L[k] ∈ L.take (keep L) := by
      rw [List.mem_iff_getElem]
      exact ⟨k, by simp; omega, by simp⟩
    have hne := g4 _ hm
    have hmem : L[k][m] ∈ L[k].data.toList := by
      have : L[k][m] = L[k].data[m] := rfl
      rw [this]; simp
    simp only [beq_eq_false_iff_ne, ne_eq]
    intro e
    apply hne
    have : L[k][m] = 46 := UInt8.toNat_inj.1 (by have : ((46 : UInt8).toNat : Int) = 46 := rfl
                                                 omega)
    rw [this] at hmem
    exact hmem
  · have h1 := jk_le (s := s) g3 (k + 1) (by omega)
    rw [jk_succ L k hkl, List.length_append] at h1
    have : L[k].data.toList.length = L[k].size := (Lib.size_eq _).symm
    omega

theorem vb_step (pre : List UInt8) (l : ByteArray) (m : Nat) (h : m < l.size) : vb (pre ++ l.data.toList.take (m + 1)) = vb (pre ++ l.data.toList.take m) ++ [.int .u8 (l[m].toNat : Int)] := by
  rw [List.take_succ_eq_append_getElem (by rw [← Lib.size_eq]; exact h)]
  simp [vb]
  rfl

theorem below_app {B : Nat} {w0 wr w1 : World} {o : Obj} {g : Nat} (hb : Below B w0 wr) (hg : (wr.alloc o).grownBy w1 (some g)) (h0 : B ≤ w0.heap.size := by simp) (h1 : B ≤ g := by omega) : Below B w0 w1 := by
  have hsz := hb.size
  exact (hb.alloc (by omega) o).grown hg (by simp; omega) (fun k hk => by cases hk; exact h1)

theorem own_cells {wr : World} {B g n cap : Nat} {l : List UInt8} (h : wr.ownsRow B 5 1 (.slice (some ⟨g, 0, none⟩) n cap) n (vb l)) :
    ∀ j (hj : j < l.length), wr.cell? ((⟨g, 0, none⟩ : Addr).add j) = some (.int .u8 (l[j].toNat : Int)) := by
  intro j hj
  have hn : (vb l).length = n * 1 := h.1
  have hv : (vb l).length = l.length := by simp [vb]
  have e : (⟨g, 0, none⟩ : Addr).add j = ⟨g, j, none⟩ := by unfold Addr.add; split <;> simp_all
  rw [e, h.cellAt j (by omega)]
  simp [vb, hj]

theorem last_byte (s : ByteArray) (h : 0 < s.size) : s.data.toList.getLast? = some s[s.size - 1] := by
  have hlen := (Lib.size_eq s).symm
  rw [List.getLast?_eq_getElem?, hlen, List.getElem?_eq_getElem (by omega)]
  rfl

theorem dot_iff (b : UInt8) : (((b.toNat : Int) == 46) = true) ↔ b = 46 := by
  rw [beq_iff_eq]
  constructor
  · intro e
    exact UInt8.toNat_inj.1 (by have : ((46 : UInt8).toNat : Int) = 46 := rfl
                                omega)
  · intro e; subst e; rfl

theorem want_dot {s : ByteArray} {L : List ByteArray} (g3 : Plain.jn ((L.take (keep L)).map (·.data.toList)) = Plain.want s.data.toList) (h : 0 < s.size)
    (hd : ((s[s.size - 1].toNat : Int) == 46) = true) : (jk L (keep L) == (s.extract 0 (s.size - 1)).toList) = true := by
  have e := (dot_iff _).1 hd
  rw [beq_iff_eq, ByteArray.toList_eq, Lib.extract_from_zero]
  unfold jk
  rw [g3, Plain.want, if_pos (by rw [last_byte s h, e]), List.dropLast_eq_take, ← Lib.size_eq]

theorem want_nodot {s : ByteArray} {L : List ByteArray} (g3 : Plain.jn ((L.take (keep L)).map (·.data.toList)) = Plain.want s.data.toList) (h : 0 < s.size)
    (hd : ((s[s.size - 1].toNat : Int) == 46) = false) : (jk L (keep L) == s.toList) = true := by
  have e : s[s.size - 1] ≠ 46 := fun e => by rw [(dot_iff _).2 e] at hd; cases hd
  rw [beq_iff_eq, ByteArray.toList_eq]
  unfold jk
  rw [g3, Plain.want, if_neg (by rw [last_byte s h]; simpa using e)]

theorem want_none {s : ByteArray} {L : List ByteArray} (g3 : Plain.jn ((L.take (keep L)).map (·.data.toList)) = Plain.want s.data.toList) (h : ¬ 0 < s.size) : (jk L (keep L) == s.toList) = true := by
  rw [beq_iff_eq, ByteArray.toList_eq]
  unfold jk
  have : s.data.toList = [] := List.length_eq_zero_iff.1 (by rw [← Lib.size_eq]; omega)
  rw [g3, Plain.want, this, if_neg (by simp)]

set_option maxHeartbeats 1000000 in
theorem join_walk (s : ByteArray) (w : World) (hs : s.size ≤ 65536) (L : List ByteArray) (c : Nat) (hl : L.length = c + 1) (hc : c ≤ 65536)
    (hsplit : Calls Tryd.prog 20 #[.string s, .string ⟨#[46]⟩] w fun e w' =>
      e = .returned (.slice (some ⟨w.heap.size, 0, none⟩) (c + 1) (c + 1)) ∧ w' = w.alloc (.cells (L.map Value.string).toArray 9))
    (g1 : 1 ≤ keep L) (g2 : keep L ≤ L.length) (g3 : Plain.jn ((L.take (keep L)).map (·.data.toList)) = Plain.want s.data.toList)
    (g4 : ∀ p ∈ L.take (keep L), (46 : UInt8) ∉ p.data.toList) :
    Calls Tryd.prog 3 #[.string s] w fun e w' => e = .returned (.bool true) ∧ Below w.heap.size w w' := by
  have hw := zzhost_walk s w L c hl hc hsplit
  obtain ⟨i0, hi, hz0, hz1, hz2⟩ := info_parts Tryd.info5
  go_enter Tryd.func3, Tryd.ntmps3
  go_wp2_with (first
    | (go_at_call 9; refine hw.mono ?_; rintro e w' ⟨rfl, rfl⟩)
    | (at_make; refine wpList_make_own _ rfl _ _ 25 rfl (w.heap.size + 1) 5 i0 (.int .u8 0) 1 Tryd.underlying25 hi hz0 hz1 .i64 .i64 _ s.size rfl rfl rfl (by rw [hz2]; omega) (by unfold maxLen; omega) (by simp) ?_; intro w0 hown0 hgrow0)
    | go_in)
  all_goals
    go_loopw [5, 6] (fun v i wr => ∃ k : Nat, k ≤ keep L ∧ i = .int .i64 k ∧ v = .slice (some ⟨w.heap.size + 1, 0, none⟩) (jk L k).length s.size ∧
        wr.ownsRow (w.heap.size + 1) 5 1 v (jk L k).length (vb (jk L k)) ∧ Below (w.heap.size + 1) (w.alloc (.cells (L.map Value.string).toArray 9)) wr) (fun _ i _ => keep L - (intOf i).toNat)
    case atStart =>
      exact ⟨0, Nat.zero_le _, rfl, rfl, by simpa [jk, Plain.jn, vb] using hown0, (Below.refl _ _).grown hgrow0 (by simp) (fun _ h => by cases h)⟩
    case round =>
      clear hown0 hgrow0
      obtain ⟨k, hk, rfl, rfl, hown, hb⟩ := hrel
      by_cases hlt : k < keep L
      · obtain ⟨l, pre, hcell, hpre, hdots, hroom, hnext⟩ := round_facts s w wr L k hlt g2 g3 g4 hb
        have HN : Hid (jk L (k + 1) = pre ++ l.data.toList) := hnext
        have HD : Hid (∀ (m : Nat) (h : m < l.size), ((l[m].toNat : Int) == 46) = false) := hdots
        clear hnext hdots
        have hsz := hb.size
        have hjl := jk_le (s := s) g3 k hk
        by_cases hk0 : k < 1
        · have hp : pre = jk L k := by rw [hpre, if_pos hk0]
          subst hp
          clear hpre
          have hd0 : decide (0 < k) = false := decide_eq_false (by omega)
          go_wp2
          go_loopw [5, 8] (fun v j wq => ∃ m : Nat, m ≤ l.size ∧ j = .int .i64 m ∧ v = .slice (some ⟨w.heap.size + 1, 0, none⟩) ((jk L k).length + m) s.size ∧
              wq.ownsRow (w.heap.size + 1) 5 1 v ((jk L k).length + m) (vb (jk L k ++ l.data.toList.take m)) ∧ Below (w.heap.size + 1) (w.alloc (.cells (L.map Value.string).toArray 9)) wq) (fun _ j _ => l.size - (intOf j).toNat)
          case atStart => exact ⟨0, Nat.zero_le _, rfl, rfl, by simpa using hown, hb⟩
          case round =>
            obtain ⟨m, hm, rfl, rfl, hownq, hbq⟩ := hrel
            by_cases hml : m < l.size
            · first
                | (exfalso; omega)
                | (have hd := HD.out m hml
                   go_wp2_with (at_builtin; refine wpList_append_fits _ rfl (.tmp 65) (.tmp 69) 25 rfl (w.heap.size + 1) 5 i0 1 Tryd.underlying25 hi hz1 (w.heap.size + 1) ((jk L k).length + m) s.size _ rfl (hownq.alloc _) ⟨wr.heap.size, 0, none⟩ 1 1 [.int .u8 (l[m].toNat : Int)] rfl rfl (cell_one_new _ _ _) (by intro u hu; simp at hu; subst hu; rfl) (by omega) ?_; intro w1 hown1 hgrow1)
                   go_roundw
                   case rel => exact ⟨m + 1, by omega, by go_num, rfl, by rw [vb_step _ _ _ hml]; exact hown1, below_app hbq hgrow1⟩
                   case measure => simp [intOf]; omega)
            · have hme : m = l.size := by omega
              subst hme
              have hownz : wr.ownsRow (w.heap.size + 1) 5 1 (.slice (some ⟨w.heap.size + 1, 0, none⟩) ((jk L k).length + l.size) s.size) ((jk L k).length + l.size) (vb (jk L (k + 1))) := by
                rw [HN.out]; rw [List.take_of_length_le (by rw [← Lib.size_eq]; exact Nat.le_refl _)] at hownq; exact hownq
              have hlen2 : (jk L (k + 1)).length = (jk L k).length + l.size := by rw [HN.out, List.length_append, ← Lib.size_eq]
              have HL : Hid ((jk L (k + 1)).length = (jk L k).length + l.size) := hlen2
              clear hlen2
              go_wp2
              go_roundw
              case rel => exact ⟨k + 1, by omega, by go_num, by rw [HL.out], by rw [HL.out]; exact hownz, hbq⟩
              case measure => simp [intOf]; omega
        · first
            | (exfalso; rw [hpre, if_neg hk0, List.length_append, List.length_singleton] at hroom; omega)
            | (have hp : pre = jk L k ++ [46] := by rw [hpre, if_neg hk0]
               subst hp
               clear hpre
               have hpl : (jk L k ++ [46]).length = (jk L k).length + 1 := by simp
               rw [hpl] at hroom
               clear hpl
               have hd0 : decide (0 < k) = true := decide_eq_true (by omega)
               go_wp2_with (at_builtin; refine wpList_append_fits _ rfl (.tmp 52) (.tmp 53) 25 rfl (w.heap.size + 1) 5 i0 1 Tryd.underlying25 hi hz1 (w.heap.size + 1) (jk L k).length s.size _ rfl (hown.alloc _) ⟨wr.heap.size, 0, none⟩ 1 1 [.int .u8 46] rfl rfl (cell_one_new _ _ _) (by intro u hu; simp at hu; subst hu; rfl) (by omega) ?_; intro w1 hown1 hgrow1)
               have hb1 := below_app hb hgrow1
               go_loopw [5, 8] (fun v j wq => ∃ m : Nat, m ≤ l.size ∧ j = .int .i64 m ∧ v = .slice (some ⟨w.heap.size + 1, 0, none⟩) ((jk L k).length + 1 + m) s.size ∧ wq.ownsRow (w.heap.size + 1) 5 1 v ((jk L k).length + 1 + m) (vb ((jk L k ++ [46]) ++ l.data.toList.take m)) ∧ Below (w.heap.size + 1) (w.alloc (.cells (L.map Value.string).toArray 9)) wq) (fun _ j _ => l.size - (intOf j).toNat)
               case atStart => exact ⟨0, Nat.zero_le _, rfl, rfl, by simpa [vb] using hown1, hb1⟩
               case round =>
                 clear hown1 hgrow1 hown
                 obtain ⟨m, hm, rfl, rfl, hownq, hbq⟩ := hrel
                 by_cases hml : m < l.size
                 · have hd := HD.out m hml
                   go_wp2_with (at_builtin; refine wpList_append_fits _ rfl (.tmp 65) (.tmp 69) 25 rfl (w.heap.size + 1) 5 i0 1 Tryd.underlying25 hi hz1 (w.heap.size + 1) ((jk L k).length + 1 + m) s.size _ rfl (hownq.alloc _) ⟨wr.heap.size, 0, none⟩ 1 1 [.int .u8 (l[m].toNat : Int)] rfl rfl (cell_one_new _ _ _) (by intro u hu; simp at hu; subst hu; rfl) (by omega) ?_; intro w2 hown2 hgrow2)
                   go_roundw
                   case rel => exact ⟨m + 1, by omega, by go_num, rfl, by rw [vb_step _ _ _ hml]; exact hown2, below_app hbq hgrow2⟩
                   case measure => simp [intOf]; omega
                 · have hme : m = l.size := by omega
                   subst hme
                   have hownz : wr.ownsRow (w.heap.size + 1) 5 1 (.slice (some ⟨w.heap.size + 1, 0, none⟩) ((jk L k).length + 1 + l.size) s.size) ((jk L k).length + 1 + l.size) (vb (jk L (k + 1))) := by
                     rw [HN.out]; rw [List.take_of_length_le (by rw [← Lib.size_eq]; exact Nat.le_refl _)] at hownq; exact hownq
                   have hlen2 : (jk L (k + 1)).length = (jk L k).length + 1 + l.size := by rw [HN.out, List.length_append, ← Lib.size_eq]; simp
                   have HL : Hid ((jk L (k + 1)).length = (jk L k).length + 1 + l.size) := hlen2
                   clear hlen2
                   go_wp2
                   go_roundw
                   case rel => exact ⟨k + 1, by omega, by go_num, by rw [HL.out], by rw [HL.out]; exact hownz, hbq⟩
                   case measure => simp [intOf]; omega)
      · have hke : k = keep L := by omega
        subst hke
        have hconv := run_convert_bytes_back (P := Tryd.prog) wr 25 9 5 ⟨w.heap.size + 1, 0, none⟩ s.size (jk L (keep L)) Tryd.underlying25 Tryd.underlying5 Tryd.underlying9 (own_cells hown)
        clear hown
        go_wp2
        go_ret
        refine ⟨congrArg (fun b => Ending.returned (.bool b)) ?_, ((Below.refl _ _).alloc (Nat.le_refl _) _).trans (hb.mono (by omega))⟩
        first | exact want_dot g3 ‹0 < s.size› ‹_› | exact want_nodot g3 ‹0 < s.size› ‹_› | exact want_none g3 ‹_›

set_option maxHeartbeats 400000 in
/-- A text that is too long. -/
theorem join_long (s : ByteArray) (w : World) (hm : s.size ≤ maxLen) (hs : 65536 < s.size) :
    Calls Tryd.prog 3 #[.string s] w fun e w' => e = .returned (.bool true) ∧ Below w.heap.size w w' := by
  unfold maxLen at hm
  go_enter Tryd.func3, Tryd.ntmps3
  go_wp2
  all_goals
    go_ret
    exact ⟨rfl, Below.refl _ _⟩
end Go.Proofs.Qxb6000950aDoor
