import Derived.Test.Qxb6000950aDoorNum
import Derived.Test.Qxb6000950aDoorShelf
import Derived.Deep.RegionWith
/-! THE WALKS of endsInNumber and ZZEndsInNumber. -/
namespace Go.Proofs.Qxb6000950aDoor
open Go.RowKit

theorem trim_any (s c : ByteArray) (w : World) (hs : s.size ≤ 65536) (hc : c.size < 4294967281) (ha : ∀ (j : Nat) b, c.data.toList[j]? = some b → b.toNat < 128) :
    Calls Tryd.prog 21 #[.string s, .string c] w fun e w' => e = .returned (.string ⟨(Lib.trimS s.data.toList c.data.toList).toArray⟩) ∧ Below w.heap.size w w' :=
  Any.strings_Trim_laid Tryd.lays160 (by kernel_rfl) s c w (by omega) hc ha

theorem trim_dec (s : ByteArray) (w : World) (hs : s.size ≤ 65536) :
    Calls Tryd.prog 21 #[.string s, .string ⟨#[48, 49, 50, 51, 52, 53, 54, 55, 56, 57]⟩] w fun e w' => e = .returned (.string ⟨(Lib.trimS s.data.toList Plain.dec).toArray⟩) ∧ Below w.heap.size w w' :=
  trim_any s _ w hs (by decide) (ascii_of_all (by decide))
theorem trim_hex (y : ByteArray) (w : World) (hs : (Lib.trimPrefix y.data.toList [48, 120]).length ≤ 65536) :
    Calls Tryd.prog 21 #[.string ⟨(Lib.trimPrefix y.data.toList [48, 120]).toArray⟩, .string ⟨#[48, 49, 50, 51, 52, 53, 54, 55, 56, 57, 97, 98, 99, 100, 101, 102]⟩] w fun e w' =>
      e = .returned (.string ⟨(Lib.trimS (Lib.trimPrefix y.data.toList [48, 120]) Plain.hex).toArray⟩) ∧ Below w.heap.size w w' :=
  trim_any ⟨(Lib.trimPrefix y.data.toList [48, 120]).toArray⟩ _ w hs (by decide) (ascii_of_all (by decide))

theorem nonempty_of {y : ByteArray} (h : ¬ y.toList = []) : y.data.toList.isEmpty = false := by
  rw [ByteArray.toList_eq] at h
  exact List.isEmpty_eq_false_iff.2 h
theorem ends_true {y : ByteArray} (h : (!y.toList.isEmpty) = true ∧ (Lib.trimS y.data.toList Plain.dec).isEmpty = true) : true = Plain.num y.data.toList := by
  rw [ByteArray.toList_eq] at h
  rw [← Plain.num_trim, h.1, h.2]; rfl
theorem ends_pre {y : ByteArray} (h : y.toList = [] ∨ ((!y.toList.isEmpty) = false ∨ (Lib.trimS y.data.toList Plain.dec).isEmpty = false)) (hp : Lib.hasPrefix y.data.toList [48, 120] = true) :
    (Lib.trimS (Lib.trimPrefix y.data.toList [48, 120]) Plain.hex).isEmpty = Plain.num y.data.toList := by
  rw [ByteArray.toList_eq] at h
  rw [← Plain.num_trim, hp]
  rcases h with h | h | h
  · rw [h]; rfl
  · rw [h]; simp
  · rw [h]; simp
theorem ends_nopre {y : ByteArray} (h : y.toList = [] ∨ ((!y.toList.isEmpty) = false ∨ (Lib.trimS y.data.toList Plain.dec).isEmpty = false)) (hp : ¬ Lib.hasPrefix y.data.toList [48, 120] = true) :
    false = Plain.num y.data.toList := by
  rw [ByteArray.toList_eq] at h
  rw [← Plain.num_trim, Bool.eq_false_iff.2 hp]
  rcases h with h | h | h
  · rw [h]; rfl
  · rw [h]; simp
  · rw [h]; simp

theorem below2 {B : Nat} {w w1 w2 : World} (h : Below B w w1) (h2 : Below w1.heap.size w1 w2) (hB : B ≤ w.heap.size := by simp) : Below B w w2 :=
  h.trans (h2.mono (Nat.le_trans hB h.size))

set_option maxHeartbeats 400000 in
theorem ends_walk (s : ByteArray) (w : World) (L : List ByteArray) (c n : Nat) (y : ByteArray) (hn : n ≤ 65536)
    (hw : Calls Tryd.prog 16 #[.string s] w fun e w' =>
      e = .returned (.slice (some ⟨w.heap.size, 0, none⟩) (n + 1) (c + 1)) ∧ w' = w.alloc (.cells (L.map Value.string).toArray 9))
    (hcell : (w.alloc (.cells (L.map Value.string).toArray 9)).cell? ⟨w.heap.size, n, none⟩ = some (.string y)) (hy : y.size ≤ 65536) (h2 : (Lib.trimPrefix y.data.toList [48, 120]).length ≤ 65536) :
    Calls Tryd.prog 17 #[.string s] w fun e w' => e = .returned (.bool (Plain.num y.data.toList)) ∧ Below w.heap.size w w' := by
  have bal : Below w.heap.size w (w.alloc (.cells (L.map Value.string).toArray 9)) := (Below.refl _ _).alloc (Nat.le_refl _) _
  go_enter Tryd.func17, Tryd.ntmps17
  go_wp2_with (first
    | (go_at_call 16; refine hw.mono ?_; rintro e w' ⟨rfl, rfl⟩)
    | (go_at_call_of 21 (Value.string ⟨#[48, 49, 50, 51, 52, 53, 54, 55, 56, 57]⟩); refine (trim_dec y _ hy).mono ?_; rintro e w1 ⟨rfl, hb1⟩)
    | (go_at_call 22; refine (Tryd.strings_CutPrefix y ⟨#[48, 120]⟩ _).mono ?_; rintro e w2 ⟨rfl, rfl⟩)
    | (go_at_call_of 21 (Value.string ⟨#[48, 49, 50, 51, 52, 53, 54, 55, 56, 57, 97, 98, 99, 100, 101, 102]⟩); refine (trim_hex y _ h2).mono ?_; rintro e w3 ⟨rfl, hb3⟩))
  all_goals go_ret
  · exact ⟨ret_bool (ends_pre (.inl ‹_›) ‹_›), below2 bal ‹_›⟩
  · exact ⟨ret_bool (ends_nopre (.inl ‹_›) ‹_›), bal⟩
  · exact ⟨ret_bool (ends_true ‹_›), below2 bal ‹_›⟩
  · have hx : (!y.toList.isEmpty) = false ∨ (Lib.trimS y.data.toList Plain.dec).isEmpty = false := by assumption
    exact ⟨ret_bool (ends_pre (.inr hx) ‹_›), below2 (below2 bal hb1) hb3⟩
  · have hx : (!y.toList.isEmpty) = false ∨ (Lib.trimS y.data.toList Plain.dec).isEmpty = false := by assumption
    exact ⟨ret_bool (ends_nopre (.inr hx) ‹_›), below2 bal ‹_›⟩

set_option maxHeartbeats 400000 in
theorem zzends_walk (s : ByteArray) (w : World) (b : Bool) (hw : Calls Tryd.prog 17 #[.string s] w fun e w' => e = .returned (.bool b) ∧ Below w.heap.size w w') :
    Calls Tryd.prog 12 #[.string s] w fun e w' => e = .returned (.bool b) ∧ Below w.heap.size w w' := by
  go_enter Tryd.func12, Tryd.ntmps12
  go_wp2_with (go_at_call 17; refine hw.mono ?_; rintro e w' ⟨rfl, hb⟩)
  go_ret
  exact ⟨rfl, by assumption⟩

/-- endsInNumber, at a text of which the pieces are told. -/
theorem ends_any (s : ByteArray) (w : World) (hs : s.size ≤ 65536) (L : List ByteArray) (c : Nat) (hl : L.length = c + 1) (hc : c ≤ 65536)
    (hsplit : Calls Tryd.prog 20 #[.string s, .string ⟨#[46]⟩] w fun e w' =>
      e = .returned (.slice (some ⟨w.heap.size, 0, none⟩) (c + 1) (c + 1)) ∧ w' = w.alloc (.cells (L.map Value.string).toArray 9))
    (hd : L.map (·.data.toList) = Lib.splitK [46] 0 (Lib.count s.data.toList [46]) s.data.toList) :
    ∃ (A : List UInt8) (y : ByteArray), Plain.want s.data.toList = A ++ y.data.toList ∧ (46 : UInt8) ∉ y.data.toList ∧ (A = [] ∨ A.getLast? = some 46) ∧
      Calls Tryd.prog 12 #[.string s] w fun e w' => e = .returned (.bool (Plain.num y.data.toList)) ∧ Below w.heap.size w w' := by
  obtain ⟨g1, g2, g3, g4⟩ := keep_good s L hd
  have hw := host_walk s w L c hl hc hsplit
  obtain ⟨n, hn⟩ : ∃ n, keep L = n + 1 := ⟨keep L - 1, by omega⟩
  have hnl : n < L.length := by omega
  rw [hn] at hw g3 g4
  have ht : L.take (n + 1) = L.take n ++ [L[n]] := List.take_succ_eq_append_getElem hnl
  rw [ht, List.map_append, List.map_singleton] at g3
  obtain ⟨A, hA, hA2⟩ := Plain.jn_last ((L.take n).map (·.data.toList)) L[n].data.toList
  rw [hA] at g3
  have hlen : L[n].size ≤ 65536 := by
    have h1 := congrArg List.length g3
    rw [List.length_append, ← Lib.size_eq] at h1
    have h2 := Plain.want_le s.data.toList
    rw [← Lib.size_eq] at h2
    omega
  refine ⟨A, L[n], g3.symm, g4 _ (by rw [ht]; exact List.mem_append_right _ (List.mem_singleton.2 rfl)), hA2, zzends_walk s w _ (ends_walk s w L c n L[n] (by omega) hw (cell_piece w L n hnl) hlen ?_)⟩
  have := Lib.trimPrefix_le L[n].data.toList [48, 120]
  rw [← Lib.size_eq] at this
  omega
end Go.Proofs.Qxb6000950aDoor
