import Derived.Test.Qxb6000950aDoorRows
import Derived.Test.Qxb6000950aDoorPlain
import Derived.WalkKit
import Derived.WalkSpells
import Derived.WalkLawsBesides
/-! THE WALK of config.hostLabels and ZZHostLabels, strings.Split by what is handed in of it. -/
namespace Go.Proofs.Qxb6000950aDoor
open Go.RowKit

/-- How many of the pieces are handed back. -/
def keep (L : List ByteArray) : Nat := if 1 < L.length ∧ L.getLast? = some ByteArray.empty then L.length - 1 else L.length

theorem cell_piece (w : World) (L : List ByteArray) (j : Nat) (h : j < L.length) :
    (w.alloc (.cells (L.map Value.string).toArray 9)).cell? ⟨w.heap.size, j, none⟩ = some (.string L[j]) := by
  simp [World.cell?_alloc_at, h]

theorem empty_of {b : ByteArray} (h : b.toList.isEmpty = true) : b = ByteArray.empty := by
  rw [List.isEmpty_iff, ByteArray.toList_eq] at h
  exact WideShapes.bytes_inj (by rw [h]; rfl)
theorem not_empty_of {b : ByteArray} (h : b.toList.isEmpty = false) : b ≠ ByteArray.empty := by
  intro e
  subst e
  rw [ByteArray.toList_eq] at h
  simp at h
theorem last_of {L : List ByteArray} {c : Nat} (hl : L.length = c + 1) (h : L[c] = ByteArray.empty) : L.getLast? = some ByteArray.empty := by
  rw [List.getLast?_eq_getElem?, hl, Nat.add_sub_cancel, List.getElem?_eq_getElem (by omega), h]
theorem last_inv {L : List ByteArray} {c : Nat} (hl : L.length = c + 1) (h : L.getLast? = some ByteArray.empty) : L[c] = ByteArray.empty := by
  rw [List.getLast?_eq_getElem?, hl, Nat.add_sub_cancel, List.getElem?_eq_getElem (by omega)] at h
  exact Option.some.inj h

set_option maxHeartbeats 400000 in
theorem host_walk (s : ByteArray) (w : World) (L : List ByteArray) (c : Nat) (hl : L.length = c + 1) (hc : c ≤ 65536)
    (hsplit : Calls Tryd.prog 20 #[.string s, .string ⟨#[46]⟩] w fun e w' =>
      e = .returned (.slice (some ⟨w.heap.size, 0, none⟩) (c + 1) (c + 1)) ∧ w' = w.alloc (.cells (L.map Value.string).toArray 9)) :
    Calls Tryd.prog 16 #[.string s] w fun e w' =>
      e = .returned (.slice (some ⟨w.heap.size, 0, none⟩) (keep L) (c + 1)) ∧ w' = w.alloc (.cells (L.map Value.string).toArray 9) := by
  have hcell := cell_piece w L c (by omega)
  go_enter Tryd.func16, Tryd.ntmps16
  go_wp2_with (go_at_call 20; refine hsplit.mono ?_; rintro e w' ⟨rfl, rfl⟩)
  · have he : L[c].toList.isEmpty = true := by assumption
    have hk : keep L = c := by rw [keep, if_pos ⟨by omega, last_of hl (empty_of he)⟩]; omega
    go_ret
    exact ⟨by rw [hk]; rfl, rfl⟩
  · have he : L[c].toList.isEmpty = false := by assumption
    have hk : keep L = c + 1 := by rw [keep, if_neg (fun h => not_empty_of he (last_inv hl h.2))]; exact hl
    go_ret
    exact ⟨by rw [hk]; rfl, rfl⟩
  · have hk : keep L = c + 1 := by rw [keep, if_neg (fun h => by omega)]; exact hl
    go_ret
    exact ⟨by rw [hk]; rfl, rfl⟩

set_option maxHeartbeats 400000 in
theorem zzhost_walk (s : ByteArray) (w : World) (L : List ByteArray) (c : Nat) (hl : L.length = c + 1) (hc : c ≤ 65536)
    (hsplit : Calls Tryd.prog 20 #[.string s, .string ⟨#[46]⟩] w fun e w' =>
      e = .returned (.slice (some ⟨w.heap.size, 0, none⟩) (c + 1) (c + 1)) ∧ w' = w.alloc (.cells (L.map Value.string).toArray 9)) :
    Calls Tryd.prog 9 #[.string s] w fun e w' =>
      e = .returned (.slice (some ⟨w.heap.size, 0, none⟩) (keep L) (c + 1)) ∧ w' = w.alloc (.cells (L.map Value.string).toArray 9) := by
  have hw := host_walk s w L c hl hc hsplit
  go_enter Tryd.func9, Tryd.ntmps9
  go_wp2_with (go_at_call 16; refine hw.mono ?_; rintro e w' ⟨rfl, rfl⟩)
  go_ret
  exact ⟨rfl, rfl⟩

/-- What the kept pieces are: the plain law, at strings. -/
theorem keep_good (s : ByteArray) (L : List ByteArray) (h : L.map (·.data.toList) = Lib.splitK [46] 0 (Lib.count s.data.toList [46]) s.data.toList) :
    1 ≤ keep L ∧ keep L ≤ L.length ∧ Plain.jn ((L.take (keep L)).map (·.data.toList)) = Plain.want s.data.toList ∧
      (∀ p ∈ L.take (keep L), (46 : UInt8) ∉ p.data.toList) := by
  obtain ⟨g1, g2, g3⟩ := Plain.split_good _ s.data.toList rfl
  rw [← h] at g1 g2 g3
  have hne : L ≠ [] := fun e => g3 (by rw [e]; rfl)
  have hpos : 0 < L.length := List.length_pos_iff.2 hne
  have e : (L.take (keep L)).map (·.data.toList) = Plain.lab (L.map (·.data.toList)) := by
    unfold keep Plain.lab
    have hg : (L.map (·.data.toList)).getLast? = some [] ↔ L.getLast? = some ByteArray.empty := by
      rw [List.getLast?_map]
      cases L.getLast? with
      | none => simp
      | some x =>
        simp only [Option.map_some, Option.some.injEq]
        constructor
        · intro hx; exact WideShapes.bytes_inj (by rw [hx]; rfl)
        · intro hx; rw [hx]; rfl
    by_cases hh : 1 < L.length ∧ L.getLast? = some ByteArray.empty
    · rw [if_pos hh, if_pos ⟨by simpa using hh.1, hg.2 hh.2⟩, List.dropLast_eq_take, List.map_take]; simp
    · rw [if_neg hh, if_neg (fun q => hh ⟨by simpa using q.1, hg.1 q.2⟩), List.take_of_length_le (Nat.le_refl _)]
  have hk : keep L ≤ L.length := by unfold keep; split <;> omega
  refine ⟨?_, hk, ?_, ?_⟩
  · unfold keep
    split <;> omega
  · rw [e]; exact Plain.lab_want g1 g2 g3
  · intro p hp
    exact Plain.lab_dots g2 _ (e ▸ List.mem_map_of_mem hp)
end Go.Proofs.Qxb6000950aDoor
