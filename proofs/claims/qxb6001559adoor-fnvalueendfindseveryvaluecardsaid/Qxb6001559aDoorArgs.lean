import Derived.Test.Qxb6001559aDoorClones
import Derived.ProofKit
import Derived.OpenShut
import Derived.SliceStrings
import Derived.Lay
/-! The arguments of this seat's law, opened. -/
namespace Go.Proofs.Qxb6001559aDoor
open Go.ChangeShapes Go.WideShapes Go.ChangeAt Go.RowKit

theorem own : ownKnob Tryd.prog.godebug = none := by kernel_rfl
theorem laidOut : laidOutB Tryd.prog = true := by kernel_rfl

/-- A slice of strings that came in. -/
theorem ss_of_arg {H : Type} {enc : TypeId × Value → H} {W : World} {a : Option Addr} {len cap fuel : Nat} {d : DataW H} {p : List MemPlace}
    (hf : DataW.trod enc Tryd.prog W 0 (fun _ => true) true fuel 23 (Value.slice a len cap).cells.toList = some (d, p)) :
    ∃ L : List ByteArray, Ss W (.slice a len cap) L ∧ len ≤ maxLen := by
  rcases open_strings Tryd.underlying23 Tryd.underlying9 (by kernel_rfl) hf with ⟨hcs, _⟩ | ⟨ad, l, c, ss, hcs, _, hl, hm, hz, _, hcell, _⟩
  · simp [Value.cells] at hcs
    obtain ⟨rfl, rfl, rfl⟩ := hcs
    exact ⟨[], .inl ⟨rfl, rfl⟩, Nat.zero_le _⟩
  · simp [Value.cells] at hcs
    obtain ⟨rfl, rfl, rfl⟩ := hcs
    have hz' : ss.length = cap := by simpa using hz
    by_cases h0 : len = 0
    · subst h0
      exact ⟨[], .inr (.inl ⟨ad, cap, rfl, rfl⟩), Nat.zero_le _⟩
    · obtain ⟨b, off, spot⟩ := ad
      have hspot : spot = none := by
        have := hcell 0 (by omega)
        simpa [Addr.add] using World.cell?_spot this
      subst hspot
      have hxl : (ss.take len).length = len := by rw [List.length_take]; omega
      refine ⟨ss.take len, .inr (.inr ⟨b, off, cap, by rw [hxl], by omega, by omega, hm, fun j hj => ?_, ?_⟩), by omega⟩
      · rw [hxl] at hj
        have := hcell j (by omega)
        rw [add_plain] at this
        rw [this]
        simp [show j < ss.length by omega]
      · have := hcell 0 (by omega)
        rw [add_plain] at this
        exact World.block_lt_of_cell? _ _ this

/-- Numbers that fit a byte, as bytes. -/
theorem bytes_of (zs : List Int) (h : ∀ n ∈ zs, (Lit.int .u8 n).wf = true) : ∃ l : List UInt8, l.length = zs.length ∧ ∀ j (hj : j < l.length), zs.getD j 0 = (l[j].toNat : Int) := by
  refine ⟨zs.map fun n => UInt8.ofNat n.toNat, by simp, fun j hj => ?_⟩
  rw [List.length_map] at hj
  have hw := h zs[j] (List.getElem_mem _)
  have hb : 0 ≤ zs[j] ∧ zs[j] ≤ 255 := by simpa [Lit.wf, IntKind.min, IntKind.max, IntKind.signed, IntKind.bits] using hw
  simp [hj]
  omega

/-- A slice of bytes that came in. -/
theorem yb_of_arg {H : Type} {enc : TypeId × Value → H} {W : World} {a : Option Addr} {len cap fuel : Nat} {d : DataW H} {p : List MemPlace}
    (hf : DataW.trod enc Tryd.prog W 0 (fun _ => true) true fuel 22 (Value.slice a len cap).cells.toList = some (d, p)) :
    ∃ x : List UInt8, Yb W (.slice a len cap) x ∧ len ≤ maxLen := by
  rcases open_ints Tryd.underlying22 Tryd.underlying5 (by kernel_rfl) hf with ⟨hcs, _⟩ | ⟨ad, l, c, zs, hcs, _, hl, hm, hz, _, hcell, hwz⟩
  · simp [Value.cells] at hcs
    obtain ⟨rfl, rfl, rfl⟩ := hcs
    exact ⟨[], .inl ⟨rfl, rfl⟩, Nat.zero_le _⟩
  · simp [Value.cells] at hcs
    obtain ⟨rfl, rfl, rfl⟩ := hcs
    have hz' : zs.length = cap := by simpa using hz
    obtain ⟨y, hyl, hy⟩ := bytes_of zs hwz
    by_cases h0 : len = 0
    · subst h0
      exact ⟨[], .inr (.inl ⟨ad, cap, rfl, rfl⟩), Nat.zero_le _⟩
    · obtain ⟨b, off, rfl, hc⟩ := ints_at hcell (by omega)
      have hxl : (y.take len).length = len := by rw [List.length_take]; omega
      refine ⟨y.take len, .inr (.inr ⟨b, off, cap, by rw [hxl], by omega, by omega, hm, fun j hj => ?_, ?_⟩), by omega⟩
      · rw [hxl] at hj
        rw [hc j (by omega), hy j (by omega)]
        simp
      · exact World.block_lt_of_cell? _ _ (hc 0 (by omega))
end Go.Proofs.Qxb6001559aDoor
