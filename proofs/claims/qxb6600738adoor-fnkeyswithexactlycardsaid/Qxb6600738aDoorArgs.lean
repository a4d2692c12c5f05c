import Derived.Test.Qxb6600738aDoorStrs
import Derived.ProofKit
import Derived.OpenShut
import Derived.SliceStrings
import Derived.Lay
/-! The arguments of this seat's laws, opened. -/
namespace Go.Proofs.Qxb6600738aDoor
open Go.ChangeShapes Go.WideShapes Go.ChangeAt Go.RowKit

theorem own : ownKnob Tryd.prog.godebug = none := by kernel_rfl
theorem laidOut : laidOutB Tryd.prog = true := by kernel_rfl

/-- A slice of strings that came in. -/
theorem ss_of_arg {H : Type} {enc : TypeId × Value → H} {W : World} {a : Option Addr} {len cap fuel : Nat} {d : DataW H} {p : List MemPlace}
    (hf : DataW.trod enc Tryd.prog W 0 (fun _ => true) true fuel 22 (Value.slice a len cap).cells.toList = some (d, p)) :
    ∃ L : List ByteArray, Ss W (.slice a len cap) L ∧ len ≤ maxLen := by
  rcases open_strings Tryd.underlying22 Tryd.underlying9 (by kernel_rfl) hf with ⟨hcs, _⟩ | ⟨ad, l, c, ss, hcs, _, hl, hm, hz, _, hcell, _⟩
  · simp [Value.cells] at hcs
    obtain ⟨rfl, rfl, rfl⟩ := hcs
    exact ⟨[], .inl ⟨rfl, rfl⟩, Nat.zero_le _⟩
  · simp [Value.cells] at hcs
    obtain ⟨rfl, rfl, rfl⟩ := hcs
    have hz' : ss.length = cap := by simpa using hz
    by_cases h0 : len = 0
    · subst h0
      exact ⟨[], .inr (.inl ⟨ad, cap, rfl, rfl⟩), Nat.zero_le _⟩
    · obtain ⟨b, off, spot⟩ := ad
      have hspot : spot = none := by
        have := hcell 0 (by omega)
        simpa [Addr.add] using World.cell?_spot this
      subst hspot
      have hxl : (ss.take len).length = len := by rw [List.length_take]; omega
      refine ⟨ss.take len, .inr (.inr ⟨b, off, cap, by rw [hxl], by omega, by omega, hm, fun j hj => ?_, ?_⟩), by omega⟩
      · rw [hxl] at hj
        have := hcell j (by omega)
        rw [add_plain] at this
        rw [this]
        simp [show j < ss.length by omega]
      · have := hcell 0 (by omega)
        rw [add_plain] at this
        exact World.block_lt_of_cell? _ _ this

/-- A uint64 that came in. -/
theorem u64_of {x : Int} (h : (Lit.int .u64 x).wf = true) : ∃ r : Nat, x = r ∧ r < 18446744073709551616 := by
  have hb : 0 ≤ x ∧ x ≤ 18446744073709551615 := by simpa [Lit.wf, IntKind.min, IntKind.max, IntKind.signed, IntKind.bits] using h
  exact ⟨x.toNat, by omega, by omega⟩
end Go.Proofs.Qxb6600738aDoor
