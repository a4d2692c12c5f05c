import Derived.Test.Qxb6001559aDoorValue0
import Derived.Test.Qxb6001559aDoorValue1
import Derived.Test.Qxb6001559aDoorValue3
import Derived.Test.Qxb6001559aDoorValue5
import Derived.Test.Qxb6001559aDoorValueN
/-! VALUE, whole. -/
namespace Go.Proofs.Qxb6001559aDoor
open Go.RowKit Plain

/-- What value leaves: all settled; or a number or a literal at the very end. -/
def VPost (strs : List ByteArray) (N : Nat) (op : UInt8) (st st' : St) : Prop :=
  (Ok strs (N + 25000) False st' ∧ (op.toNat % 8 = 0 ∨ op.toNat % 8 = 1 ∨ op.toNat % 8 = 3)) ∨
  (Ok strs (N + 25000) True st' ∧ st'.kinds = st.kinds ∧ st'.counts = st.counts ∧ op.toNat % 8 ≠ 0 ∧ op.toNat % 8 ≠ 1 ∧ op.toNat % 8 ≠ 3)

theorem value_ok (B : Nat) (R : Nat → Value) (sv : Value) (st : St) (op : UInt8) (w : World) (N : Nat) (strs : List ByteArray) (h : JB w B R sv st) (ho : Ok strs N False st) (hN : N ≤ 1099511627776)
    (hsb : SB w B sv strs) (hsl : strs.length ≤ 1048576) (hss : ∀ s ∈ strs, s.size ≤ 4096) :
    Calls Tryd.prog 10 #[.pointer (some ⟨B, 0, none⟩), .int .u8 (op.toNat : Int)] w fun e w' => e = .returned (.tuple #[]) ∧ (∃ st' R', JB w' B R' sv st' ∧ VPost strs N op st st') ∧ Below B w w' := by
  have hz : Sz N st ∧ N ≤ 1099511627776 := ⟨ho.sz, hN⟩
  have he := ho.inv.hl.symm
  by_cases m0 : op.toNat % 8 = 0
  · refine (value_0 B R sv st op w N h hz he m0).mono ?_
    rintro e w' ⟨rfl, ⟨R', hJ⟩, hB⟩
    exact ⟨rfl, ⟨_, R', hJ, .inl ⟨ho.push (.inl rfl) (.inl rfl), .inl m0⟩⟩, hB⟩
  by_cases m1 : op.toNat % 8 = 1
  · refine (value_1 B R sv st op w N h hz he m1).mono ?_
    rintro e w' ⟨rfl, ⟨R', hJ⟩, hB⟩
    exact ⟨rfl, ⟨_, R', hJ, .inl ⟨ho.push (.inr rfl) (.inr rfl), .inr (.inl m1)⟩⟩, hB⟩
  by_cases m3 : op.toNat % 8 = 3
  · refine (value_3 B R sv st op w N h hz he m3 strs hsb hsl ho.nx hss _ rfl).mono ?_
    rintro e w' ⟨rfl, ⟨R', hJ⟩, hB⟩
    exact ⟨rfl, ⟨_, R', hJ, .inl ⟨ho.bump.enc _ _ (took_size hss st), .inr (.inr m3)⟩⟩, hB⟩
  by_cases m5 : op.toNat % 8 = 5
  · have hS := lit_scal (op >>> 3)
    refine (value_5 B R sv st op w N h hz he m5 _ rfl hS.2.2.1 hS.2.2.2).mono ?_
    rintro e w' ⟨rfl, ⟨R', hJ⟩, hB⟩
    exact ⟨rfl, ⟨_, R', hJ, .inr ⟨ho.scal _ hS, rfl, rfl, m0, m1, m3⟩⟩, hB⟩
  · have hS := num_scal (op >>> 3)
    refine (value_n B R sv st op w N h hz he ⟨m0, m1, m3, m5⟩ _ rfl hS.2.2.1 hS.2.2.2).mono ?_
    rintro e w' ⟨rfl, ⟨R', hJ⟩, hB⟩
    exact ⟨rfl, ⟨_, R', hJ, .inr ⟨ho.scal _ hS, rfl, rfl, m0, m1, m3⟩⟩, hB⟩
end Go.Proofs.Qxb6001559aDoor
