import Derived.Test.Qxb6002445aDoorCards
import Derived.Test.Qxb6002445aDoorTie
import Derived.Test.Qxb6002445aDoorLaw
import Derived.ProofKit
import Derived.OpenShut
import Derived.Lay
/-! FnContainsFoldASCIIModel: the row, the card. -/
namespace Go.Proofs.Qxb6002445aDoor
open Go.ChangeShapes Go.WideShapes Go.ChangeAt Go.RowKit

theorem own : ownKnob Tryd.prog.godebug = none := by kernel_rfl
theorem laidOut : laidOutB Tryd.prog = true := by kernel_rfl

/-- Numbers that fit a byte, as bytes. -/
theorem bytes_of (zs : List Int) (h : ∀ n ∈ zs, (Lit.int .u8 n).wf = true) : ∃ l : List UInt8, l.length = zs.length ∧ ∀ j (hj : j < l.length), zs.getD j 0 = (l[j].toNat : Int) := by
  refine ⟨zs.map fun n => UInt8.ofNat n.toNat, by simp, fun j hj => ?_⟩
  rw [List.length_map] at hj
  have hw := h zs[j] (List.getElem_mem _)
  have hb : 0 ≤ zs[j] ∧ zs[j] ≤ 255 := by simpa [Lit.wf, IntKind.min, IntKind.max, IntKind.signed, IntKind.bits] using hw
  simp [hj]
  omega

/-- A slice of bytes that came in. -/
theorem bs_of_arg {H : Type} {enc : TypeId × Value → H} {W : World} {a : Option Addr} {len cap fuel : Nat} {d : DataW H} {p : List MemPlace}
    (hf : DataW.trod enc Tryd.prog W 0 (fun _ => true) true fuel 22 (Value.slice a len cap).cells.toList = some (d, p)) :
    ∃ x : List UInt8, x.length = len ∧ Bs W (.slice a x.length cap) x ∧ x.length ≤ maxLen := by
  rcases open_ints Tryd.underlying22 Tryd.underlying5 (by kernel_rfl) hf with ⟨hcs, _⟩ | ⟨ad, l, c, zs, hcs, _, hl, hm, hz, _, hcell, hwz⟩
  · simp [Value.cells] at hcs
    obtain ⟨rfl, rfl, rfl⟩ := hcs
    exact ⟨[], rfl, .inl ⟨rfl, rfl⟩, Nat.zero_le _⟩
  · simp [Value.cells] at hcs
    obtain ⟨rfl, rfl, rfl⟩ := hcs
    have hz' : zs.length = cap := by simpa using hz
    obtain ⟨y, hyl, hy⟩ := bytes_of zs hwz
    by_cases h0 : len = 0
    · subst h0
      exact ⟨[], rfl, .inr (.inl ⟨ad, cap, rfl, rfl⟩), Nat.zero_le _⟩
    · obtain ⟨b, off, rfl, hc⟩ := ints_at hcell (by omega)
      have hxl : (y.take len).length = len := by rw [List.length_take]; omega
      refine ⟨y.take len, hxl, .inr (.inr ⟨b, off, cap, by rw [hxl], by omega, by omega, hm, fun j hj => ?_, ?_⟩), by omega⟩
      · rw [hxl] at hj
        rw [hc j (by omega), hy j (by omega)]
        simp
      · exact World.block_lt_of_cell? _ _ (hc 0 (by omega))

set_option maxRecDepth 100000 in
theorem fold_lifted (os : Os) (started : os.Started) (H : Type) (enc : TypeId × Value → H) :
    ReturnsInHanded {} Tryd.checked os 3 .any (fun w args => (Rows.fnContainsFoldASCIIModelSpec.pre enc Tryd.prog Tryd.f3 [] false w args ∧ laidMetH Tryd.prog Rows.fnContainsFoldASCIIModelRow.laid w) ∧ sizedMet enc Tryd.prog Tryd.f3 (OpenSpec.ofChange Rows.fnContainsFoldASCIIModelSpec) false w args)
      (Rows.fnContainsFoldASCIIModelSpec.post enc Tryd.prog Tryd.f3 false true false false) := by
  refine returnsInHanded_of_change_and (C := Tryd.checked) (X := fun w _ => laidMetH Tryd.prog Rows.fnContainsFoldASCIIModelRow.laid w) (fun _ _ _ hh h => h.of_heap hh) own started (by kernel_rfl) Tryd.func3
    (ChangeSpec.witness_shaped (enc := enc) (C := Tryd.checked) (os := os) (X := fun w _ => laidMetH Tryd.prog Rows.fnContainsFoldASCIIModelRow.laid w) false (World.laidAll Tryd.prog os Rows.fnContainsFoldASCIIModelRow.laid) #[.slice none 0 0, .slice none 0 0] 8 (World.laidAll_os _ _ _)
      (World.shaped_of_ZipB (by kernel_rfl) (by kernel_rfl)) (by kernel_rfl) (by kernel_rfl) (by kernel_rfl)
      (by rw [MakeChecks.laidMetH_plain _ _ _ (by kernel_rfl)]; exact laidMet_laidAll _ (by kernel_rfl) (by kernel_rfl))) ?_
  intro W base args ds gs before hval0 hW _ _ _ _
  have hval : ∀ (j : Nat) t v, Tryd.f3.params[j]? = some t → args[j]? = some v → Value.okWide Tryd.prog W .any base t v := hval0
  have hW' := hW
  obtain ⟨p, q, hA0, hV, rfl, hfz, hnd⟩ := hW
  have hA : DataW.TrodAll enc Tryd.prog W 0 (fun _ => true) true Tryd.f3.params.toList args.toList ds p := hA0
  rw [Tryd.params3] at hA hval
  obtain ⟨v0, vs0, d0, ds0, p0, q0, hargs, rfl, rfl, h0, r0⟩ := trodAll_cons hA
  obtain ⟨v1, vs1, d1, ds1, p1, q1, rfl, rfl, rfl, h1, r1⟩ := trodAll_cons r0
  obtain ⟨rfl, rfl, rfl⟩ := trodAll_nil r1
  obtain rfl : args = #[v0, v1] := by cases args; simp_all
  obtain ⟨rfl, rfl⟩ := trodVars_none hV
  obtain ⟨a0, len0, cap0, rfl⟩ := okWide_slice Tryd.underlying22 (hval 0 22 v0 rfl rfl)
  have k0 := h0
  have lt0 : ∀ x ∈ p0, x.block < W.heap.size := by obtain ⟨m, hm⟩ := k0; exact DataW.trod_lt m _ _ _ hm
  obtain ⟨x, rfl, hx, mx⟩ : ∃ x : List UInt8, x.length = len0 ∧ Bs W (.slice a0 x.length cap0) x ∧ x.length ≤ maxLen := by
    obtain ⟨fuel, hf⟩ := h0
    exact bs_of_arg hf
  obtain ⟨a1, len1, cap1, rfl⟩ := okWide_slice Tryd.underlying22 (hval 1 22 v1 rfl rfl)
  have k1 := h1
  have lt1 : ∀ x ∈ p1, x.block < W.heap.size := by obtain ⟨m, hm⟩ := k1; exact DataW.trod_lt m _ _ _ hm
  obtain ⟨y, rfl, hy, my⟩ : ∃ x : List UInt8, x.length = len1 ∧ Bs W (.slice a1 x.length cap1) x ∧ x.length ≤ maxLen := by
    obtain ⟨fuel, hf⟩ := h1
    exact bs_of_arg hf
  clear hA0 hval0
  refine (law_any a0 a1 cap0 cap1 x y W hx hy mx my).mono fun e W' ⟨he, bel⟩ => ?_
  subst he
  exact ⟨_, rfl, _, _, _, [], _, [], hW', trodAll_mk1 (shut_bool Tryd.underlying4 _), (trodAll_cons_mk (Below.trod laidOut (by kernel_rfl) (of_decide_eq_true (by kernel_rfl)) k0 bel lt0) (trodAll_cons_mk (Below.trod laidOut (by kernel_rfl) (of_decide_eq_true (by kernel_rfl)) k1 bel lt1) trodAll_mk0)), rfl, bel.frame _, fun h => by cases h⟩

theorem fold_holds : Rows.FnContainsFoldASCIIModelSaid :=
  OpenClaim.holds_of_wide 3 Tryd.f3 rfl rfl rfl rfl rfl rfl rfl ⟨rfl, rfl, rfl, rfl, rfl⟩ rfl rfl rfl rfl rfl (by kernel_rfl) Tryd.func3 (by kernel_rfl)
    (of_decide_eq_true (by kernel_rfl)) (by unfold Func.isWrapper; first | (rw [if_pos (by decide +kernel)]; kernel_rfl) | (rw [if_neg (by decide +kernel)]; exact ⟨rfl, rfl⟩))
    (fun os started H enc _ => fold_lifted os started H enc)

/-- THE STATEMENT. -/
theorem fold_card : Rows.FnContainsFoldASCIIModelCardSaid :=
  Claim7.holds_tied_plain_at .later [] [.data, .data, .data, .pinned, .pinned] true (true, "4f2494be35b83111d2aa00bdacdd375d5d842667c3378625552e32bd886d4f90") false
    fold_holds (fun _ h => by cases h) (by kernel_rfl) (fun _ h => by cases h) fnContainsFoldASCIIModel_row_tie rfl ⟨rfl, rfl⟩ (by kernel_rfl) rfl
    (fun f fn hf hfn => by
      obtain rfl : f = 3 := Option.some.inj ((show Tryd.prog.funcNamed Tryd.f3.name = some 3 by kernel_rfl).symm.trans hf) |>.symm
      obtain rfl : fn = Tryd.f3 := (Option.some.inj (Tryd.func3.symm.trans hfn)).symm
      exact ⟨by kernel_rfl, fun j t ht => by
        rw [Tryd.params3] at ht
        have hm : t ∈ [22, 22] := by simpa using Array.mem_of_getElem? ht
        have hall : ([22, 22].all fun u => !Tryd.prog.wantsStandIn u) = true := by kernel_rfl
        exact (show Tryd.prog.wantsStandIn t = false by simpa using List.all_eq_true.1 hall t hm)⟩)
    (by kernel_rfl)
end Go.Proofs.Qxb6002445aDoor
