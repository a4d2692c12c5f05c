import Derived.Test.Qxb6600738aDoorCards
import Derived.Test.Qxb6600738aDoorTie
import Derived.Test.Qxb6600738aDoorArgs
import Derived.Test.Qxb6600738aDoorLaw5
/-! FnKeysWithExactly: the row, the card. -/
namespace Go.Proofs.Qxb6600738aDoor
open Go.ChangeShapes Go.WideShapes Go.ChangeAt Go.RowKit

set_option maxRecDepth 100000 in
theorem with_lifted (os : Os) (started : os.Started) (H : Type) (enc : TypeId × Value → H) :
    ReturnsInHanded {} Tryd.checked os 5 .any (fun w args => (Rows.fnKeysWithExactlySpec.pre enc Tryd.prog Tryd.f5 [] false w args ∧ laidMetH Tryd.prog Rows.fnKeysWithExactlyRow.laid w) ∧ sizedMet enc Tryd.prog Tryd.f5 (OpenSpec.ofChange Rows.fnKeysWithExactlySpec) false w args)
      (Rows.fnKeysWithExactlySpec.post enc Tryd.prog Tryd.f5 false true false false) := by
  refine returnsInHanded_of_change_and (C := Tryd.checked) (X := fun w _ => laidMetH Tryd.prog Rows.fnKeysWithExactlyRow.laid w) (fun _ _ _ hh h => h.of_heap hh) own started (by kernel_rfl) Tryd.func5
    (ChangeSpec.witness_shaped (enc := enc) (C := Tryd.checked) (os := os) (X := fun w _ => laidMetH Tryd.prog Rows.fnKeysWithExactlyRow.laid w) false (World.laidAll Tryd.prog os Rows.fnKeysWithExactlyRow.laid) #[.slice none 0 0, .int .u64 0, .int .u64 0, .slice none 0 0, .int .u64 0, .int .u64 0] 8 (World.laidAll_os _ _ _)
      (World.shaped_of_ZipB (by kernel_rfl) (by kernel_rfl)) (by kernel_rfl) (by kernel_rfl) (by kernel_rfl)
      (by rw [MakeChecks.laidMetH_plain _ _ _ (by kernel_rfl)]; exact laidMet_laidAll _ (by kernel_rfl) (by kernel_rfl))) ?_
  intro W base args ds gs before hval0 hW _ _ _ _
  have hval : ∀ (j : Nat) t v, Tryd.f5.params[j]? = some t → args[j]? = some v → Value.okWide Tryd.prog W .any base t v := hval0
  have hW' := hW
  obtain ⟨p, q, hA0, hV, rfl, hfz, hnd⟩ := hW
  have hA : DataW.TrodAll enc Tryd.prog W 0 (fun _ => true) true Tryd.f5.params.toList args.toList ds p := hA0
  rw [Tryd.params5] at hA hval
  obtain ⟨v0, vs0, d0, ds0, p0, q0, hargs, rfl, rfl, h0, r0⟩ := trodAll_cons hA
  obtain ⟨v1, vs1, d1, ds1, p1, q1, rfl, rfl, rfl, h1, r1⟩ := trodAll_cons r0
  obtain ⟨v2, vs2, d2, ds2, p2, q2, rfl, rfl, rfl, h2, r2⟩ := trodAll_cons r1
  obtain ⟨v3, vs3, d3, ds3, p3, q3, rfl, rfl, rfl, h3, r3⟩ := trodAll_cons r2
  obtain ⟨v4, vs4, d4, ds4, p4, q4, rfl, rfl, rfl, h4, r4⟩ := trodAll_cons r3
  obtain ⟨v5, vs5, d5, ds5, p5, q5, rfl, rfl, rfl, h5, r5⟩ := trodAll_cons r4
  obtain ⟨rfl, rfl, rfl⟩ := trodAll_nil r5
  obtain rfl : args = #[v0, v1, v2, v3, v4, v5] := by cases args; simp_all
  obtain ⟨rfl, rfl⟩ := trodVars_none hV
  obtain ⟨a0, len0, cap0, rfl⟩ := okWide_slice Tryd.underlying22 (hval 0 22 v0 rfl rfl)
  have k0 := h0
  have lt0 : ∀ x ∈ p0, x.block < W.heap.size := by obtain ⟨m, hm⟩ := k0; exact DataW.trod_lt m _ _ _ hm
  obtain ⟨L, hL, mL⟩ : ∃ L : List ByteArray, Ss W (.slice a0 len0 cap0) L ∧ len0 ≤ maxLen := by
    obtain ⟨fuel, hf⟩ := h0
    exact ss_of_arg hf
  obtain ⟨x1, rfl, rfl, rfl, w1⟩ := open_int Tryd.underlying23 (hval 1 23 v1 rfl rfl) h1
  obtain ⟨req, rfl, hreq⟩ := u64_of w1
  obtain ⟨x2, rfl, rfl, rfl, w2⟩ := open_int Tryd.underlying23 (hval 2 23 v2 rfl rfl) h2
  obtain ⟨ro, rfl, hro⟩ := u64_of w2
  obtain ⟨a3, len3, cap3, rfl⟩ := okWide_slice Tryd.underlying22 (hval 3 22 v3 rfl rfl)
  have k3 := h3
  have lt3 : ∀ x ∈ p3, x.block < W.heap.size := by obtain ⟨m, hm⟩ := k3; exact DataW.trod_lt m _ _ _ hm
  obtain ⟨M, hM, mM⟩ : ∃ M : List ByteArray, Ss W (.slice a3 len3 cap3) M ∧ len3 ≤ maxLen := by
    obtain ⟨fuel, hf⟩ := h3
    exact ss_of_arg hf
  obtain ⟨x4, rfl, rfl, rfl, w4⟩ := open_int Tryd.underlying23 (hval 4 23 v4 rfl rfl) h4
  obtain ⟨rp, rfl, hrp⟩ := u64_of w4
  obtain ⟨x5, rfl, rfl, rfl, w5⟩ := open_int Tryd.underlying23 (hval 5 23 v5 rfl rfl) h5
  obtain ⟨rq, rfl, hrq⟩ := u64_of w5
  clear hA0 hval0
  refine (law5_main a0 a3 len0 len3 cap0 cap3 req ro rp rq L M W hL hM mL mM hreq hro hrp hrq).mono fun e W' ⟨he, bel⟩ => ?_
  subst he
  exact ⟨_, rfl, _, _, _, [], _, [], hW', trodAll_mk1 (shut_bool Tryd.underlying4 _), (trodAll_cons_mk (Below.trod laidOut (by kernel_rfl) (of_decide_eq_true (by kernel_rfl)) k0 bel lt0) (trodAll_cons_mk (shut_int Tryd.underlying23 w1) (trodAll_cons_mk (shut_int Tryd.underlying23 w2) (trodAll_cons_mk (Below.trod laidOut (by kernel_rfl) (of_decide_eq_true (by kernel_rfl)) k3 bel lt3) (trodAll_cons_mk (shut_int Tryd.underlying23 w4) (trodAll_cons_mk (shut_int Tryd.underlying23 w5) trodAll_mk0)))))), rfl, bel.frame _, fun h => by cases h⟩

theorem with_holds : Rows.FnKeysWithExactlySaid :=
  OpenClaim.holds_of_wide 5 Tryd.f5 rfl rfl rfl rfl rfl rfl rfl ⟨rfl, rfl, rfl, rfl, rfl⟩ rfl rfl rfl rfl rfl (by kernel_rfl) Tryd.func5 (by kernel_rfl)
    (of_decide_eq_true (by kernel_rfl)) (by unfold Func.isWrapper; first | (rw [if_pos (by decide +kernel)]; kernel_rfl) | (rw [if_neg (by decide +kernel)]; exact ⟨rfl, rfl⟩))
    (fun os started H enc _ => with_lifted os started H enc)

/-- THE STATEMENT. -/
theorem with_card : Rows.FnKeysWithExactlyCardSaid :=
  Claim7.holds_tied_plain_at .later [] [.data, .pinned, .pinned, .pinned, .pinned, .pinned, .pinned] true (true, "9900680929749390d62a95ca1027e38ce04e0fc0b579dbfea86dec9a7b76d8a2") false
    with_holds (fun _ h => by cases h) (by kernel_rfl) (fun _ h => by cases h) fnKeysWithExactly_row_tie rfl ⟨rfl, rfl⟩ (by kernel_rfl) rfl
    (fun f fn hf hfn => by
      obtain rfl : f = 5 := Option.some.inj ((show Tryd.prog.funcNamed Tryd.f5.name = some 5 by kernel_rfl).symm.trans hf) |>.symm
      obtain rfl : fn = Tryd.f5 := (Option.some.inj (Tryd.func5.symm.trans hfn)).symm
      exact ⟨by kernel_rfl, fun j t ht => by
        rw [Tryd.params5] at ht
        have hm : t ∈ [22, 23, 23, 22, 23, 23] := by simpa using Array.mem_of_getElem? ht
        have hall : ([22, 23, 23, 22, 23, 23].all fun u => !Tryd.prog.wantsStandIn u) = true := by kernel_rfl
        exact (show Tryd.prog.wantsStandIn t = false by simpa using List.all_eq_true.1 hall t hm)⟩)
    (by kernel_rfl)
end Go.Proofs.Qxb6600738aDoor
