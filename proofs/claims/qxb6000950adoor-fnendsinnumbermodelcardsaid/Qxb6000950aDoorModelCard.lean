import Derived.Test.Qxb6000950aDoorCards
import Derived.Test.Qxb6000950aDoorTie
import Derived.Test.Qxb6000950aDoorFrame
import Derived.Test.Qxb6000950aDoorShelf
import Derived.Test.Qxb6000950aDoorModel
/-! FnEndsInNumberModel: the row, the card. -/
namespace Go.Proofs.Qxb6000950aDoor
open Go.ChangeShapes Go.WideShapes Go.ChangeAt Go.RowKit
open Go.ChangeMaps (open_string shut_string)

/-- strings.Split at the dot, and what its pieces are. -/
theorem split_at_dot (s : ByteArray) (W : World) (hsh : W.ShapedOpen Tryd.prog) (hs : s.size ≤ 65536) : ∃ (L : List ByteArray) (c : Nat), L.length = c + 1 ∧ c ≤ 65536 ∧
    (Calls Tryd.prog 20 #[.string s, .string ⟨#[46]⟩] W fun e w' =>
      e = .returned (.slice (some ⟨W.heap.size, 0, none⟩) (c + 1) (c + 1)) ∧ w' = W.alloc (.cells (L.map Value.string).toArray 9)) ∧
    L.map (·.data.toList) = Lib.splitK [46] 0 (Lib.count s.data.toList [46]) s.data.toList := by
  have h1 : 1 ≤ (⟨#[46]⟩ : ByteArray).size := by decide
  have hle := Lib.countB_le ⟨#[46]⟩ h1 s.size s (Nat.le_refl _)
  exact ⟨Lib.splitB ⟨#[46]⟩ 0 (Lib.countB s ⟨#[46]⟩) s, Lib.countB s ⟨#[46]⟩, Lib.splitB_all _ h1 0 _ s rfl, by omega, Tryd.strings_Split_shaped s ⟨#[46]⟩ W hsh (by omega) h1, Lib.splitB_data _ _ _ _⟩

/-- The last label is one. -/
theorem last_unique {A A' y y' : List UInt8} (h : A' ++ y' = A ++ y) (h1 : (46 : UInt8) ∉ y') (h2 : A' = [] ∨ A'.getLast? = some 46) (h3 : (46 : UInt8) ∉ y) (h4 : A = [] ∨ A.getLast? = some 46) : y' = y := by
  have := Plain.last_label (t := A' ++ y') (A := A) (y := y) (i := A'.length) h h3 h4 (by simp) (fun j hj => by
    rw [List.getElem?_append_right hj]
    intro e
    exact h1 (List.mem_of_getElem? e)) (by
    rcases h2 with rfl | h2
    · exact .inl rfl
    · by_cases h0 : A'.length = 0
      · exact .inl h0
      · right
        rw [List.getElem?_append_left (by omega), ← List.getLast?_eq_getElem?]
        exact h2)
  simpa using this

theorem model_any (s : ByteArray) (W : World) (hsh : W.ShapedOpen Tryd.prog) (hm : s.size ≤ maxLen) :
    Calls Tryd.prog 5 #[.string s] W fun e w' => e = .returned (.bool true) ∧ Below W.heap.size W w' := by
  by_cases hs : s.size ≤ 65536
  · obtain ⟨L, c, hl, hc, hsplit, hd⟩ := split_at_dot s W hsh hs
    obtain ⟨A, y, g1, g2, g3, _⟩ := ends_any s W hs L c hl hc hsplit hd
    refine model_walk s W hs y A g1 g2 g3 fun wx hx => ?_
    obtain ⟨L', c', hl', hc', hsplit', hd'⟩ := split_at_dot s wx (hsh.of_heap hx.symm) hs
    obtain ⟨A', y', g1', g2', g3', hcall⟩ := ends_any s wx hs L' c' hl' hc' hsplit' hd'
    have e : y'.data.toList = y.data.toList := last_unique (g1'.symm.trans g1) g2' g3' g2 g3
    rw [← e]
    exact hcall
  · exact model_long s W hm (by omega)

set_option maxRecDepth 100000 in
theorem model_lifted (os : Os) (started : os.Started) (H : Type) (enc : TypeId × Value → H) :
    ReturnsInHanded {} Tryd.checked os 5 .any (fun w args => (Rows.fnEndsInNumberModelSpec.pre enc Tryd.prog Tryd.f5 [] false w args ∧ laidMetH Tryd.prog Rows.fnEndsInNumberModelRow.laid w) ∧ sizedMet enc Tryd.prog Tryd.f5 (OpenSpec.ofChange Rows.fnEndsInNumberModelSpec) false w args)
      (Rows.fnEndsInNumberModelSpec.post enc Tryd.prog Tryd.f5 false true false false) := by
  refine handed_laid_shaped (C := Tryd.checked) (X := fun w _ => laidMetH Tryd.prog Rows.fnEndsInNumberModelRow.laid w) (fun _ _ _ hh h => h.of_heap hh) own started (by kernel_rfl) Tryd.func5
    (ChangeSpec.witness_shaped (enc := enc) (C := Tryd.checked) (os := os) (X := fun w _ => laidMetH Tryd.prog Rows.fnEndsInNumberModelRow.laid w) false (World.laidAll Tryd.prog os Rows.fnEndsInNumberModelRow.laid) #[.string ⟨#[]⟩] 8 (World.laidAll_os _ _ _)
      (World.shaped_of_ZipB (by kernel_rfl) (by kernel_rfl)) (by kernel_rfl) (by kernel_rfl) (by kernel_rfl)
      (by rw [MakeChecks.laidMetH_plain _ _ _ (by kernel_rfl)]; exact laidMet_laidAll _ (by kernel_rfl) (by kernel_rfl))) ?_
  intro W base args ds gs before hval0 hW _ _ hsh
  have hval : ∀ (j : Nat) t v, Tryd.f5.params[j]? = some t → args[j]? = some v → Value.okWide Tryd.prog W .any base t v := hval0
  have hW' := hW
  obtain ⟨p, q, hA0, hV, rfl, _, _⟩ := hW
  have hA : DataW.TrodAll enc Tryd.prog W 0 (fun _ => true) true Tryd.f5.params.toList args.toList ds p := hA0
  rw [Tryd.params5] at hA hval
  obtain ⟨v0, d0, rfl, rfl, h0⟩ := trodAll_one hA
  obtain ⟨rfl, rfl⟩ := trodVars_none hV
  obtain ⟨s, rfl, rfl, rfl, ws⟩ := open_string Tryd.underlying9 (hval 0 9 v0 rfl rfl) h0
  simp only [List.append_nil] at hW'
  refine (model_any s W hsh ws).mono fun e W' ⟨he, hb⟩ => ?_
  subst he
  exact ⟨_, rfl, _, _, _, [], [], [], hW', trodAll_mk1 (shut_bool Tryd.underlying4 _), trodAll_mk1 (shut_string Tryd.underlying9 ws), rfl, hb.frame _, fun h => by cases h⟩

theorem model_holds : Rows.FnEndsInNumberModelSaid :=
  OpenClaim.holds_of_wide 5 Tryd.f5 rfl rfl rfl rfl rfl rfl rfl ⟨rfl, rfl, rfl, rfl, rfl⟩ rfl rfl rfl rfl rfl (by kernel_rfl) Tryd.func5 (by kernel_rfl)
    (of_decide_eq_true (by kernel_rfl)) (by unfold Func.isWrapper; first | (rw [if_pos (by decide +kernel)]; kernel_rfl) | (rw [if_neg (by decide +kernel)]; exact ⟨rfl, rfl⟩))
    (fun os started H enc _ => model_lifted os started H enc)

/-- THE STATEMENT. -/
theorem model_card : Rows.FnEndsInNumberModelCardSaid :=
  Claim7.holds_tied_plain_at .later [] [.data, .pinned] true (true, "74d49bb43ee4eae91301ae26da9b4f36517483313407897e32ba7de772d5111e") false
    model_holds (fun _ h => by cases h) (by kernel_rfl) (fun _ h => by cases h) fnEndsInNumberModel_row_tie rfl ⟨rfl, rfl⟩ (by kernel_rfl) rfl
    (fun f fn hf hfn => by
      obtain rfl : f = 5 := Option.some.inj ((show Tryd.prog.funcNamed Tryd.f5.name = some 5 by kernel_rfl).symm.trans hf) |>.symm
      obtain rfl : fn = Tryd.f5 := (Option.some.inj (Tryd.func5.symm.trans hfn)).symm
      exact ⟨by kernel_rfl, fun j t ht => by
        rw [Tryd.params5] at ht
        have hm : t ∈ [9] := by simpa using Array.mem_of_getElem? ht
        have hall : ([9].all fun u => !Tryd.prog.wantsStandIn u) = true := by kernel_rfl
        exact (show Tryd.prog.wantsStandIn t = false by simpa using List.all_eq_true.1 hall t hm)⟩)
    (by kernel_rfl)
end Go.Proofs.Qxb6000950aDoor
