/-
  Qxb6001095aDoor: FnUnescapePathInvertsEscape: the row, and its tied card.
-/
import Derived.Test.Qxb6001095aDoorBase
import Derived.Test.Qxb6001095aDoorHead
import Derived.Test.Qxb6001095aDoorEsc
import Derived.Test.Qxb6001095aDoorTie
import Derived.Test.Qxb6001095aDoorCards
import Derived.SevenTiedAt
namespace Go.Proofs.Qxb6001095aDoor
open Go.ChangeShapes Go.WideShapes Go.ChangeAt Go.WideMaps Go.WideElems Go.RowKit
open Go.ChangeMaps (setBlock shut_map_nil open_string shut_string keptBut_setBlock frozen?_setBlock heap_setBlock_same)

set_option maxRecDepth 100000 in
theorem lifted3 (os : Os) (started : os.Started) (H : Type) (enc : TypeId × Value → H) :
    ReturnsInHanded {} Tryd.checked os 3 .any (fun w args => (Rows.fnUnescapePathInvertsEscapeSpec.pre enc Tryd.prog Tryd.f3 [] false w args ∧ laidMetH Tryd.prog laid5 w) ∧ sizedMet enc Tryd.prog Tryd.f3 (OpenSpec.ofChange Rows.fnUnescapePathInvertsEscapeSpec) false w args)
      (Rows.fnUnescapePathInvertsEscapeSpec.post enc Tryd.prog Tryd.f3 false true false false) := by
  refine returnsInHanded_of_change_and (C := Tryd.checked) (X := fun w _ => laidMetH Tryd.prog laid5 w) (fun _ _ _ hh h => h.of_heap hh) own started (by kernel_rfl) Tryd.func3
    (ChangeSpec.witness_shaped (enc := enc) (C := Tryd.checked) (os := os) (X := fun w _ => laidMetH Tryd.prog laid5 w) false (World.doorLaid Tryd.prog 96 os) #[.string ⟨#[]⟩] 8 rfl (World.shaped_of_RefB (by kernel_rfl) (by kernel_rfl)) (by kernel_rfl) (by kernel_rfl) (by kernel_rfl) (door_met os _)) ?_
  intro W base args ds gs before hval0 hW _ _ hL _
  have hval : ∀ (j : Nat) t v, Tryd.f3.params[j]? = some t → args[j]? = some v → Value.okWide Tryd.prog W .any base t v := hval0
  have hW' := hW
  obtain ⟨p, q, hA0, hV, rfl, hfz, hnd⟩ := hW
  have hA : DataW.TrodAll enc Tryd.prog W 0 (fun _ => true) true Tryd.f3.params.toList args.toList ds p := hA0
  rw [Tryd.params3] at hA hval
  obtain ⟨v0, d0, rfl, rfl, h0⟩ := trodAll_one hA
  obtain ⟨rfl, rfl⟩ := trodVars_none hV
  obtain ⟨s, rfl, rfl, rfl, hs⟩ := open_string Tryd.underlying9 (hval 0 9 v0 rfl rfl) h0
  clear hA0 hval0
  simp only [List.append_nil] at hW'
  refine (law3_any s W (of_laid hL)).mono fun e W' ⟨he, hnx⟩ => ?_
  subst he
  refine ⟨_, rfl, _, _, _, [], [], [], hW', ?_, ?_, rfl, hnx.frame _, fun h => by cases h⟩
  · exact trodAll_mk1 (shut_bool Tryd.underlying4 _)
  · exact trodAll_mk1 (shut_string Tryd.underlying9 hs)

theorem facts3 : joinedFacts Tryd.prog 3 Tryd.f3 Rows.fnUnescapePathInvertsEscapeSpec Rows.fnUnescapePathInvertsEscapeRow = true := by
  unfold joinedFacts
  simp only [Bool.and_eq_true]
  exact ⟨⟨⟨⟨⟨⟨⟨⟨⟨⟨⟨⟨⟨⟨⟨⟨⟨⟨⟨⟨⟨⟨⟨⟨⟨⟨⟨⟨⟨⟨⟨(by as_aux_lemma => kernel_rfl), (by as_aux_lemma => kernel_rfl)⟩, (by as_aux_lemma => kernel_rfl)⟩, (by as_aux_lemma => kernel_rfl)⟩, (by as_aux_lemma => kernel_rfl)⟩, (by as_aux_lemma => kernel_rfl)⟩, (by as_aux_lemma => kernel_rfl)⟩, (by as_aux_lemma => kernel_rfl)⟩, (by as_aux_lemma => kernel_rfl)⟩, (by as_aux_lemma => kernel_rfl)⟩, (by as_aux_lemma => kernel_rfl)⟩, (by as_aux_lemma => kernel_rfl)⟩, (by as_aux_lemma => kernel_rfl)⟩, (by as_aux_lemma => kernel_rfl)⟩, (by as_aux_lemma => kernel_rfl)⟩, (by as_aux_lemma => kernel_rfl)⟩, (by as_aux_lemma => kernel_rfl)⟩, (by as_aux_lemma => kernel_rfl)⟩, (by as_aux_lemma => kernel_rfl)⟩, (by as_aux_lemma => kernel_rfl)⟩, (by as_aux_lemma => kernel_rfl)⟩, (by as_aux_lemma => kernel_rfl)⟩, (by as_aux_lemma => kernel_rfl)⟩, (by as_aux_lemma => kernel_rfl)⟩, (by as_aux_lemma => kernel_rfl)⟩, may_enter⟩, (by rw [lifts_final]; rfl)⟩, (by rw [make_is]; rfl)⟩, (by as_aux_lemma => kernel_rfl)⟩, (by as_aux_lemma => kernel_rfl)⟩, (by as_aux_lemma => kernel_rfl)⟩, (by as_aux_lemma => kernel_rfl)⟩

theorem named3 : Tryd.prog.funcNamed Rows.fnUnescapePathInvertsEscapeRow.func = some 3 := by kernel_rfl
theorem wf3 : Rows.fnUnescapePathInvertsEscapeRow.wfByText (OpenSpec.ofChange Rows.fnUnescapePathInvertsEscapeSpec) = true := by kernel_rfl
theorem goes3 : false = Rows.fnUnescapePathInvertsEscapeRow.goesBy Tryd.prog := by kernel_rfl
theorem looks3 : true = Tryd.prog.looks [] := by kernel_rfl
theorem stand3 : ([9].all fun u => !Tryd.prog.wantsStandIn u) = true := by kernel_rfl

theorem fnUnescapePathInvertsEscape_holds : Rows.FnUnescapePathInvertsEscapeSaid :=
  OpenClaim.holds_of_wide 3 Tryd.f3 rfl rfl rfl rfl rfl rfl rfl ⟨rfl, rfl, rfl, rfl, rfl⟩ rfl rfl rfl rfl rfl named3 Tryd.func3 facts3
    (of_decide_eq_true (by kernel_rfl)) (by unfold Func.isWrapper; rw [if_neg (of_decide_eq_false (by kernel_rfl))]; exact ⟨rfl, rfl⟩)
    (fun os started H enc _ => lifted3 os started H enc)

theorem fnUnescapePathInvertsEscape_card : Rows.FnUnescapePathInvertsEscapeCardSaid :=
  Claim7.holds_tied_plain_at .later [] [.data, .data, .data, .sentinel, .sentinel] true (true, "698e220e4a2902233830c7e82a417ec75e3d720c683cf890cd2f91c2a0e1bf1f") true
    fnUnescapePathInvertsEscape_holds (fun _ h => by cases h) wf3 (fun _ h => by cases h) fnUnescapePathInvertsEscape_row_tie rfl ⟨rfl, rfl⟩ main_is rfl
    (fun f fn hf hfn => by
      obtain rfl : f = 3 := Option.some.inj (named3.symm.trans hf) |>.symm
      obtain rfl : fn = Tryd.f3 := (Option.some.inj (Tryd.func3.symm.trans hfn)).symm
      exact ⟨looks3, fun j t ht => by
        rw [Tryd.params3] at ht
        have hm : t ∈ [9] := by simpa using Array.mem_of_getElem? ht
        exact (show Tryd.prog.wantsStandIn t = false by simpa using List.all_eq_true.1 stand3 t hm)⟩)
    goes3
end Go.Proofs.Qxb6001095aDoor
