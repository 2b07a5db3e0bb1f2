/-
  FnOpenSplitsLabelledStatuses: the walk; 'Rows.FnOpenSplitsLabelledStatusesCardSaid', PROVED: the row out of the walk; the card by the builder's one call (the tie is given: Qxb6612848aDoorTie.lean). After the guide's MapyProofs.lean, MapyCard.lean.
-/
import Derived.Test.Qxb6612848aDoorApart
import Derived.Test.Qxb6612848aDoorTie
import Derived.Test.Qxb6612848aDoorCards
namespace Go.Proofs.Qxb6612848aDoor.fnOpenSplitsLabelledStatuses
open Go.ChangeShapes Go.WideShapes Go.ChangeAt Go.WideMaps Go.WideElems Go.RowKit
open Go.ChangeMaps (open_string shut_string)

theorem dec_no {a b : List UInt8} (h : ¬ a = b) : (a == b) = false := beq_eq_false_iff_ne.2 h

/-- The five ways: what Open answers, whether there is a label, and the two tests on 'removed' and 'dismissed'. -/
theorem ways (s : ByteArray) : ∃ o r d l : Bool, openB s = o ∧ (s.toList == [114, 101, 109, 111, 118, 101, 100]) = r ∧ (s.toList == [100, 105, 115, 109, 105, 115, 115, 101, 100]) = d ∧ (labB s).toList.isEmpty = l ∧
    ((o = true ∧ r = false ∧ d = false ∧ l = false) ∨ (o = false ∧ r = true ∧ d = false ∧ l = false) ∨ (o = false ∧ r = false ∧ d = true ∧ l = false) ∨ (o = false ∧ r = false ∧ d = false ∧ l = true)) := by
  refine ⟨_, _, _, _, rfl, rfl, rfl, rfl, ?_⟩
  rw [lab_empty]
  show (openB s = true ∧ (s.toList == sRemoved) = false ∧ (s.toList == sDismissed) = false ∧ _) ∨ (_ ∧ (s.toList == sRemoved) = true ∧ (s.toList == sDismissed) = false ∧ _) ∨ (_ ∧ (s.toList == sRemoved) = false ∧ (s.toList == sDismissed) = true ∧ _) ∨ (_ ∧ (s.toList == sRemoved) = false ∧ (s.toList == sDismissed) = false ∧ _)
  unfold openB
  by_cases h1 : s.toList = sPending
  · rw [doc_pending h1, h1]; decide
  by_cases h2 : s.toList = sAssigned
  · rw [doc_assigned h2, h2]; decide
  by_cases h3 : s.toList = sRemoved
  · rw [doc_removed h3, h3]; decide
  by_cases h4 : s.toList = sDismissed
  · rw [doc_dismissed h4, h4]; decide
  rw [doc_none h1 h2 h3 h4, dec_no h1, dec_no h2, dec_no h3, dec_no h4]; decide

theorem walk (a0 : ByteArray) (w : World) (H0 : LabAt a0 w) : Calls Tryd.prog 5 #[.string a0] w fun e w' => e = .returned (.bool true) ∧ w' = w := by
  by_cases h1 : (1048576 : Int) < (a0.size : Int)
  · go_enter Tryd.func5, Tryd.ntmps5
    go_wp2
    go_ret
    exact ⟨rfl, rfl⟩
  · obtain ⟨o, r, d, l, ho, hr, hd, hl, hw⟩ := ways a0
    rcases hw with ⟨rfl, rfl, rfl, rfl⟩ | ⟨rfl, rfl, rfl, rfl⟩ | ⟨rfl, rfl, rfl, rfl⟩ | ⟨rfl, rfl, rfl, rfl⟩
    all_goals
      go_enter Tryd.func5, Tryd.ntmps5
      go_wp2_with (first | (go_at_call 11; go_in) | (go_at_call_of 7 (Value.string a0); refine H0.out.mono ?_; rintro e w' ⟨rfl, rfl⟩) | (go_at_call 12; refine (open_any _ _).mono ?_; rintro e w' ⟨rfl, rfl⟩))
      go_ret
      exact ⟨rfl, rfl⟩

set_option maxRecDepth 100000 in
theorem lifted (os : Os) (started : os.Started) (H : Type) (enc : TypeId × Value → H) :
    ReturnsInHanded {} Tryd.checked os 5 .any (fun w args => (Rows.fnOpenSplitsLabelledStatusesSpec.pre enc Tryd.prog Tryd.f5 [] false w args ∧ laidMetH Tryd.prog laid1 w) ∧ sizedMet enc Tryd.prog Tryd.f5 (OpenSpec.ofChange Rows.fnOpenSplitsLabelledStatusesSpec) false w args)
      (Rows.fnOpenSplitsLabelledStatusesSpec.post enc Tryd.prog Tryd.f5 false true false false) := by
  refine returnsInHanded_of_change_and (C := Tryd.checked) (X := fun w _ => laidMetH Tryd.prog laid1 w) (fun _ _ _ hh h => h.of_heap hh) own started (by kernel_rfl) Tryd.func5
    (ChangeSpec.witness_shaped (enc := enc) (C := Tryd.checked) (os := os) (X := fun w _ => laidMetH Tryd.prog laid1 w) false (World.doorLaid Tryd.prog 400 os) #[.string ByteArray.empty] 8 rfl (World.shaped_of_RefB (by kernel_rfl) (by kernel_rfl)) (by kernel_rfl) (by kernel_rfl) (by kernel_rfl) (door_met os _)) ?_
  intro W base args ds gs before hval0 hW _ _ hL _
  have hval : ∀ (j : Nat) t v, Tryd.f5.params[j]? = some t → args[j]? = some v → Value.okWide Tryd.prog W .any base t v := hval0
  have hW' := hW
  obtain ⟨p, q, hA0, hV, rfl, hfz, hnd⟩ := hW
  have hA : DataW.TrodAll enc Tryd.prog W 0 (fun _ => true) true Tryd.f5.params.toList args.toList ds p := hA0
  rw [Tryd.params5] at hA hval
  obtain ⟨v0, d0, rfl, rfl, h0⟩ := trodAll_one hA
  obtain ⟨a0, rfl, rfl, rfl, w0⟩ := open_string Tryd.underlying9 (hval 0 9 v0 rfl rfl) h0
  obtain ⟨bm, hc, hl⟩ := of_laid hL
  clear hA0 hval0
  obtain ⟨g1, rfl⟩ : ∃ g1, gs = [g1] := by
    obtain ⟨_, _, _, _, d, _, e, _⟩ := trodVars_one hV
    exact ⟨d, e⟩
  refine (walk a0 W (label_any a0 bm W hc (hl a0 w0))).mono fun e W' ⟨he, hw⟩ => ?_
  subst he; subst hw
  refine ⟨_, rfl, _, _, _, [], [], q, hW', ?_, ?_, ?_, (Below.refl _ _).frame _, fun h => by cases h⟩
  · exact trodAll_mk1 (shut_bool Tryd.underlying4 _)
  · exact trodAll_mk1 (shut_string Tryd.underlying9 w0)
  · exact Below.trodVars laidOut (Below.refl _ _) (by kernel_rfl) hV

theorem over : Rows.FnOpenSplitsLabelledStatusesSaid :=
  OpenClaim.holds_of_wide 5 Tryd.f5 rfl rfl rfl rfl rfl rfl rfl ⟨rfl, rfl, rfl, rfl, rfl⟩ rfl rfl rfl rfl rfl (by kernel_rfl) Tryd.func5 (by kernel_rfl)
    (of_decide_eq_true (by kernel_rfl)) (by unfold Func.isWrapper; first | (rw [if_pos (by decide +kernel)]; kernel_rfl) | (rw [if_neg (by decide +kernel)]; exact ⟨rfl, rfl⟩))
    (fun os started H enc _ => lifted os started H enc)

/-- ████ THE TIED CARD ████ -/
theorem proved : Rows.FnOpenSplitsLabelledStatusesCardSaid :=
  Claim7.holds_tied_plain_at .later [] [.mappedDeep] true (true, "4671a272a49c85c232bc8e8705776daee29dacba780d2ab9d6258a2095ece8c9") false
    over (fun _ h => by cases h) (by kernel_rfl) (fun _ h => by cases h) fnOpenSplitsLabelledStatuses_row_tie rfl ⟨rfl, rfl⟩ (by kernel_rfl) rfl
    (fun f fn hf hfn => by
      obtain rfl : f = 5 := Option.some.inj ((show Tryd.prog.funcNamed Rows.fnOpenSplitsLabelledStatusesRow.func = some 5 by kernel_rfl).symm.trans hf) |>.symm
      obtain rfl : fn = Tryd.f5 := (Option.some.inj (Tryd.func5.symm.trans hfn)).symm
      exact ⟨by kernel_rfl, fun j t ht => by
        rw [Tryd.params5] at ht
        have hm : t ∈ [9] := by simpa using Array.mem_of_getElem? ht
        have hall : ([9].all fun u => !Tryd.prog.wantsStandIn u) = true := by kernel_rfl
        exact (show Tryd.prog.wantsStandIn t = false by simpa using List.all_eq_true.1 hall t hm)⟩)
    (by kernel_rfl)
end Go.Proofs.Qxb6612848aDoor.fnOpenSplitsLabelledStatuses
