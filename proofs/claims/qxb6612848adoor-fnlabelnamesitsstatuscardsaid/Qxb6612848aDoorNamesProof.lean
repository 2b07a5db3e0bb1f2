/-
  'Rows.FnLabelNamesItsStatusCardSaid', PROVED: the row out of the walks (Qxb6612848aDoorNames.lean); the card by the builder's one call (the tie is given: Qxb6612848aDoorTie.lean). After the guide's MapyProofs.lean, MapyCard.lean.
-/
import Derived.Test.Qxb6612848aDoorNames
import Derived.Test.Qxb6612848aDoorTie
import Derived.Test.Qxb6612848aDoorCards
namespace Go.Proofs.Qxb6612848aDoor.fnLabelNamesItsStatus
open Go.ChangeShapes Go.WideShapes Go.ChangeAt Go.WideMaps Go.WideElems Go.RowKit
open Go.ChangeMaps (open_string shut_string)

theorem of_list {s : ByteArray} {l : List UInt8} (h : s.toList = l) : s = ⟨l.toArray⟩ := by
  rw [toList_data] at h; subst h; rfl
theorem labB_mk (l : List UInt8) : labB ⟨l.toArray⟩ = ⟨(lab l).toArray⟩ := by
  unfold labB; rw [ByteArray.toList_mk]
theorem docIs {s : ByteArray} {b : Bool} (w : World) (h : docB s = b) : DocIs s b w := by subst h; exact doc_any s w
theorem labIs {s l : ByteArray} {w : World} (h : LabAt s w) (e : labB s = l) : LabIs s l w := by subst e; exact h

/-- THE WALK, for every string. -/
theorem walk (a0 : ByteArray) (w : World) (H0 : LabAt a0 w) : Calls Tryd.prog 3 #[.string a0] w fun e w' => e = .returned (.bool true) ∧ Below w.heap.size w w' := by
  by_cases h1 : (1048576 : Int) < (a0.size : Int)
  · exact walk_long a0 w h1
  by_cases e1 : a0.toList = sPending
  · obtain rfl := of_list e1
    exact walk_pending w (labIs H0 (labB_mk _)) (docIs w (doc_pending e1)) (upper_any 112 _ (by decide) (by decide) w)
  by_cases e2 : a0.toList = sAssigned
  · obtain rfl := of_list e2
    exact walk_assigned w (labIs H0 (labB_mk _)) (docIs w (doc_assigned e2)) (upper_any 97 _ (by decide) (by decide) w)
  by_cases e3 : a0.toList = sRemoved
  · obtain rfl := of_list e3
    exact walk_removed w (labIs H0 (labB_mk _)) (docIs w (doc_removed e3)) (upper_any 114 _ (by decide) (by decide) w)
  by_cases e4 : a0.toList = sDismissed
  · obtain rfl := of_list e4
    exact walk_dismissed w (labIs H0 (labB_mk _)) (docIs w (doc_dismissed e4)) (upper_any 100 _ (by decide) (by decide) w)
  · have hd := doc_none e1 e2 e3 e4
    exact walk_none a0 (labB a0) w h1 (by rw [lab_empty, hd]; rfl) H0 (docIs w hd)

set_option maxRecDepth 100000 in
theorem lifted (os : Os) (started : os.Started) (H : Type) (enc : TypeId × Value → H) :
    ReturnsInHanded {} Tryd.checked os 3 .any (fun w args => (Rows.fnLabelNamesItsStatusSpec.pre enc Tryd.prog Tryd.f3 [] false w args ∧ laidMetH Tryd.prog laid1 w) ∧ sizedMet enc Tryd.prog Tryd.f3 (OpenSpec.ofChange Rows.fnLabelNamesItsStatusSpec) false w args)
      (Rows.fnLabelNamesItsStatusSpec.post enc Tryd.prog Tryd.f3 false true false false) := by
  refine returnsInHanded_of_change_and (C := Tryd.checked) (X := fun w _ => laidMetH Tryd.prog laid1 w) (fun _ _ _ hh h => h.of_heap hh) own started (by kernel_rfl) Tryd.func3
    (ChangeSpec.witness_shaped (enc := enc) (C := Tryd.checked) (os := os) (X := fun w _ => laidMetH Tryd.prog laid1 w) false (World.doorLaid Tryd.prog 400 os) #[.string ByteArray.empty] 8 rfl (World.shaped_of_RefB (by kernel_rfl) (by kernel_rfl)) (by kernel_rfl) (by kernel_rfl) (by kernel_rfl) (door_met os _)) ?_
  intro W base args ds gs before hval0 hW _ _ hL _
  have hval : ∀ (j : Nat) t v, Tryd.f3.params[j]? = some t → args[j]? = some v → Value.okWide Tryd.prog W .any base t v := hval0
  have hW' := hW
  obtain ⟨p, q, hA0, hV, rfl, hfz, hnd⟩ := hW
  have hA : DataW.TrodAll enc Tryd.prog W 0 (fun _ => true) true Tryd.f3.params.toList args.toList ds p := hA0
  rw [Tryd.params3] at hA hval
  obtain ⟨v0, d0, rfl, rfl, h0⟩ := trodAll_one hA
  obtain ⟨a0, rfl, rfl, rfl, w0⟩ := open_string Tryd.underlying9 (hval 0 9 v0 rfl rfl) h0
  obtain ⟨bm, hc, hl⟩ := of_laid hL
  clear hA0 hval0
  obtain ⟨g1, rfl⟩ : ∃ g1, gs = [g1] := by
    obtain ⟨_, _, _, _, d, _, e, _⟩ := trodVars_one hV
    exact ⟨d, e⟩
  refine (walk a0 W (label_any a0 bm W hc (hl a0 w0))).mono fun e W' ⟨he, hb⟩ => ?_
  subst he
  refine ⟨_, rfl, _, _, _, [], [], q, hW', ?_, ?_, ?_, hb.frame _, fun h => by cases h⟩
  · exact trodAll_mk1 (shut_bool Tryd.underlying4 _)
  · exact trodAll_mk1 (shut_string Tryd.underlying9 w0)
  · exact Below.trodVars laidOut hb (by kernel_rfl) hV

theorem over : Rows.FnLabelNamesItsStatusSaid :=
  OpenClaim.holds_of_wide 3 Tryd.f3 rfl rfl rfl rfl rfl rfl rfl ⟨rfl, rfl, rfl, rfl, rfl⟩ rfl rfl rfl rfl rfl (by kernel_rfl) Tryd.func3 (by kernel_rfl)
    (of_decide_eq_true (by kernel_rfl)) (by unfold Func.isWrapper; first | (rw [if_pos (by decide +kernel)]; kernel_rfl) | (rw [if_neg (by decide +kernel)]; exact ⟨rfl, rfl⟩))
    (fun os started H enc _ => lifted os started H enc)

/-- ████ THE TIED CARD ████ -/
theorem proved : Rows.FnLabelNamesItsStatusCardSaid :=
  Claim7.holds_tied_plain_at .later [] [.mappedDeep] true (true, "4671a272a49c85c232bc8e8705776daee29dacba780d2ab9d6258a2095ece8c9") false
    over (fun _ h => by cases h) (by kernel_rfl) (fun _ h => by cases h) fnLabelNamesItsStatus_row_tie rfl ⟨rfl, rfl⟩ (by kernel_rfl) rfl
    (fun f fn hf hfn => by
      obtain rfl : f = 3 := Option.some.inj ((show Tryd.prog.funcNamed Rows.fnLabelNamesItsStatusRow.func = some 3 by kernel_rfl).symm.trans hf) |>.symm
      obtain rfl : fn = Tryd.f3 := (Option.some.inj (Tryd.func3.symm.trans hfn)).symm
      exact ⟨by kernel_rfl, fun j t ht => by
        rw [Tryd.params3] at ht
        have hm : t ∈ [9] := by simpa using Array.mem_of_getElem? ht
        have hall : ([9].all fun u => !Tryd.prog.wantsStandIn u) = true := by kernel_rfl
        exact (show Tryd.prog.wantsStandIn t = false by simpa using List.all_eq_true.1 hall t hm)⟩)
    (by kernel_rfl)
end Go.Proofs.Qxb6612848aDoor.fnLabelNamesItsStatus
