/-
  FnLabelTellsStatusesApart: the walk.
-/
import Derived.Test.Qxb6612848aDoorLook
import Derived.Deep.RegionWith
namespace Go.Proofs.Qxb6612848aDoor
open Go.ChangeShapes Go.WideShapes Go.ChangeAt Go.WideMaps Go.WideElems Go.RowKit

/-! ### Plain -/
theorem lab_cases (s : List UInt8) : (s = sAssigned ∧ lab s = lAssigned) ∨ (s = sDismissed ∧ lab s = lDismissed) ∨ (s = sPending ∧ lab s = lPending) ∨ (s = sRemoved ∧ lab s = lRemoved) ∨ lab s = [] := by
  by_cases h1 : s = sAssigned
  · subst h1; exact Or.inl ⟨rfl, rfl⟩
  by_cases h2 : s = sDismissed
  · subst h2; exact Or.inr (Or.inl ⟨rfl, rfl⟩)
  by_cases h3 : s = sPending
  · subst h3; exact Or.inr (Or.inr (Or.inl ⟨rfl, rfl⟩))
  by_cases h4 : s = sRemoved
  · subst h4; exact Or.inr (Or.inr (Or.inr (Or.inl ⟨rfl, rfl⟩)))
  unfold lab
  rw [if_neg h1, if_neg h2, if_neg h3, if_neg h4]
  simp
theorem lab_inj (a b : List UInt8) (h : lab a = lab b) (hn : lab a ≠ []) : a = b := by
  rcases lab_cases a with ⟨rfl, e⟩ | ⟨rfl, e⟩ | ⟨rfl, e⟩ | ⟨rfl, e⟩ | e
  all_goals first | exact absurd e hn | skip
  all_goals
    rcases lab_cases b with ⟨rfl, f⟩ | ⟨rfl, f⟩ | ⟨rfl, f⟩ | ⟨rfl, f⟩ | f
    all_goals first | rfl | (rw [e, f] at h; exact absurd h (by decide))
theorem lab_lab (a : List UInt8) : lab (lab a) = [] := by
  rcases lab_cases a with ⟨rfl, e⟩ | ⟨rfl, e⟩ | ⟨rfl, e⟩ | ⟨rfl, e⟩ | e <;> (rw [e]; rfl)
theorem lab_size (s : ByteArray) : (labB s).size ≤ 17 := by
  unfold labB
  rcases lab_cases s.toList with ⟨_, e⟩ | ⟨_, e⟩ | ⟨_, e⟩ | ⟨_, e⟩ | e <;> (rw [e]; decide)
theorem lab_empty (s : ByteArray) : (labB s).toList.isEmpty = !docB s := by
  rw [labB_toList]; unfold docB; simp
theorem labB_labB (s : ByteArray) : (labB (labB s)).toList.isEmpty = true := by
  rw [labB_toList, labB_toList, lab_lab]; rfl
theorem labB_same (a b : ByteArray) (hd : docB a = true) : ((labB a).toList == (labB b).toList) = true → (a.toList == b.toList) = true := by
  intro h
  rw [beq_iff_eq, labB_toList, labB_toList] at h
  rw [beq_iff_eq]
  refine lab_inj _ _ h ?_
  intro e
  unfold docB at hd
  rw [e] at hd
  exact absurd hd (by decide)

/-- Label's contract at one string and one world, kept shut while a walk goes. -/
def LabAt (s : ByteArray) (w : World) : Prop := Calls Tryd.prog 7 #[.string s] w fun e w' => e = .returned (.string (labB s)) ∧ w' = w
theorem LabAt.out {s : ByteArray} {w : World} (h : LabAt s w) : Calls Tryd.prog 7 #[.string s] w fun e w' => e = .returned (.string (labB s)) ∧ w' = w := h

theorem walk_apart (a0 a1 : ByteArray) (w : World) (H0 : LabAt a0 w) (H1 : LabAt a1 w) (H2 : LabAt (labB a0) w) :
    Calls Tryd.prog 4 #[.string a0, .string a1] w fun e w' => e = .returned (.bool true) ∧ w' = w := by
  by_cases h1 : (1048576 : Int) < (a0.size : Int)
  · go_enter Tryd.func4, Tryd.ntmps4
    go_wp2
    go_ret
    exact ⟨rfl, rfl⟩
  · by_cases h2 : (1048576 : Int) < (a0.size : Int) + (a1.size : Int)
    · go_enter Tryd.func4, Tryd.ntmps4
      go_wp2
      all_goals
        go_ret
        exact ⟨rfl, rfl⟩
    · have e0 := lab_empty a0
      have e1 := lab_empty a1
      have e2 := labB_labB a0
      cases hd0 : docB a0
      · rw [hd0] at e0
        go_enter Tryd.func4, Tryd.ntmps4
        go_wp2_with (first | (go_at_call 10; go_in) | (go_at_call_of 7 (Value.string (labB a0)); refine H2.out.mono ?_; rintro e w' ⟨rfl, rfl⟩) | (go_at_call_of 7 (Value.string a0); refine H0.out.mono ?_; rintro e w' ⟨rfl, rfl⟩) | (go_at_call_of 7 (Value.string a1); refine H1.out.mono ?_; rintro e w' ⟨rfl, rfl⟩) | (go_at_call 8; refine (doc_any _ _).mono ?_; rintro e w' ⟨rfl, rfl⟩))
        go_ret
        exact ⟨rfl, rfl⟩
      · rw [hd0] at e0
        by_cases hs : ((labB a0).toList == (labB a1).toList) = true
        · have hab := labB_same a0 a1 hd0 hs
          go_enter Tryd.func4, Tryd.ntmps4
          go_wp2_with (first | (go_at_call 10; go_in) | (go_at_call_of 7 (Value.string (labB a0)); refine H2.out.mono ?_; rintro e w' ⟨rfl, rfl⟩) | (go_at_call_of 7 (Value.string a0); refine H0.out.mono ?_; rintro e w' ⟨rfl, rfl⟩) | (go_at_call_of 7 (Value.string a1); refine H1.out.mono ?_; rintro e w' ⟨rfl, rfl⟩) | (go_at_call 8; refine (doc_any _ _).mono ?_; rintro e w' ⟨rfl, rfl⟩))
          go_ret
          exact ⟨rfl, rfl⟩
        · have hs' : ((labB a0).toList == (labB a1).toList) = false := by simpa using hs
          clear hs
          go_enter Tryd.func4, Tryd.ntmps4
          go_wp2_with (first | (go_at_call 10; go_in) | (go_at_call_of 7 (Value.string (labB a0)); refine H2.out.mono ?_; rintro e w' ⟨rfl, rfl⟩) | (go_at_call_of 7 (Value.string a0); refine H0.out.mono ?_; rintro e w' ⟨rfl, rfl⟩) | (go_at_call_of 7 (Value.string a1); refine H1.out.mono ?_; rintro e w' ⟨rfl, rfl⟩) | (go_at_call 8; refine (doc_any _ _).mono ?_; rintro e w' ⟨rfl, rfl⟩))
          go_ret
          exact ⟨rfl, rfl⟩
end Go.Proofs.Qxb6612848aDoor
