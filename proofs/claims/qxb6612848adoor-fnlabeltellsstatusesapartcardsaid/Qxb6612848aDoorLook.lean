/-
  THE LISTED MAP OPENED: what 'statusLabels[s]' answers for every string s; the contracts of Label, zzb1Documented, Open.
-/
import Derived.Test.Qxb6612848aDoorRows
import Derived.WalkKit
import Derived.ProofKit
import Derived.LaidMore
import Derived.OpenShut
import Derived.OpenVars
import Derived.ShutString
import Derived.Stop.Joined
import Derived.Maps.StringElems
namespace Go.Proofs.Qxb6612848aDoor
open Go.ChangeShapes Go.WideShapes Go.ChangeAt Go.WideMaps Go.WideElems Go.RowKit

/-! ### Plain: the four statuses and their labels -/
def sPending : List UInt8 := [112, 101, 110, 100, 105, 110, 103]
def sAssigned : List UInt8 := [97, 115, 115, 105, 103, 110, 101, 100]
def sRemoved : List UInt8 := [114, 101, 109, 111, 118, 101, 100]
def sDismissed : List UInt8 := [100, 105, 115, 109, 105, 115, 115, 101, 100]
def lPending : List UInt8 := [80, 101, 110, 100, 105, 110, 103]
def lAssigned : List UInt8 := [82, 101, 118, 105, 101, 119, 101, 114, 32, 65, 115, 115, 105, 103, 110, 101, 100]
def lRemoved : List UInt8 := [82, 101, 109, 111, 118, 101, 100]
def lDismissed : List UInt8 := [70, 108, 97, 103, 32, 68, 105, 115, 109, 105, 115, 115, 101, 100]
/-- The label of a status text: empty where it is none of the four. -/
def lab (s : List UInt8) : List UInt8 :=
  if s = sAssigned then lAssigned else if s = sDismissed then lDismissed else if s = sPending then lPending else if s = sRemoved then lRemoved else []
/-- As a string of the model's. -/
def labB (s : ByteArray) : ByteArray := ⟨(lab s.toList).toArray⟩

theorem toList_data (s : ByteArray) : s.toList = s.data.toList := ByteArray.toList_eq s
theorem labB_toList (s : ByteArray) : (labB s).toList = lab s.toList := by unfold labB; exact ByteArray.toList_mk _

/-! ### The listed map -/
theorem own : ownKnob Tryd.prog.godebug = none := by kernel_rfl
theorem gLabels : Tryd.prog.globalNamed (Rows.fnLabelNamesItsStatusSpec.vars.headD default) = some 0 := by kernel_rfl
theorem tLabels : (Tryd.prog.globals[0]?).map (·.type) = some 29 := by kernel_rfl
theorem law : KeyLaw Tryd.prog 23 := string_law Tryd.underlying23
abbrev laid1 : List (String × DataW Unit) := [(Rows.fnLabelNamesItsStatusSpec.vars.headD default, Rows.laid_example_com_flagdeck_flagdeck_internal_cases_statusLabels)]

theorem same_no {a b : List UInt8} (h : ¬ b = a) : Lit.sameKey (.string a) (.string b) = false := by
  simp only [Lit.sameKey]; simpa using fun e : a = b => h e.symm
theorem same_yes (a : List UInt8) : Lit.sameKey (.string a) (.string a) = true := by simp [Lit.sameKey]
theorem datum_at (s : List UInt8) : (Rows.laid_example_com_flagdeck_flagdeck_internal_cases_statusLabels (H := Unit)).atKey (.string s) (.lit (.string [])) = .lit (.string (lab s)) := by
  unfold Rows.laid_example_com_flagdeck_flagdeck_internal_cases_statusLabels
  simp only [DataW.atKey, lab]
  by_cases h1 : s = sAssigned
  · subst h1; rfl
  · rw [if_neg h1, List.find?_cons_of_neg (by rw [Bool.not_eq_true]; exact same_no h1)]
    by_cases h2 : s = sDismissed
    · subst h2; rfl
    · rw [if_neg h2, List.find?_cons_of_neg (by rw [Bool.not_eq_true]; exact same_no h2)]
      by_cases h3 : s = sPending
      · subst h3; rfl
      · rw [if_neg h3, List.find?_cons_of_neg (by rw [Bool.not_eq_true]; exact same_no h3)]
        by_cases h4 : s = sRemoved
        · subst h4; rfl
        · rw [if_neg h4, List.find?_cons_of_neg (by rw [Bool.not_eq_true]; exact same_no h4)]
          rfl

theorem of_laid {W : World} (h : laidMetH Tryd.prog laid1 W) : ∃ bm, W.cell? ⟨0, 0, none⟩ = some (.map (some bm)) ∧
    ∀ s : ByteArray, s.size ≤ maxLen → (Instr.lookup 29 (.map (some bm)) (.string s) false).run Tryd.prog W = .ok (.string (labB s)) W := by
  rw [MakeChecks.laidMetH_plain _ _ _ (by kernel_rfl)] at h
  obtain ⟨ps, ⟨g0, t0, cs0, f0, p0, q0, hg0, ht0, hv0, hd0, _⟩, _, _⟩ := h
  obtain rfl := Option.some.inj (gLabels.symm.trans hg0)
  obtain rfl := Option.some.inj (tLabels.symm.trans ht0)
  have zero : (zeroValue 9).run Tryd.prog W = .ok (.string ⟨#[]⟩) W := by kernel_rfl
  rcases open_map Tryd.underlying29 hd0 with ⟨_, hx⟩ | ⟨bm, es, clock, m, rfl, hcs, hb, _, F, hx⟩
  · simp [Rows.laid_example_com_flagdeck_flagdeck_internal_cases_statusLabels] at hx
  simp only [Prod.mk.injEq] at hx
  have hcell : W.cell? ⟨0, 0, none⟩ = some (.map (some bm)) := by
    have := World.var?_cell hg0 hv0 0
    rw [Array.eq_one_of_toList hcs] at this
    simpa using this
  refine ⟨bm, hcell, fun s hs => ?_⟩
  have hd := datum_at s.toList
  rw [toList_data] at hd
  rcases fit_lookup (w := W) law Tryd.underlying29 zero hb F (keyOf_string_mk (s := s) Tryd.underlying23 hs) with ⟨hrun, hat⟩ | ⟨v, y, hrun, hRv, hat, _⟩
  · have := hat (.lit (.string []))
    rw [← hx.1, hd] at this
    simp only [DataW.lit.injEq, Lit.string.injEq] at this
    rw [hrun]
    unfold labB
    rw [toList_data, this]
  · obtain ⟨r, rfl, rfl, _⟩ := WideElems.elemAt_string Tryd.underlying9 hRv
    have := hat (.lit (.string []))
    rw [← hx.1, hd] at this
    simp only [DataW.lit.injEq, Lit.string.injEq] at this
    rw [hrun]
    unfold labB
    rw [toList_data, this]

/-- The door's own heap meets the condition: three closed facts. -/
theorem door_met (os : Os) (args : Array Value) : laidMetH Tryd.prog laid1 ((World.doorLaid Tryd.prog 400 os).forCall (fun _ _ => 0) ⟨#[], args, []⟩).memory :=
  laidMetH_of_parts3 (fuel := 8) (laidMet_of_run' 8 (by kernel_rfl) (by kernel_rfl)) (by kernel_rfl) (by kernel_rfl)

theorem laidOut : laidOutB Tryd.prog = true := by kernel_rfl

/-! ### The callees' contracts -/
theorem label_any (s : ByteArray) (bm : Nat) (w : World) (hc : w.cell? ⟨0, 0, none⟩ = some (.map (some bm)))
    (hrun : (Instr.lookup 29 (.map (some bm)) (.string s) false).run Tryd.prog w = .ok (.string (labB s)) w) :
    Calls Tryd.prog 7 #[.string s] w fun e w' => e = .returned (.string (labB s)) ∧ w' = w := by
  go_enter Tryd.func7, Tryd.ntmps7
  go_wp2
  go_ret
  exact ⟨rfl, rfl⟩

/-- zzb1Documented and Open, as Bool functions. -/
def docB (s : ByteArray) : Bool := !(lab s.toList).isEmpty
def openB (s : ByteArray) : Bool := s.toList == sPending || s.toList == sAssigned
def decB (s : ByteArray) : Bool := s.toList == sRemoved || s.toList == sDismissed

theorem ret_bool {a b : Bool} (h : a = b) : Ending.returned (.bool a) = .returned (.bool b) := by rw [h]
theorem doc_pending {s : ByteArray} (h : s.toList = sPending) : docB s = true := by unfold docB; rw [h]; rfl
theorem doc_assigned {s : ByteArray} (h : s.toList = sAssigned) : docB s = true := by unfold docB; rw [h]; rfl
theorem doc_removed {s : ByteArray} (h : s.toList = sRemoved) : docB s = true := by unfold docB; rw [h]; rfl
theorem doc_dismissed {s : ByteArray} (h : s.toList = sDismissed) : docB s = true := by unfold docB; rw [h]; rfl
theorem doc_none {s : ByteArray} (h1 : ¬ s.toList = sPending) (h2 : ¬ s.toList = sAssigned) (h3 : ¬ s.toList = sRemoved) (h4 : ¬ s.toList = sDismissed) : docB s = false := by
  unfold docB lab; rw [if_neg h2, if_neg h4, if_neg h1, if_neg h3]; rfl

theorem doc_any (s : ByteArray) (w : World) : Calls Tryd.prog 8 #[.string s] w fun e w' => e = .returned (.bool (docB s)) ∧ w' = w := by
  by_cases h1 : s.toList = [112, 101, 110, 100, 105, 110, 103]
  · go_enter Tryd.func8, Tryd.ntmps8
    go_wp2
    go_ret
    exact ⟨ret_bool (doc_pending h1).symm, rfl⟩
  · by_cases h2 : s.toList = [97, 115, 115, 105, 103, 110, 101, 100]
    · go_enter Tryd.func8, Tryd.ntmps8
      go_wp2
      go_ret
      exact ⟨ret_bool (doc_assigned h2).symm, rfl⟩
    · by_cases h3 : s.toList = [114, 101, 109, 111, 118, 101, 100]
      · go_enter Tryd.func8, Tryd.ntmps8
        go_wp2
        go_ret
        exact ⟨ret_bool (doc_removed h3).symm, rfl⟩
      · by_cases h4 : s.toList = [100, 105, 115, 109, 105, 115, 115, 101, 100]
        · go_enter Tryd.func8, Tryd.ntmps8
          go_wp2
          go_ret
          exact ⟨ret_bool (doc_dismissed h4).symm, rfl⟩
        · go_enter Tryd.func8, Tryd.ntmps8
          go_wp2
          go_ret
          exact ⟨ret_bool (by rw [doc_none h1 h2 h3 h4]; simp [h1, h2, h3, h4]), rfl⟩

theorem open_any (s : ByteArray) (w : World) : Calls Tryd.prog 12 #[.string s] w fun e w' => e = .returned (.bool (openB s)) ∧ w' = w := by
  by_cases h1 : s.toList = [112, 101, 110, 100, 105, 110, 103]
  · go_enter Tryd.func12, Tryd.ntmps12
    go_wp2
    go_ret
    exact ⟨ret_bool (by unfold openB; rw [h1]; rfl), rfl⟩
  · go_enter Tryd.func12, Tryd.ntmps12
    go_wp2
    go_ret
    exact ⟨ret_bool rfl, rfl⟩
end Go.Proofs.Qxb6612848aDoor
