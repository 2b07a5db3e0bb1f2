/-
  FnLabelNamesItsStatus: the walks: one for each of the four statuses (all data written out), one for every other text.
-/
import Derived.Test.Qxb6612848aDoorApart
import Derived.Test.Qxb6612848aDoorUpper
namespace Go.Proofs.Qxb6612848aDoor.fnLabelNamesItsStatus
open Go.ChangeShapes Go.WideShapes Go.ChangeAt Go.WideMaps Go.WideElems Go.RowKit

/-- Label's contract at one string, one label and one world, kept shut while a walk goes; and zzb1Documented's, and zzb1UpperFirst's. -/
def LabIs (s l : ByteArray) (w : World) : Prop := Calls Tryd.prog 7 #[.string s] w fun e w' => e = .returned (.string l) ∧ w' = w
theorem LabIs.out {s l : ByteArray} {w : World} (h : LabIs s l w) : Calls Tryd.prog 7 #[.string s] w fun e w' => e = .returned (.string l) ∧ w' = w := h
def DocIs (s : ByteArray) (b : Bool) (w : World) : Prop := Calls Tryd.prog 8 #[.string s] w fun e w' => e = .returned (.bool b) ∧ w' = w
theorem DocIs.out {s : ByteArray} {b : Bool} {w : World} (h : DocIs s b w) : Calls Tryd.prog 8 #[.string s] w fun e w' => e = .returned (.bool b) ∧ w' = w := h
def UppIs (s u : ByteArray) (w : World) : Prop := Calls Tryd.prog 9 #[.string s] w fun e w' => e = .returned (.string u) ∧ Below w.heap.size w w'
theorem UppIs.out {s u : ByteArray} {w : World} (h : UppIs s u w) : Calls Tryd.prog 9 #[.string s] w fun e w' => e = .returned (.string u) ∧ Below w.heap.size w w' := h

theorem walk_long (a0 : ByteArray) (w : World) (h1 : (1048576 : Int) < (a0.size : Int)) : Calls Tryd.prog 3 #[.string a0] w fun e w' => e = .returned (.bool true) ∧ Below w.heap.size w w' := by
  go_enter Tryd.func3, Tryd.ntmps3
  go_wp2
  go_ret
  exact ⟨rfl, Below.refl _ _⟩

theorem walk_none (a0 l : ByteArray) (w : World) (h1 : ¬ (1048576 : Int) < (a0.size : Int)) (hl : l.toList.isEmpty = true) (HL : LabIs a0 l w) (HD : DocIs a0 false w) :
    Calls Tryd.prog 3 #[.string a0] w fun e w' => e = .returned (.bool true) ∧ Below w.heap.size w w' := by
  go_enter Tryd.func3, Tryd.ntmps3
  go_wp2_with (first | (go_at_call 6; go_in) | (go_at_call 7; refine HL.out.mono ?_; rintro e w' ⟨rfl, rfl⟩) | (go_at_call 8; refine HD.out.mono ?_; rintro e w' ⟨rfl, rfl⟩))
  go_ret
  exact ⟨rfl, Below.refl _ _⟩

theorem walk_pending (w : World) (HL : LabIs ⟨#[112, 101, 110, 100, 105, 110, 103]⟩ ⟨#[80, 101, 110, 100, 105, 110, 103]⟩ w) (HD : DocIs ⟨#[112, 101, 110, 100, 105, 110, 103]⟩ true w) (HU : UppIs ⟨#[112, 101, 110, 100, 105, 110, 103]⟩ ⟨#[80, 101, 110, 100, 105, 110, 103]⟩ w) :
    Calls Tryd.prog 3 #[.string ⟨#[112, 101, 110, 100, 105, 110, 103]⟩] w fun e w' => e = .returned (.bool true) ∧ Below w.heap.size w w' := by
  have hx : (ByteArray.extract ⟨#[80, 101, 110, 100, 105, 110, 103]⟩ 0 7).toList = [80, 101, 110, 100, 105, 110, 103] := by rw [toList_data]; rfl
  go_enter Tryd.func3, Tryd.ntmps3
  go_wp2_with (first | (go_at_call 6; go_in) | (go_at_call 7; refine HL.out.mono ?_; rintro e w' ⟨rfl, rfl⟩) | (go_at_call 8; refine HD.out.mono ?_; rintro e w' ⟨rfl, rfl⟩) | (go_at_call 9; refine HU.out.mono ?_; rintro e w' ⟨rfl, hb⟩))
  go_ret
  exact ⟨rfl, hb⟩

theorem walk_assigned (w : World) (HL : LabIs ⟨#[97, 115, 115, 105, 103, 110, 101, 100]⟩ ⟨#[82, 101, 118, 105, 101, 119, 101, 114, 32, 65, 115, 115, 105, 103, 110, 101, 100]⟩ w) (HD : DocIs ⟨#[97, 115, 115, 105, 103, 110, 101, 100]⟩ true w) (HU : UppIs ⟨#[97, 115, 115, 105, 103, 110, 101, 100]⟩ ⟨#[65, 115, 115, 105, 103, 110, 101, 100]⟩ w) :
    Calls Tryd.prog 3 #[.string ⟨#[97, 115, 115, 105, 103, 110, 101, 100]⟩] w fun e w' => e = .returned (.bool true) ∧ Below w.heap.size w w' := by
  have hx : (ByteArray.extract ⟨#[82, 101, 118, 105, 101, 119, 101, 114, 32, 65, 115, 115, 105, 103, 110, 101, 100]⟩ 9 17).toList = [65, 115, 115, 105, 103, 110, 101, 100] := by rw [toList_data]; rfl
  go_enter Tryd.func3, Tryd.ntmps3
  go_wp2_with (first | (go_at_call 6; go_in) | (go_at_call 7; refine HL.out.mono ?_; rintro e w' ⟨rfl, rfl⟩) | (go_at_call 8; refine HD.out.mono ?_; rintro e w' ⟨rfl, rfl⟩) | (go_at_call 9; refine HU.out.mono ?_; rintro e w' ⟨rfl, hb⟩))
  go_ret
  exact ⟨rfl, hb⟩

theorem walk_removed (w : World) (HL : LabIs ⟨#[114, 101, 109, 111, 118, 101, 100]⟩ ⟨#[82, 101, 109, 111, 118, 101, 100]⟩ w) (HD : DocIs ⟨#[114, 101, 109, 111, 118, 101, 100]⟩ true w) (HU : UppIs ⟨#[114, 101, 109, 111, 118, 101, 100]⟩ ⟨#[82, 101, 109, 111, 118, 101, 100]⟩ w) :
    Calls Tryd.prog 3 #[.string ⟨#[114, 101, 109, 111, 118, 101, 100]⟩] w fun e w' => e = .returned (.bool true) ∧ Below w.heap.size w w' := by
  have hx : (ByteArray.extract ⟨#[82, 101, 109, 111, 118, 101, 100]⟩ 0 7).toList = [82, 101, 109, 111, 118, 101, 100] := by rw [toList_data]; rfl
  go_enter Tryd.func3, Tryd.ntmps3
  go_wp2_with (first | (go_at_call 6; go_in) | (go_at_call 7; refine HL.out.mono ?_; rintro e w' ⟨rfl, rfl⟩) | (go_at_call 8; refine HD.out.mono ?_; rintro e w' ⟨rfl, rfl⟩) | (go_at_call 9; refine HU.out.mono ?_; rintro e w' ⟨rfl, hb⟩))
  go_ret
  exact ⟨rfl, hb⟩

theorem walk_dismissed (w : World) (HL : LabIs ⟨#[100, 105, 115, 109, 105, 115, 115, 101, 100]⟩ ⟨#[70, 108, 97, 103, 32, 68, 105, 115, 109, 105, 115, 115, 101, 100]⟩ w) (HD : DocIs ⟨#[100, 105, 115, 109, 105, 115, 115, 101, 100]⟩ true w) (HU : UppIs ⟨#[100, 105, 115, 109, 105, 115, 115, 101, 100]⟩ ⟨#[68, 105, 115, 109, 105, 115, 115, 101, 100]⟩ w) :
    Calls Tryd.prog 3 #[.string ⟨#[100, 105, 115, 109, 105, 115, 115, 101, 100]⟩] w fun e w' => e = .returned (.bool true) ∧ Below w.heap.size w w' := by
  have hx : (ByteArray.extract ⟨#[70, 108, 97, 103, 32, 68, 105, 115, 109, 105, 115, 115, 101, 100]⟩ 5 14).toList = [68, 105, 115, 109, 105, 115, 115, 101, 100] := by rw [toList_data]; rfl
  go_enter Tryd.func3, Tryd.ntmps3
  go_wp2_with (first | (go_at_call 6; go_in) | (go_at_call 7; refine HL.out.mono ?_; rintro e w' ⟨rfl, rfl⟩) | (go_at_call 8; refine HD.out.mono ?_; rintro e w' ⟨rfl, rfl⟩) | (go_at_call 9; refine HU.out.mono ?_; rintro e w' ⟨rfl, hb⟩))
  go_ret
  exact ⟨rfl, hb⟩

end Go.Proofs.Qxb6612848aDoor.fnLabelNamesItsStatus
