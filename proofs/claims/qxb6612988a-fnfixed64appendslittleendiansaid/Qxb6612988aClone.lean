/-
  zzBytes_.., zzCloneBytes.
-/
import Derived.Test.Qxb6612988aCmp
import Derived.Laws.CopyOwn
namespace Go.Proofs.Qxb6612988a
open Go.RowKit

/-- It answers some bool; the world stands. -/
def SomeB (w : World) (e : Ending) (w' : World) : Prop := ∃ r : Bool, e = .returned (.bool r) ∧ w' = w
theorem bytes_any (ao : Option Addr) (n cap : Nat) (v : Int) (w : World) (hn : n ≤ maxLen) : Calls Try.prog 6 #[.slice ao n cap, .int .u64 v] w fun e w' => SomeB w e w' := by
  unfold maxLen at hn
  by_cases hb : (1048576 : Int) < (n : Int)
  · go_enter Try.func6, Try.ntmps6
    go_wp2
    go_ret
    exact ⟨_, rfl, rfl⟩
  · go_enter Try.func6, Try.ntmps6
    go_wp2
    go_ret
    exact ⟨_, rfl, rfl⟩

theorem make_bytes (n : Nat) (hn : n ≤ 1048576) : ∃ M : List Value, M.length = n ∧ ∀ w : World, (Instr.makeSlice 22 (.int .i64 n) (.int .i64 n)).run Try.prog w = .ok (.slice (some ⟨w.heap.size, 0, none⟩) n n) (w.alloc (.cells M.toArray 5)) := by
  obtain ⟨i, hi, hz, hs, hb⟩ := info_parts info5
  refine ⟨(madeCells (Value.int .u8 0).cells (n * 1)).toList, by simp [size_madeCells], fun w => ?_⟩
  have := run_make (P := Try.prog) w 22 5 i _ Try.underlying22 hi hz .i64 .i64 n n (by omega) (by omega) (by rw [hb]; omega) (by omega)
  rw [hs] at this
  simpa using this

/-- zzCloneBytes: nil for nil; else a new row of the same bytes, of no spare room. -/
def CloneR (n : Nat) (x : Nat → Nat) (w : World) (e : Ending) (w' : World) : Prop :=
  ∃ ao', e = .returned (.slice ao' n n) ∧ Kept w w' ∧ RowAt w'.heap.size w' ao' n (u8V x) ∧ (ao' = none → n = 0)

theorem clone_nil (cap : Nat) (x : Nat → Nat) (w : World) : Calls Try.prog 7 #[.slice none 0 cap] w fun e w' => CloneR 0 x w e w' := by
  have hnil := fun w => Lib.run_eql_slice_nil (P := Try.prog) w 22 5 none 0 cap 0 0 Try.underlying22
  go_enter Try.func7, Try.ntmps7
  go_wp2
  go_ret
  exact ⟨none, rfl, Kept.refl _, Or.inl rfl, fun _ => rfl⟩

theorem size5 : (Try.prog.info? 5).map (·.size) = some 1 := by kernel_rfl

theorem clone_some (ad : Addr) (n cap : Nat) (x : Nat → Nat) (w : World) (hrow : RowAt w.heap.size w (some ad) n (u8V x)) (hn : n ≤ 1048576) : Calls Try.prog 7 #[.slice (some ad) n cap] w fun e w' => CloneR n x w e w' := by
  have hnil := fun w => Lib.run_eql_slice_nil (P := Try.prog) w 22 5 (some ad) n cap 0 0 Try.underlying22
  obtain ⟨M, hM, hmk⟩ := make_bytes n hn
  have HR := hide hrow
  have HM := hide hM
  clear hrow hM
  go_enter Try.func7, Try.ntmps7
  go_wp2_with (refine wpList_copy_splice rfl (.tmp 9) (.tmp 10) 22 22 rfl 5 Try.underlying22 size5 (some ⟨w.heap.size, 0, none⟩) (some ad) n n n cap rfl rfl w.heap.size 0 M 5 ?c0 ((List.range n).map (u8V x)) ?c1 ?c2 ?c3 ?c4 w.heap.size w ?c5 ?c6 ?c7)
  case c0 => show (w.heap.push _)[w.heap.size]? = _; simp
  case c1 => simp
  case c2 =>
    intro hp j a hj
    rcases HR.out with h0 | ⟨b, off, hb, hB, hc⟩
    · omega
    · obtain rfl := Option.some.inj hb
      have hjn : j < n := by have := (List.getElem?_eq_some_iff.1 hj).1; simpa using this
      rw [List.getElem?_range hjn] at hj
      obtain rfl := Option.some.inj hj
      rw [Addr.add_lit]
      exact old_cell _ (hc j hjn)
  case c3 => simp [HM.out]
  case c4 =>
    intro v hv
    obtain ⟨i, _, rfl⟩ := List.mem_map.1 hv
    rfl
  case c5 => exact (Below.refl _ _).alloc (Nat.le_refl _) _
  case c6 => exact Nat.le_refl _
  case c7 =>
    intro w1 hblk hb
    go_wp2
    go_ret
    have hh := hblk.out
    refine ⟨some ⟨w.heap.size, 0, none⟩, rfl, hb, Or.inr ⟨w.heap.size, 0, rfl, (Array.getElem?_eq_some_iff.1 hh).1, fun i hi => ?_⟩, fun h => by cases h⟩
    unfold World.cell?
    rw [Nat.zero_add, hh]
    have : (splice M 0 (List.map (u8V x) (List.range n)))[i]? = some (u8V x i) := by
      unfold splice
      rw [List.take_zero, List.nil_append, List.getElem?_append_left (by simpa using hi)]
      simp [hi]
    simpa using this

theorem clone_any (ao : Option Addr) (n cap : Nat) (x : Nat → Nat) (w : World) (hrow : RowAt w.heap.size w ao n (u8V x)) (hnone : ao = none → n = 0) (hn : n ≤ 1048576) : Calls Try.prog 7 #[.slice ao n cap] w fun e w' => CloneR n x w e w' := by
  cases ao with
  | none => obtain rfl := hnone rfl; exact clone_nil cap x w
  | some ad => exact clone_some ad n cap x w hrow hn
end Go.Proofs.Qxb6612988a
