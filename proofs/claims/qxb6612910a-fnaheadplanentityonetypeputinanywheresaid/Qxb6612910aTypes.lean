/-
  ZZnewTypeReads, zzTypes, ZZnewAheadPlan: the plan's table of types in memory.
-/
import Derived.Test.Qxb6612910aFit
namespace Go.Proofs.Qxb6612910a
open Go.RowKit

theorem new_type (s : ByteArray) (a b : Int) (w : World) : Calls Try.prog 25 #[.string s, .int .i64 a, .int .i64 b] w fun e w' => e = .returned (.agg #[.string s, .int .i64 a, .int .i64 b]) ∧ w' = w.alloc (.cells #[.string s, .int .i64 a, .int .i64 b] 63) := by
  go_enter Try.func25, Try.ntmps25
  go_wp2
  exact bodyPost_ret (v := .agg #[.string s, .int .i64 a, .int .i64 b]) (by simp [results, Try.results25, go_sem]) rfl ⟨rfl, rfl⟩

theorem new_plan (w : World) (t : Option Addr) (n c : Nat) : Calls Try.prog 8 #[.slice t n c] w fun e w' => e = .returned (.pointer (some ⟨w.heap.size, 0, none⟩)) ∧ w' = w.alloc (.cells #[.slice none 0 0, .slice none 0 0, .slice none 0 0, .slice t n c, .slice none 0 0] 61) := by
  go_enter Try.func8, Try.ntmps8
  go_wp2
  go_ret
  exact ⟨rfl, rfl⟩

/-- Block g is a table of n rows of three cells, none frozen; the first k rows are written. -/
structure TypesAt (w : World) (g n k : Nat) (S : Nat → ByteArray) (Z E : Nat → Int) : Prop where
  lt : g < w.heap.size
  there : ∀ j, j < n * 3 → ∃ v, w.cell? ⟨g, j, none⟩ = some v
  free : ∀ j, j < n * 3 → w.frozen? ⟨g, j, none⟩ = false
  name : ∀ i, i < k → w.cell? ⟨g, i * 3, none⟩ = some (.string (S i))
  lo : ∀ i, i < k → w.cell? ⟨g, i * 3 + 1, none⟩ = some (.int .i64 (Z i))
  hi : ∀ i, i < k → w.cell? ⟨g, i * 3 + 2, none⟩ = some (.int .i64 (E i))

theorem TypesAt.below {w w' : World} {g n k B : Nat} {S : Nat → ByteArray} {Z E : Nat → Int} (h : TypesAt w g n k S Z E) (hb : Below B w w') (hg : g < B) : TypesAt w' g n k S Z E where
  lt := Nat.lt_of_lt_of_le h.lt hb.size
  there := fun j hj => by rw [hb.cell (p := ⟨g, j, none⟩) hg]; exact h.there j hj
  free := fun j hj => by rw [hb.frozen (p := ⟨g, j, none⟩) hg]; exact h.free j hj
  name := fun i hi => by rw [hb.cell (p := ⟨g, _, none⟩) hg]; exact h.name i hi
  lo := fun i hi => by rw [hb.cell (p := ⟨g, _, none⟩) hg]; exact h.lo i hi
  hi := fun i hi => by rw [hb.cell (p := ⟨g, _, none⟩) hg]; exact h.hi i hi

theorem off_ne {g a b : Nat} (h : a ≠ b) : (⟨g, a, none⟩ : Addr) ≠ ⟨g, b, none⟩ := fun e => h (congrArg Addr.off e)

theorem TypesAt.step {w : World} {g n k : Nat} {S : Nat → ByteArray} {Z E : Nat → Int} (h : TypesAt w g n k S Z E) (hk : k < n) (o : Obj) {u : ByteArray} {z x : Int} (hu : S k = u) (hz : Z k = z) (hx : E k = x) :
    TypesAt ((((w.setCell ⟨g, k * 3, none⟩ (.string u)).setCell ⟨g, k * 3 + 1, none⟩ (.int .i64 z)).setCell ⟨g, k * 3 + 2, none⟩ (.int .i64 x)).alloc o).drew g n (k + 1) S Z E := by
  subst hu hz hx
  obtain ⟨v0, k0⟩ := h.there (k * 3) (by omega)
  obtain ⟨v1, k1⟩ := h.there (k * 3 + 1) (by omega)
  obtain ⟨v2, k2⟩ := h.there (k * 3 + 2) (by omega)
  have base : ∀ j, ((((w.setCell ⟨g, k * 3, none⟩ (.string (S k))).setCell ⟨g, k * 3 + 1, none⟩ (.int .i64 (Z k))).setCell ⟨g, k * 3 + 2, none⟩ (.int .i64 (E k))).alloc o).drew.cell? ⟨g, j, none⟩ =
      if j = k * 3 then some (.string (S k)) else if j = k * 3 + 1 then some (.int .i64 (Z k)) else if j = k * 3 + 2 then some (.int .i64 (E k)) else w.cell? ⟨g, j, none⟩ := by
    intro j
    rw [World.cell?_drew, World.cell?_alloc_lt _ _ _ (by simpa using h.lt)]
    by_cases h2 : j = k * 3 + 2
    · subst h2
      rw [if_neg (by omega), if_neg (by omega), if_pos rfl]
      exact World.cell?_setCell_same _ _ _ (u := v2) (by rw [World.cell?_setCell_other _ _ _ _ (off_ne (by omega)), World.cell?_setCell_other _ _ _ _ (off_ne (by omega))]; exact k2)
    · rw [World.cell?_setCell_other _ _ _ _ (off_ne (Ne.symm h2))]
      by_cases h1 : j = k * 3 + 1
      · subst h1
        rw [if_neg (by omega), if_pos rfl]
        exact World.cell?_setCell_same _ _ _ (u := v1) (by rw [World.cell?_setCell_other _ _ _ _ (off_ne (by omega))]; exact k1)
      · rw [World.cell?_setCell_other _ _ _ _ (off_ne (Ne.symm h1))]
        by_cases h0 : j = k * 3
        · subst h0
          rw [if_pos rfl]
          exact World.cell?_setCell_same _ _ _ (u := v0) k0
        · rw [World.cell?_setCell_other _ _ _ _ (off_ne (Ne.symm h0)), if_neg h0, if_neg h1, if_neg h2]
  refine ⟨by have := h.lt; simp; omega, fun j hj => ?_, fun j hj => ?_, fun i hi => ?_, fun i hi => ?_, fun i hi => ?_⟩
  · rw [base]
    by_cases h0 : j = k * 3
    · exact ⟨_, if_pos h0⟩
    by_cases h1 : j = k * 3 + 1
    · exact ⟨_, by rw [if_neg h0, if_pos h1]⟩
    by_cases h2 : j = k * 3 + 2
    · exact ⟨_, by rw [if_neg h0, if_neg h1, if_pos h2]⟩
    · obtain ⟨v, hv⟩ := h.there j hj
      exact ⟨v, by rw [if_neg h0, if_neg h1, if_neg h2]; exact hv⟩
  · rw [World.frozen?_drew, World.frozen?_alloc_old _ _ _ (by have := h.lt; simp; omega)]
    simp
    exact h.free j hj
  · rw [base]
    by_cases hik : i = k
    · subst hik; exact if_pos rfl
    · rw [if_neg (by omega), if_neg (by omega), if_neg (by omega)]; exact h.name i (by omega)
  · rw [base]
    by_cases hik : i = k
    · subst hik; rw [if_neg (by omega), if_pos rfl]
    · rw [if_neg (by omega), if_neg (by omega), if_neg (by omega)]; exact h.lo i (by omega)
  · rw [base]
    by_cases hik : i = k
    · subst hik; rw [if_neg (by omega), if_neg (by omega), if_pos rfl]
    · rw [if_neg (by omega), if_neg (by omega), if_neg (by omega)]; exact h.hi i (by omega)

theorem TypesAt.made (w : World) (M : Array Value) (n : Nat) (hM : M.size = n * 3) (S : Nat → ByteArray) (Z E : Nat → Int) : TypesAt (w.alloc (.cells M 63)) w.heap.size n 0 S Z E where
  lt := by simp
  there := fun j hj => ⟨M[j]'(by omega), by rw [World.cell?_alloc_at _ _ _ _ rfl]; simp [hM, hj]⟩
  free := fun j _ => World.frozen?_alloc_at _ _ _ _ rfl
  name := fun i hi => absurd hi (by omega)
  lo := fun i hi => absurd hi (by omega)
  hi := fun i hi => absurd hi (by omega)

/-- zzTypes answers the table, in new memory. -/
def TypesR (S : Nat → ByteArray) (Z E : Nat → Int) (n : Nat) (w : World) (e : Ending) (w' : World) : Prop :=
  e = .returned (.slice (some ⟨w.heap.size, 0, none⟩) n n) ∧ Below w.heap.size w w' ∧ TypesAt w' w.heap.size n n S Z E

theorem make_types (n : Nat) (hn : n ≤ 65537) : ∃ M : Array Value, M.size = n * 3 ∧ ∀ w : World, (Instr.makeSlice 29 (.int .i64 n) (.int .i64 n)).run Try.prog w = .ok (.slice (some ⟨w.heap.size, 0, none⟩) n n) (w.alloc (.cells M 63)) := by
  have info : (Try.prog.info? 63).map (fun i => (i.zero, i.size, i.bytes)) = some (some (.agg #[.string ⟨#[]⟩, .int .i64 0, .int .i64 0]), 3, 32) := by kernel_rfl
  obtain ⟨i, hi, hzz⟩ := Option.map_eq_some_iff.1 info
  simp only [Prod.mk.injEq] at hzz
  obtain ⟨hz, hs, hb⟩ := hzz
  refine ⟨madeCells (Value.agg #[.string ⟨#[]⟩, .int .i64 0, .int .i64 0]).cells (n * 3), size_madeCells _ _, fun w => ?_⟩
  have := run_make (P := Try.prog) w 29 63 i _ Try.underlying29 hi hz .i64 .i64 n n (by omega) (by omega) (by rw [hb]; omega) (by omega)
  rw [hs] at this
  simpa using this

set_option maxHeartbeats 2000000 in
theorem types_some (b off n cap b1 off1 cap1 b2 off2 cap2 : Nat) (S : Nat → ByteArray) (Z E : Nat → Int) (w : World) (hB : b < w.heap.size) (hB1 : b1 < w.heap.size) (hB2 : b2 < w.heap.size)
    (hs : ∀ i, i < n → w.cell? ⟨b, off + i, none⟩ = some (.string (S i)))
    (hc : ∀ i, i < n → w.cell? ⟨b1, off1 + i, none⟩ = some (.int .i64 (Z i))) (hd : ∀ i, i < n → w.cell? ⟨b2, off2 + i, none⟩ = some (.int .i64 (E i))) (hn : n ≤ 65537) :
    Calls Try.prog 9 #[.slice (some ⟨b, off, none⟩) n cap, .slice (some ⟨b1, off1, none⟩) n cap1, .slice (some ⟨b2, off2, none⟩) n cap2] w fun e w' => TypesR S Z E n w e w' := by
  obtain ⟨M, hM, hmk⟩ := make_types n hn
  go_enter Try.func9, Try.ntmps9
  go_wp2
  go_loopw [8] (fun i wr => ∃ k : Nat, k ≤ n ∧ i = .int .i64 k ∧ Below w.heap.size w wr ∧ TypesAt wr w.heap.size n k S Z E) (fun i _ => n - (intOf i).toNat)
  case atStart => exact ⟨0, Nat.zero_le _, rfl, (Below.refl _ _).alloc (Nat.le_refl _) _, TypesAt.made w M n hM S Z E⟩
  case round =>
    obtain ⟨k, hk, rfl, hb, ht⟩ := hrel
    by_cases hlt : k < n
    · have hsk : wr.cell? ⟨b, off + k, none⟩ = some (.string (S k)) := by rw [hb.cell (p := ⟨b, off + k, none⟩) hB]; exact hs k hlt
      have hck : wr.cell? ⟨b1, off1 + k, none⟩ = some (.int .i64 (Z k)) := by rw [hb.cell (p := ⟨b1, off1 + k, none⟩) hB1]; exact hc k hlt
      have hdk : wr.cell? ⟨b2, off2 + k, none⟩ = some (.int .i64 (E k)) := by rw [hb.cell (p := ⟨b2, off2 + k, none⟩) hB2]; exact hd k hlt
      obtain ⟨v0, k0⟩ := ht.there (k * 3) (by omega)
      obtain ⟨v1, k1⟩ := ht.there (k * 3 + 1) (by omega)
      obtain ⟨v2, k2⟩ := ht.there (k * 3 + 1 + 1) (by omega)
      have f0 := ht.free (k * 3) (by omega)
      have f1 := ht.free (k * 3 + 1) (by omega)
      have f2 := ht.free (k * 3 + 1 + 1) (by omega)
      have hsz : w.heap.size < wr.heap.size := ht.lt
      clear hs hc hd hmk hM
      generalize hz : Z k = z at hck
      generalize he : E k = x at hdk
      generalize hu : S k = u at hsk
      have HZ : Hid (Z k = z) := hz
      have HE : Hid (E k = x) := he
      have HU : Hid (S k = u) := hu
      clear hz he hu
      go_wp2
      go_region_with (go_at_call 25; refine (new_type _ _ _ _).mono ?_; rintro e w' ⟨rfl, rfl⟩)
      all_goals go_wp2
      all_goals
        go_roundw
        case rel => exact ⟨k + 1, by omega, by go_num, ((((hb.setCell (Nat.le_refl _) _).setCell (Nat.le_refl _) _).setCell (Nat.le_refl _) _).alloc (by simp; omega) _).drew, ht.step hlt _ HU.out HZ.out HE.out⟩
        case measure => simp [intOf]; omega
    · clear hs hc hd hmk hM
      have : k = n := by omega
      subst this
      go_wp2
      go_ret
      exact ⟨rfl, hb, ht⟩

theorem types_zero (a a1 a2 : Option Addr) (cap cap1 cap2 : Nat) (S : Nat → ByteArray) (Z E : Nat → Int) (w : World) :
    Calls Try.prog 9 #[.slice a 0 cap, .slice a1 0 cap1, .slice a2 0 cap2] w fun e w' => TypesR S Z E 0 w e w' := by
  obtain ⟨M, hM, hmk⟩ := make_types 0 (by omega)
  have hmk' : ∀ w : World, (Instr.makeSlice 29 (.int .i64 0) (.int .i64 0)).run Try.prog w = .ok (.slice (some ⟨w.heap.size, 0, none⟩) 0 0) (w.alloc (.cells M 63)) := hmk
  clear hmk
  go_enter Try.func9, Try.ntmps9
  go_wp2
  refine wp_loop_rounds 1 ?_
  rw [rounds_succ]
  go_wp2
  go_ret
  exact ⟨rfl, (Below.refl _ _).alloc (Nat.le_refl _) _, TypesAt.made w M 0 hM S Z E⟩

theorem types_any (a a1 a2 : Option Addr) (n cap cap1 cap2 : Nat) (S : Nat → ByteArray) (Z E : Nat → Int) (w : World) (hs : RowAt w.heap.size w a n (strV S)) (hc : RowAt w.heap.size w a1 n (intV Z)) (hd : RowAt w.heap.size w a2 n (intV E)) (hn : n ≤ 65537) :
    Calls Try.prog 9 #[.slice a n cap, .slice a1 n cap1, .slice a2 n cap2] w fun e w' => TypesR S Z E n w e w' := by
  rcases hs with rfl | ⟨b, off, rfl, hB, hs⟩
  · exact types_zero a a1 a2 cap cap1 cap2 S Z E w
  rcases hc with rfl | ⟨b1, off1, rfl, hB1, hc⟩
  · exact types_zero _ a1 a2 cap cap1 cap2 S Z E w
  rcases hd with rfl | ⟨b2, off2, rfl, hB2, hd⟩
  · exact types_zero _ _ a2 cap cap1 cap2 S Z E w
  · exact types_some b off n cap b1 off1 cap1 b2 off2 cap2 S Z E w hB hB1 hB2 hs hc hd hn
end Go.Proofs.Qxb6612910a
