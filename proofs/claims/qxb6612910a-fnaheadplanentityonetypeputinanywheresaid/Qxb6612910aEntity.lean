/-
  (*aheadPlan).entity, ZZaheadPlanEntity.
-/
import Derived.Test.Qxb6612910aReads
import Derived.BigRegion
namespace Go.Proofs.Qxb6612910a
open Go.RowKit
theorem conv_any (W : World) (t : ByteArray) : ∃ cb W1, (convert 9 92 (.string t)).run Try.prog W = .ok (.slice (some ⟨W.heap.size, 0, none⟩) t.size cb) W1 ∧ Below W.heap.size W W1 ∧ W1.heap.size = W.heap.size + 1 ∧ BytesAt W1 W.heap.size t := by
  refine ⟨_, _, Lib.run_convert_string_bytes W 9 92 5 t Try.underlying9 Try.underlying92 Try.underlying5, ?_, Lib.bytesWorld_size W 5 t, ?_⟩
  · exact ⟨rfl, rfl, rfl, by rw [Lib.bytesWorld_size]; omega, fun k hk => Lib.bytesWorld_at_old W 5 t k hk⟩
  · intro j hj
    rw [Lib.bytesWorld_cell W 5 t j (by simpa using hj)]
    rw [List.getD, List.getElem?_eq_getElem hj, Option.getD_some]

theorem make_reads (n : Nat) (hn : n ≤ 65536) : ∃ M : Array Value, M.size = n * 2 ∧ (∀ i, i < n → M[i * 2]? = some (.slice none 0 0) ∧ M[i * 2 + 1]? = some (.bool false)) ∧ ∀ w : World, (Instr.makeSlice 37 (.int .i64 n) (.int .i64 n)).run Try.prog w = .ok (.slice (some ⟨w.heap.size, 0, none⟩) n n) (w.alloc (.cells M 74)) := by
  have info : (Try.prog.info? 74).map (fun i => (i.zero, i.size, i.bytes)) = some (some (.agg #[.slice none 0 0, .bool false]), 2, 32) := by kernel_rfl
  obtain ⟨i, hi, hzz⟩ := Option.map_eq_some_iff.1 info
  simp only [Prod.mk.injEq] at hzz
  obtain ⟨hz, hs, hb⟩ := hzz
  refine ⟨madeCells (Value.agg #[.slice none 0 0, .bool false]).cells (n * 2), size_madeCells _ _, fun i hi => ?_, fun w => ?_⟩
  · have e : (Value.agg #[.slice none 0 0, .bool false]).cells = #[.slice none 0 0, .bool false] := rfl
    have h0 : i * 2 % 2 = 0 := by omega
    have h1 : (i * 2 + 1) % 2 = 1 := by omega
    have l0 : i * 2 < n * 2 := by omega
    have l1 : i * 2 + 1 < n * 2 := by omega
    rw [e]
    unfold madeCells
    constructor
    · simp [l0, h0]
    · simp [l1, h1]
  · have := run_make (P := Try.prog) w 37 74 i _ Try.underlying37 hi hz .i64 .i64 n n (by omega) (by omega) (by rw [hb]; omega) (by omega)
    rw [hs] at this
    simpa using this

def W0 (w : World) (t i0 s0 s1 s2 : ByteArray) : World := (((w.alloc (.cells #[.string t, .string i0] 32)).alloc (.cells #[.string s0, .string s1, .string s2] 34)).alloc (.cells #[.string ⟨#[]⟩, .string ⟨#[]⟩, .pointer none, .string ⟨#[]⟩, .string ⟨#[]⟩, .string ⟨#[]⟩, .int .i64 0, .int .i64 0, .slice none 0 0] 39))

/-- The world behind the region: the nine cells of the result are written; two new blocks. -/
def W9 (W2 : World) (B p m : Nat) (t i0 s0 s1 s2 : ByteArray) (z x : Int) (M : Array Value) : World :=
  (((((((((((W2.setCell ⟨B, 0, none⟩ (.string t)).setCell ⟨B, 1, none⟩ (.string i0)).setCell ⟨B, 2, none⟩ (.pointer (some ⟨p, 0, none⟩))).setCell ⟨B, 3, none⟩ (.string s0)).setCell ⟨B, 4, none⟩ (.string s1)).setCell ⟨B, 5, none⟩ (.string s2)).setCell ⟨B, 6, none⟩ (.int .i64 z)).setCell ⟨B, 7, none⟩ (.int .i64 x)).setCell ⟨B, 8, none⟩ (.slice (some ⟨W2.heap.size + 1, 0, none⟩) m m)).alloc (.cells #[.int .i64 z, .int .i64 x] 36)).alloc (.cells M 74)).drew

/-- The reads that are made: m rows of two cells, each 'no subjects, not handed'. -/
def ReadsAt (w : World) (h m : Nat) : Prop := ∀ i, i < m → w.cell? ⟨h, i * 2, none⟩ = some (.slice none 0 0) ∧ w.cell? ⟨h, i * 2 + 1, none⟩ = some (.bool false)
theorem ReadsAt.below {w w' : World} {h m B : Nat} (hr : ReadsAt w h m) (hb : Below B w w') (hB : h < B) : ReadsAt w' h m := fun i hi => by
  rw [hb.cell (p := ⟨h, i * 2, none⟩) hB, hb.cell (p := ⟨h, i * 2 + 1, none⟩) hB]; exact hr i hi

theorem below_set {B : Nat} {W w : World} (h : Below B W w) (o : Nat) (v : Value) : Below B W (w.setCell ⟨B, o, none⟩ v) := h.setCell (Nat.le_refl _) v

theorem W9_below (W2 : World) (B p m : Nat) (t i0 s0 s1 s2 : ByteArray) (z x : Int) (M : Array Value) (hB : B < W2.heap.size) : Below B W2 (W9 W2 B p m t i0 s0 s1 s2 z x M) := by
  unfold W9
  refine Below.drew (Below.alloc (Below.alloc ?_ (by simp; omega) _) (by simp; omega) _)
  iterate 9 refine below_set ?_ _ _
  exact Below.refl _ _

theorem W9_size (W2 : World) (B p m : Nat) (t i0 s0 s1 s2 : ByteArray) (z x : Int) (M : Array Value) : (W9 W2 B p m t i0 s0 s1 s2 z x M).heap.size = W2.heap.size + 2 := by
  unfold W9; simp

theorem W9_reads (W2 : World) (B p m : Nat) (t i0 s0 s1 s2 : ByteArray) (z x : Int) (M : Array Value) (hM : ∀ i, i < m → M[i * 2]? = some (.slice none 0 0) ∧ M[i * 2 + 1]? = some (.bool false)) :
    ReadsAt (W9 W2 B p m t i0 s0 s1 s2 z x M) (W2.heap.size + 1) m := fun i hi => by
  unfold W9
  rw [World.cell?_drew, World.cell?_drew, World.cell?_alloc_at _ _ _ _ (by simp), World.cell?_alloc_at _ _ _ _ (by simp)]
  exact hM i hi

theorem W9_cells (W2 : World) (B p m : Nat) (t i0 s0 s1 s2 : ByteArray) (z x : Int) (M : Array Value) (hB : B < W2.heap.size) (hc : ∀ j, j < 9 → ∃ v, W2.cell? ⟨B, j, none⟩ = some v) :
    (W9 W2 B p m t i0 s0 s1 s2 z x M).cell? ⟨B, 0, none⟩ = some (.string t) ∧ (W9 W2 B p m t i0 s0 s1 s2 z x M).cell? ⟨B, 1, none⟩ = some (.string i0) ∧ (W9 W2 B p m t i0 s0 s1 s2 z x M).cell? ⟨B, 2, none⟩ = some (.pointer (some ⟨p, 0, none⟩)) ∧ (W9 W2 B p m t i0 s0 s1 s2 z x M).cell? ⟨B, 3, none⟩ = some (.string s0) ∧ (W9 W2 B p m t i0 s0 s1 s2 z x M).cell? ⟨B, 4, none⟩ = some (.string s1) ∧ (W9 W2 B p m t i0 s0 s1 s2 z x M).cell? ⟨B, 5, none⟩ = some (.string s2) ∧ (W9 W2 B p m t i0 s0 s1 s2 z x M).cell? ⟨B, 6, none⟩ = some (.int .i64 z) ∧ (W9 W2 B p m t i0 s0 s1 s2 z x M).cell? ⟨B, 7, none⟩ = some (.int .i64 x) ∧ (W9 W2 B p m t i0 s0 s1 s2 z x M).cell? ⟨B, 8, none⟩ = some (.slice (some ⟨W2.heap.size + 1, 0, none⟩) m m) := by
  unfold W9
  have key : ∀ (W : World) (i : Nat) (v : Value), (∃ u, W.cell? ⟨B, i, none⟩ = some u) → (W.setCell ⟨B, i, none⟩ v).cell? ⟨B, i, none⟩ = some v := fun W i v ⟨u, hu⟩ => World.cell?_setCell_same _ _ _ hu
  have other : ∀ (W : World) (i j : Nat) (v : Value), i ≠ j → (W.setCell ⟨B, i, none⟩ v).cell? ⟨B, j, none⟩ = W.cell? ⟨B, j, none⟩ := fun W i j v h => World.cell?_setCell_other _ _ _ _ (off_ne h)
  have old : ∀ (W : World) (o1 o2 : Obj) (j : Nat), B < W.heap.size → ((W.alloc o1).alloc o2).drew.cell? ⟨B, j, none⟩ = W.cell? ⟨B, j, none⟩ := fun W o1 o2 j h => by
    rw [World.cell?_drew, World.cell?_alloc_lt _ _ _ (by simp; omega), World.cell?_alloc_lt _ _ _ (by simpa using h)]
  refine ⟨?_, ?_, ?_, ?_, ?_, ?_, ?_, ?_, ?_⟩
  · rw [old _ _ _ _ (by simpa using hB), other _ _ _ _ (by decide), other _ _ _ _ (by decide), other _ _ _ _ (by decide), other _ _ _ _ (by decide), other _ _ _ _ (by decide), other _ _ _ _ (by decide), other _ _ _ _ (by decide), other _ _ _ _ (by decide)]
    refine key _ _ _ ?_
    exact hc 0 (by decide)
  · rw [old _ _ _ _ (by simpa using hB), other _ _ _ _ (by decide), other _ _ _ _ (by decide), other _ _ _ _ (by decide), other _ _ _ _ (by decide), other _ _ _ _ (by decide), other _ _ _ _ (by decide), other _ _ _ _ (by decide)]
    refine key _ _ _ ?_
    rw [other _ _ _ _ (by decide)]
    exact hc 1 (by decide)
  · rw [old _ _ _ _ (by simpa using hB), other _ _ _ _ (by decide), other _ _ _ _ (by decide), other _ _ _ _ (by decide), other _ _ _ _ (by decide), other _ _ _ _ (by decide), other _ _ _ _ (by decide)]
    refine key _ _ _ ?_
    rw [other _ _ _ _ (by decide), other _ _ _ _ (by decide)]
    exact hc 2 (by decide)
  · rw [old _ _ _ _ (by simpa using hB), other _ _ _ _ (by decide), other _ _ _ _ (by decide), other _ _ _ _ (by decide), other _ _ _ _ (by decide), other _ _ _ _ (by decide)]
    refine key _ _ _ ?_
    rw [other _ _ _ _ (by decide), other _ _ _ _ (by decide), other _ _ _ _ (by decide)]
    exact hc 3 (by decide)
  · rw [old _ _ _ _ (by simpa using hB), other _ _ _ _ (by decide), other _ _ _ _ (by decide), other _ _ _ _ (by decide), other _ _ _ _ (by decide)]
    refine key _ _ _ ?_
    rw [other _ _ _ _ (by decide), other _ _ _ _ (by decide), other _ _ _ _ (by decide), other _ _ _ _ (by decide)]
    exact hc 4 (by decide)
  · rw [old _ _ _ _ (by simpa using hB), other _ _ _ _ (by decide), other _ _ _ _ (by decide), other _ _ _ _ (by decide)]
    refine key _ _ _ ?_
    rw [other _ _ _ _ (by decide), other _ _ _ _ (by decide), other _ _ _ _ (by decide), other _ _ _ _ (by decide), other _ _ _ _ (by decide)]
    exact hc 5 (by decide)
  · rw [old _ _ _ _ (by simpa using hB), other _ _ _ _ (by decide), other _ _ _ _ (by decide)]
    refine key _ _ _ ?_
    rw [other _ _ _ _ (by decide), other _ _ _ _ (by decide), other _ _ _ _ (by decide), other _ _ _ _ (by decide), other _ _ _ _ (by decide), other _ _ _ _ (by decide)]
    exact hc 6 (by decide)
  · rw [old _ _ _ _ (by simpa using hB), other _ _ _ _ (by decide)]
    refine key _ _ _ ?_
    rw [other _ _ _ _ (by decide), other _ _ _ _ (by decide), other _ _ _ _ (by decide), other _ _ _ _ (by decide), other _ _ _ _ (by decide), other _ _ _ _ (by decide), other _ _ _ _ (by decide)]
    exact hc 7 (by decide)
  · rw [old _ _ _ _ (by simpa using hB)]
    refine key _ _ _ ?_
    rw [other _ _ _ _ (by decide), other _ _ _ _ (by decide), other _ _ _ _ (by decide), other _ _ _ _ (by decide), other _ _ _ _ (by decide), other _ _ _ _ (by decide), other _ _ _ _ (by decide), other _ _ _ _ (by decide)]
    exact hc 8 (by decide)

/-- (*aheadPlan).entity answers: the entity, the plan, the subject, the range of the first type that is named so, and one unanswered read a place. -/
def EntR (p : Nat) (S : Nat → ByteArray) (t i0 s0 s1 s2 : ByteArray) (Z E : Nat → Int) (n : Nat) (w : World) (e : Ending) (w' : World) : Prop :=
  ∃ r h m : Nat, First S t n r ∧ e = .returned (.agg #[.string t, .string i0, .pointer (some ⟨p, 0, none⟩), .string s0, .string s1, .string s2, .int .i64 (at0 Z n r), .int .i64 (at0 E n r), .slice (some ⟨h, 0, none⟩) m m]) ∧
    (m : Int) = at0 E n r - at0 Z n r ∧ Below w.heap.size w w' ∧ w.heap.size ≤ h ∧ h < w'.heap.size ∧ ReadsAt w' h m

set_option maxHeartbeats 1000000 in
set_option maxRecDepth 100000 in
theorem entity_any (p g n : Nat) (S : Nat → ByteArray) (Z E : Nat → Int) (t i0 s0 s1 s2 : ByteArray) (w : World) (hp : w.cell? ⟨p, 3, none⟩ = some (.slice (some ⟨g, 0, none⟩) n n)) (hpl : p < w.heap.size)
    (ht : TypesAt w g n n S Z E) (hn : n ≤ 65537) (hfit : Fit Z E n) :
    Calls Try.prog 26 #[.pointer (some ⟨p, 0, none⟩), .agg #[.string t, .string i0], .agg #[.string s0, .string s1, .string s2]] w fun e w' => EntR p S t i0 s0 s1 s2 Z E n w e w' := by
  have HT : Hid (TypesAt w g n n S Z E) := ht
  have hgl := ht.lt
  clear ht
  obtain ⟨cb, W1, hcv, hb1, hsz1, hbt⟩ := conv_any (W0 w t i0 s0 s1 s2) t
  unfold W0 at hcv
  have hb0 : Below w.heap.size w (W0 w t i0 s0 s1 s2) := (((Below.refl _ _).alloc (Nat.le_refl _) _).alloc (by simp) _).alloc (by simp; omega) _
  have hs0 : (W0 w t i0 s0 s1 s2).heap.size = w.heap.size + 3 := by unfold W0; simp
  simp only [World.size_alloc] at hcv
  rw [hs0] at hb1 hsz1 hbt
  have H : Hid (Below w.heap.size w W1 ∧ Below (w.heap.size + 3) (W0 w t i0 s0 s1 s2) W1 ∧ W1.heap.size = w.heap.size + 4 ∧ BytesAt W1 (w.heap.size + 3) t) := ⟨hb0.trans (hb1.mono (by omega)), hb1, hsz1, hbt⟩
  clear hb1 hsz1 hbt hb0 hs0
  go_enter Try.func26, Try.ntmps26
  go_wp2_with fail
  refine (reads_any p g n (w.heap.size + 1 + 1 + 1) cb S Z E t W1 ?_ ?_ ?_ ?_ ?_ hn).mono ?_
  · rw [H.out.1.cell (p := ⟨p, 3, none⟩) hpl]; exact hp
  · have := H.out.2.2.1; omega
  · exact HT.out.below H.out.1 hgl
  · exact H.out.2.2.2
  · have := H.out.2.2.1; omega
  rintro e W2 ⟨r, hr, rfl, hb2⟩
  have hzx : 0 ≤ at0 Z n r ∧ at0 Z n r ≤ at0 E n r ∧ at0 E n r - at0 Z n r ≤ 65536 := by
    unfold at0
    by_cases h : r < n
    · rw [if_pos h, if_pos h]; exact hfit r h
    · rw [if_neg h, if_neg h]; omega
  generalize hz : at0 Z n r = z at hzx ⊢
  generalize hx : at0 E n r = x at hzx ⊢
  have HZ : Hid (at0 Z n r = z ∧ at0 E n r = x ∧ First S t n r) := ⟨hz, hx, hr⟩
  clear hz hx hr
  obtain ⟨h0z, hzx1, hzx2⟩ := hzx
  have hs2 : w.heap.size + 4 ≤ W2.heap.size := by have := H.out.2.2.1; have := hb2.size; omega
  have hW : Below (w.heap.size + 3) (W0 w t i0 s0 s1 s2) W2 := H.out.2.1.trans (hb2.mono (by have := H.out.2.2.1; omega))
  have hbw : Below w.heap.size w W2 := H.out.1.trans (hb2.mono (by have := H.out.2.2.1; omega))
  have HW : Hid (Below w.heap.size w W2) := hbw
  have a0 : W2.cell? ⟨w.heap.size, 0, none⟩ = some (.string t) := by rw [hW.cell (p := ⟨w.heap.size, 0, none⟩) (by simp)]; unfold W0; go_simp
  have a1 : W2.cell? ⟨w.heap.size, 1, none⟩ = some (.string i0) := by rw [hW.cell (p := ⟨w.heap.size, 1, none⟩) (by simp)]; unfold W0; go_simp
  have b0 : W2.cell? ⟨w.heap.size + 1, 0, none⟩ = some (.string s0) := by rw [hW.cell (p := ⟨w.heap.size + 1, 0, none⟩) (by simp)]; unfold W0; go_simp
  have b1 : W2.cell? ⟨w.heap.size + 1, 1, none⟩ = some (.string s1) := by rw [hW.cell (p := ⟨w.heap.size + 1, 1, none⟩) (by simp)]; unfold W0; go_simp
  have b2 : W2.cell? ⟨w.heap.size + 1, 2, none⟩ = some (.string s2) := by rw [hW.cell (p := ⟨w.heap.size + 1, 2, none⟩) (by simp)]; unfold W0; go_simp
  have c0 : W2.cell? ⟨w.heap.size + 1 + 1, 0, none⟩ = some (.string ⟨#[]⟩) := by rw [hW.cell (p := ⟨w.heap.size + 1 + 1, 0, none⟩) (by simp)]; unfold W0; go_simp
  have c1 : W2.cell? ⟨w.heap.size + 1 + 1, 1, none⟩ = some (.string ⟨#[]⟩) := by rw [hW.cell (p := ⟨w.heap.size + 1 + 1, 1, none⟩) (by simp)]; unfold W0; go_simp
  have c2 : W2.cell? ⟨w.heap.size + 1 + 1, 2, none⟩ = some (.pointer none) := by rw [hW.cell (p := ⟨w.heap.size + 1 + 1, 2, none⟩) (by simp)]; unfold W0; go_simp
  have c3 : W2.cell? ⟨w.heap.size + 1 + 1, 3, none⟩ = some (.string ⟨#[]⟩) := by rw [hW.cell (p := ⟨w.heap.size + 1 + 1, 3, none⟩) (by simp)]; unfold W0; go_simp
  have c4 : W2.cell? ⟨w.heap.size + 1 + 1, 4, none⟩ = some (.string ⟨#[]⟩) := by rw [hW.cell (p := ⟨w.heap.size + 1 + 1, 4, none⟩) (by simp)]; unfold W0; go_simp
  have c5 : W2.cell? ⟨w.heap.size + 1 + 1, 5, none⟩ = some (.string ⟨#[]⟩) := by rw [hW.cell (p := ⟨w.heap.size + 1 + 1, 5, none⟩) (by simp)]; unfold W0; go_simp
  have c6 : W2.cell? ⟨w.heap.size + 1 + 1, 6, none⟩ = some (.int .i64 0) := by rw [hW.cell (p := ⟨w.heap.size + 1 + 1, 6, none⟩) (by simp)]; unfold W0; go_simp
  have c7 : W2.cell? ⟨w.heap.size + 1 + 1, 7, none⟩ = some (.int .i64 0) := by rw [hW.cell (p := ⟨w.heap.size + 1 + 1, 7, none⟩) (by simp)]; unfold W0; go_simp
  have c8 : W2.cell? ⟨w.heap.size + 1 + 1, 8, none⟩ = some (.slice none 0 0) := by rw [hW.cell (p := ⟨w.heap.size + 1 + 1, 8, none⟩) (by simp)]; unfold W0; go_simp
  have f : ∀ j, W2.frozen? ⟨w.heap.size + 1 + 1, j, none⟩ = false := fun j => by rw [hW.frozen (p := ⟨w.heap.size + 1 + 1, j, none⟩) (by simp)]; unfold W0; go_simp
  obtain ⟨m, hm⟩ : ∃ m : Nat, x - z = m := ⟨(x - z).toNat, by omega⟩
  have hml : m ≤ 65536 := by omega
  obtain ⟨M, hM1, hM2, hmk⟩ := make_reads m hml
  have HM : Hid (M.size = m * 2 ∧ ∀ i, i < m → M[i * 2]? = some (.slice none 0 0) ∧ M[i * 2 + 1]? = some (.bool false)) := ⟨hM1, hM2⟩
  have hlt0 : w.heap.size < W2.heap.size := by omega
  have hlt1 : w.heap.size + 1 < W2.heap.size := by omega
  have hlt2 : w.heap.size + 1 + 1 < W2.heap.size := by omega
  clear hM1 hM2 hW hbw hb2 hcv hp hfit
  go_wp2

  go_region
  show Exit.then _ _ Exit.normal _ (W9 W2 (w.heap.size + 1 + 1) p m t i0 s0 s1 s2 z x M)
  obtain ⟨d0, d1, d2, d3, d4, d5, d6, d7, d8⟩ := W9_cells W2 (w.heap.size + 1 + 1) p m t i0 s0 s1 s2 z x M hlt2 (fun j hj => by
    match j, hj with
    | 0, _ => exact ⟨_, c0⟩
    | 1, _ => exact ⟨_, c1⟩
    | 2, _ => exact ⟨_, c2⟩
    | 3, _ => exact ⟨_, c3⟩
    | 4, _ => exact ⟨_, c4⟩
    | 5, _ => exact ⟨_, c5⟩
    | 6, _ => exact ⟨_, c6⟩
    | 7, _ => exact ⟨_, c7⟩
    | 8, _ => exact ⟨_, c8⟩)
  have HE : Hid (Below w.heap.size w (W9 W2 (w.heap.size + 1 + 1) p m t i0 s0 s1 s2 z x M) ∧ (W9 W2 (w.heap.size + 1 + 1) p m t i0 s0 s1 s2 z x M).heap.size = W2.heap.size + 2 ∧ ReadsAt (W9 W2 (w.heap.size + 1 + 1) p m t i0 s0 s1 s2 z x M) (W2.heap.size + 1) m) :=
    ⟨HW.out.trans ((W9_below W2 (w.heap.size + 1 + 1) p m t i0 s0 s1 s2 z x M hlt2).mono (by omega)), W9_size _ _ _ _ _ _ _ _ _ _ _ _, W9_reads _ _ _ _ _ _ _ _ _ _ _ _ HM.out.2⟩
  clear c0 c1 c2 c3 c4 c5 c6 c7 c8 a0 a1 b0 b1 b2 f hmk HM
  generalize W9 W2 (w.heap.size + 1 + 1) p m t i0 s0 s1 s2 z x M = W3 at *
  go_wp2
  refine bodyPost_ret (v := .agg #[.string t, .string i0, .pointer (some ⟨p, 0, none⟩), .string s0, .string s1, .string s2, .int .i64 z, .int .i64 x, .slice (some ⟨W2.heap.size + 1, 0, none⟩) m m]) (by simp [results, Try.results26, go_sem, d0, d1, d2, d3, d4, d5, d6, d7, d8]) rfl ?_
  obtain ⟨rfl, rfl, hr⟩ := HZ.out
  exact ⟨r, W2.heap.size + 1, m, hr, rfl, hm.symm, HE.out.1, by omega, by have := HE.out.2.1; omega, HE.out.2.2⟩

/-- Nine cells of block B written. -/
def Nine (W : World) (B : Nat) (v0 v1 v2 v3 v4 v5 v6 v7 v8 : Value) : World :=
  (((((((((W.setCell ⟨B, 0, none⟩ v0).setCell ⟨B, 1, none⟩ v1).setCell ⟨B, 2, none⟩ v2).setCell ⟨B, 3, none⟩ v3).setCell ⟨B, 4, none⟩ v4).setCell ⟨B, 5, none⟩ v5).setCell ⟨B, 6, none⟩ v6).setCell ⟨B, 7, none⟩ v7).setCell ⟨B, 8, none⟩ v8)
theorem Nine_below (W : World) (B : Nat) (v0 v1 v2 v3 v4 v5 v6 v7 v8 : Value) : Below B W (Nine W B v0 v1 v2 v3 v4 v5 v6 v7 v8) := by
  unfold Nine
  iterate 9 refine below_set ?_ _ _
  exact Below.refl _ _
theorem Nine_size (W : World) (B : Nat) (v0 v1 v2 v3 v4 v5 v6 v7 v8 : Value) : (Nine W B v0 v1 v2 v3 v4 v5 v6 v7 v8).heap.size = W.heap.size := by
  unfold Nine; simp
theorem Nine_other (W : World) (B : Nat) (v0 v1 v2 v3 v4 v5 v6 v7 v8 : Value) (a : Addr) (h : a.block ≠ B) : (Nine W B v0 v1 v2 v3 v4 v5 v6 v7 v8).cell? a = W.cell? a := by
  unfold Nine
  have key : ∀ (W : World) (i : Nat) (v : Value), (W.setCell ⟨B, i, none⟩ v).cell? a = W.cell? a := fun W i v => World.cell?_setCell_other _ _ _ _ (fun e => h (congrArg Addr.block e).symm)
  rw [key, key, key, key, key, key, key, key, key]
theorem Nine_cells (W : World) (B : Nat) (v0 v1 v2 v3 v4 v5 v6 v7 v8 : Value) (hc : ∀ j, j < 9 → ∃ v, W.cell? ⟨B, j, none⟩ = some v) :
    (Nine W B v0 v1 v2 v3 v4 v5 v6 v7 v8).cell? ⟨B, 0, none⟩ = some v0 ∧ (Nine W B v0 v1 v2 v3 v4 v5 v6 v7 v8).cell? ⟨B, 1, none⟩ = some v1 ∧ (Nine W B v0 v1 v2 v3 v4 v5 v6 v7 v8).cell? ⟨B, 2, none⟩ = some v2 ∧ (Nine W B v0 v1 v2 v3 v4 v5 v6 v7 v8).cell? ⟨B, 3, none⟩ = some v3 ∧ (Nine W B v0 v1 v2 v3 v4 v5 v6 v7 v8).cell? ⟨B, 4, none⟩ = some v4 ∧ (Nine W B v0 v1 v2 v3 v4 v5 v6 v7 v8).cell? ⟨B, 5, none⟩ = some v5 ∧ (Nine W B v0 v1 v2 v3 v4 v5 v6 v7 v8).cell? ⟨B, 6, none⟩ = some v6 ∧ (Nine W B v0 v1 v2 v3 v4 v5 v6 v7 v8).cell? ⟨B, 7, none⟩ = some v7 ∧ (Nine W B v0 v1 v2 v3 v4 v5 v6 v7 v8).cell? ⟨B, 8, none⟩ = some v8 := by
  unfold Nine
  have key : ∀ (W : World) (i : Nat) (v : Value), (∃ u, W.cell? ⟨B, i, none⟩ = some u) → (W.setCell ⟨B, i, none⟩ v).cell? ⟨B, i, none⟩ = some v := fun W i v ⟨u, hu⟩ => World.cell?_setCell_same _ _ _ hu
  have other : ∀ (W : World) (i j : Nat) (v : Value), i ≠ j → (W.setCell ⟨B, i, none⟩ v).cell? ⟨B, j, none⟩ = W.cell? ⟨B, j, none⟩ := fun W i j v h => World.cell?_setCell_other _ _ _ _ (off_ne h)
  refine ⟨?_, ?_, ?_, ?_, ?_, ?_, ?_, ?_, ?_⟩
  · rw [other _ _ _ _ (by decide), other _ _ _ _ (by decide), other _ _ _ _ (by decide), other _ _ _ _ (by decide), other _ _ _ _ (by decide), other _ _ _ _ (by decide), other _ _ _ _ (by decide), other _ _ _ _ (by decide)]
    refine key _ _ _ ?_
    exact hc 0 (by decide)
  · rw [other _ _ _ _ (by decide), other _ _ _ _ (by decide), other _ _ _ _ (by decide), other _ _ _ _ (by decide), other _ _ _ _ (by decide), other _ _ _ _ (by decide), other _ _ _ _ (by decide)]
    refine key _ _ _ ?_
    rw [other _ _ _ _ (by decide)]
    exact hc 1 (by decide)
  · rw [other _ _ _ _ (by decide), other _ _ _ _ (by decide), other _ _ _ _ (by decide), other _ _ _ _ (by decide), other _ _ _ _ (by decide), other _ _ _ _ (by decide)]
    refine key _ _ _ ?_
    rw [other _ _ _ _ (by decide), other _ _ _ _ (by decide)]
    exact hc 2 (by decide)
  · rw [other _ _ _ _ (by decide), other _ _ _ _ (by decide), other _ _ _ _ (by decide), other _ _ _ _ (by decide), other _ _ _ _ (by decide)]
    refine key _ _ _ ?_
    rw [other _ _ _ _ (by decide), other _ _ _ _ (by decide), other _ _ _ _ (by decide)]
    exact hc 3 (by decide)
  · rw [other _ _ _ _ (by decide), other _ _ _ _ (by decide), other _ _ _ _ (by decide), other _ _ _ _ (by decide)]
    refine key _ _ _ ?_
    rw [other _ _ _ _ (by decide), other _ _ _ _ (by decide), other _ _ _ _ (by decide), other _ _ _ _ (by decide)]
    exact hc 4 (by decide)
  · rw [other _ _ _ _ (by decide), other _ _ _ _ (by decide), other _ _ _ _ (by decide)]
    refine key _ _ _ ?_
    rw [other _ _ _ _ (by decide), other _ _ _ _ (by decide), other _ _ _ _ (by decide), other _ _ _ _ (by decide), other _ _ _ _ (by decide)]
    exact hc 5 (by decide)
  · rw [other _ _ _ _ (by decide), other _ _ _ _ (by decide)]
    refine key _ _ _ ?_
    rw [other _ _ _ _ (by decide), other _ _ _ _ (by decide), other _ _ _ _ (by decide), other _ _ _ _ (by decide), other _ _ _ _ (by decide), other _ _ _ _ (by decide)]
    exact hc 6 (by decide)
  · rw [other _ _ _ _ (by decide)]
    refine key _ _ _ ?_
    rw [other _ _ _ _ (by decide), other _ _ _ _ (by decide), other _ _ _ _ (by decide), other _ _ _ _ (by decide), other _ _ _ _ (by decide), other _ _ _ _ (by decide), other _ _ _ _ (by decide)]
    exact hc 7 (by decide)
  · refine key _ _ _ ?_
    rw [other _ _ _ _ (by decide), other _ _ _ _ (by decide), other _ _ _ _ (by decide), other _ _ _ _ (by decide), other _ _ _ _ (by decide), other _ _ _ _ (by decide), other _ _ _ _ (by decide), other _ _ _ _ (by decide)]
    exact hc 8 (by decide)

set_option maxHeartbeats 1000000 in
set_option maxRecDepth 100000 in
theorem plan_entity (p g n : Nat) (S : Nat → ByteArray) (Z E : Nat → Int) (t i0 s0 s1 s2 : ByteArray) (w : World) (hp : w.cell? ⟨p, 3, none⟩ = some (.slice (some ⟨g, 0, none⟩) n n)) (hpl : p < w.heap.size)
    (ht : TypesAt w g n n S Z E) (hn : n ≤ 65537) (hfit : Fit Z E n) :
    Calls Try.prog 10 #[.pointer (some ⟨p, 0, none⟩), .agg #[.string t, .string i0], .agg #[.string s0, .string s1, .string s2]] w fun e w' => EntR p S t i0 s0 s1 s2 Z E n w e w' := by
  have HT : Hid (TypesAt w g n n S Z E) := ht
  have hgl := ht.lt
  clear ht
  go_enter Try.func10, Try.ntmps10
  go_wp2_with fail
  have hb0 : Below w.heap.size w (W0 w t i0 s0 s1 s2) := (((Below.refl _ _).alloc (Nat.le_refl _) _).alloc (by simp) _).alloc (by simp; omega) _
  have hs0 : (W0 w t i0 s0 s1 s2).heap.size = w.heap.size + 3 := by unfold W0; simp
  refine (entity_any p g n S Z E t i0 s0 s1 s2 (W0 w t i0 s0 s1 s2) (by rw [hb0.cell (p := ⟨p, 3, none⟩) hpl]; exact hp) (by omega) (HT.out.below hb0 hgl) hn hfit).mono ?_
  rintro e W2 ⟨r, h, m, hr, rfl, hm, hb2, hh, hh2, hrd⟩
  rw [hs0] at hb2 hh
  have hW : Below (w.heap.size + 3) (W0 w t i0 s0 s1 s2) W2 := hb2
  have HH : Hid (First S t n r ∧ (m : Int) = at0 E n r - at0 Z n r ∧ Below w.heap.size w W2 ∧ w.heap.size + 3 ≤ h ∧ h < W2.heap.size ∧ ReadsAt W2 h m) := ⟨hr, hm, hb0.trans (hb2.mono (by omega)), hh, hh2, hrd⟩
  have c0 : W2.cell? ⟨w.heap.size + 1 + 1, 0, none⟩ = some (.string ⟨#[]⟩) := by rw [hW.cell (p := ⟨w.heap.size + 1 + 1, 0, none⟩) (by simp)]; unfold W0; go_simp
  have c1 : W2.cell? ⟨w.heap.size + 1 + 1, 1, none⟩ = some (.string ⟨#[]⟩) := by rw [hW.cell (p := ⟨w.heap.size + 1 + 1, 1, none⟩) (by simp)]; unfold W0; go_simp
  have c2 : W2.cell? ⟨w.heap.size + 1 + 1, 2, none⟩ = some (.pointer none) := by rw [hW.cell (p := ⟨w.heap.size + 1 + 1, 2, none⟩) (by simp)]; unfold W0; go_simp
  have c3 : W2.cell? ⟨w.heap.size + 1 + 1, 3, none⟩ = some (.string ⟨#[]⟩) := by rw [hW.cell (p := ⟨w.heap.size + 1 + 1, 3, none⟩) (by simp)]; unfold W0; go_simp
  have c4 : W2.cell? ⟨w.heap.size + 1 + 1, 4, none⟩ = some (.string ⟨#[]⟩) := by rw [hW.cell (p := ⟨w.heap.size + 1 + 1, 4, none⟩) (by simp)]; unfold W0; go_simp
  have c5 : W2.cell? ⟨w.heap.size + 1 + 1, 5, none⟩ = some (.string ⟨#[]⟩) := by rw [hW.cell (p := ⟨w.heap.size + 1 + 1, 5, none⟩) (by simp)]; unfold W0; go_simp
  have c6 : W2.cell? ⟨w.heap.size + 1 + 1, 6, none⟩ = some (.int .i64 0) := by rw [hW.cell (p := ⟨w.heap.size + 1 + 1, 6, none⟩) (by simp)]; unfold W0; go_simp
  have c7 : W2.cell? ⟨w.heap.size + 1 + 1, 7, none⟩ = some (.int .i64 0) := by rw [hW.cell (p := ⟨w.heap.size + 1 + 1, 7, none⟩) (by simp)]; unfold W0; go_simp
  have c8 : W2.cell? ⟨w.heap.size + 1 + 1, 8, none⟩ = some (.slice none 0 0) := by rw [hW.cell (p := ⟨w.heap.size + 1 + 1, 8, none⟩) (by simp)]; unfold W0; go_simp
  have f : ∀ j, W2.frozen? ⟨w.heap.size + 1 + 1, j, none⟩ = false := fun j => by rw [hW.frozen (p := ⟨w.heap.size + 1 + 1, j, none⟩) (by simp)]; unfold W0; go_simp
  have hlt2 : w.heap.size + 1 + 1 < W2.heap.size := by have := hb2.size; omega
  clear hr hm hb2 hb0 hs0 hrd hW hp hfit
  generalize hz : at0 Z n r = z
  generalize hx : at0 E n r = x
  have HZ : Hid (at0 Z n r = z ∧ at0 E n r = x) := ⟨hz, hx⟩
  clear hz hx
  go_wp2
  show bodyPost _ _ _ _ _ (Nine W2 (w.heap.size + 1 + 1) (.string t) (.string i0) (.pointer (some ⟨p, 0, none⟩)) (.string s0) (.string s1) (.string s2) (.int .i64 z) (.int .i64 x) (.slice (some ⟨h, 0, none⟩) m m))
  obtain ⟨d0, d1, d2, d3, d4, d5, d6, d7, d8⟩ := Nine_cells W2 (w.heap.size + 1 + 1) (.string t) (.string i0) (.pointer (some ⟨p, 0, none⟩)) (.string s0) (.string s1) (.string s2) (.int .i64 z) (.int .i64 x) (.slice (some ⟨h, 0, none⟩) m m) (fun j hj => by
    match j, hj with
    | 0, _ => exact ⟨_, c0⟩
    | 1, _ => exact ⟨_, c1⟩
    | 2, _ => exact ⟨_, c2⟩
    | 3, _ => exact ⟨_, c3⟩
    | 4, _ => exact ⟨_, c4⟩
    | 5, _ => exact ⟨_, c5⟩
    | 6, _ => exact ⟨_, c6⟩
    | 7, _ => exact ⟨_, c7⟩
    | 8, _ => exact ⟨_, c8⟩)
  have n1 := Nine_below W2 (w.heap.size + 1 + 1) (.string t) (.string i0) (.pointer (some ⟨p, 0, none⟩)) (.string s0) (.string s1) (.string s2) (.int .i64 z) (.int .i64 x) (.slice (some ⟨h, 0, none⟩) m m)
  have n2 := Nine_size W2 (w.heap.size + 1 + 1) (.string t) (.string i0) (.pointer (some ⟨p, 0, none⟩)) (.string s0) (.string s1) (.string s2) (.int .i64 z) (.int .i64 x) (.slice (some ⟨h, 0, none⟩) m m)
  have n3 := Nine_other W2 (w.heap.size + 1 + 1) (.string t) (.string i0) (.pointer (some ⟨p, 0, none⟩)) (.string s0) (.string s1) (.string s2) (.int .i64 z) (.int .i64 x) (.slice (some ⟨h, 0, none⟩) m m)
  generalize Nine W2 (w.heap.size + 1 + 1) (.string t) (.string i0) (.pointer (some ⟨p, 0, none⟩)) (.string s0) (.string s1) (.string s2) (.int .i64 z) (.int .i64 x) (.slice (some ⟨h, 0, none⟩) m m) = W3 at *
  refine bodyPost_ret (v := .agg #[.string t, .string i0, .pointer (some ⟨p, 0, none⟩), .string s0, .string s1, .string s2, .int .i64 z, .int .i64 x, .slice (some ⟨h, 0, none⟩) m m]) (by simp [results, Try.results10, go_sem, d0, d1, d2, d3, d4, d5, d6, d7, d8]) rfl ?_
  obtain ⟨rfl, rfl⟩ := HZ.out
  obtain ⟨hr, hm, hb, _, _, hrd⟩ := HH.out
  refine ⟨r, h, m, hr, rfl, hm, hb.trans (n1.mono (by omega)), by omega, by omega, fun i hi => ?_⟩
  rw [n3 _ (show h ≠ _ by omega), n3 _ (show h ≠ _ by omega)]
  exact hrd i hi
end Go.Proofs.Qxb6612910a
