/-
  Rows that the law itself makes and fills by append within the capacity.
-/
import Derived.Test.Qxb6612910aFresh
import Derived.ArgAppend
namespace Go.Proofs.Qxb6612910a
open Go.RowKit

theorem hide {p : Prop} (h : p) : Hid p := h

/-- Six strings, by index. -/
def six (s3 s4 s5 s6 s7 s9 : ByteArray) : Nat → ByteArray
  | 0 => s3
  | 1 => s4
  | 2 => s5
  | 3 => s6
  | 4 => s7
  | _ => s9
theorem six_row (w : World) (s3 s4 s5 s6 s7 s9 : ByteArray) : RowAt (w.heap.size + 1) (w.alloc (.cells #[.string s3, .string s4, .string s5, .string s6, .string s7, .string s9] 9)) (some ⟨w.heap.size, 0, none⟩) 6 (strV (six s3 s4 s5 s6 s7 s9)) := by
  refine Or.inr ⟨w.heap.size, 0, rfl, by omega, fun i hi => ?_⟩
  rw [World.cell?_alloc_at _ _ _ _ rfl, Nat.zero_add]
  match i, hi with
  | 0, _ => rfl
  | 1, _ => rfl
  | 2, _ => rfl
  | 3, _ => rfl
  | 4, _ => rfl
  | 5, _ => rfl

/-- Block g is a row of c cells, none frozen; the first k hold f. -/
structure OwnAt (w : World) (g c k : Nat) (f : Nat → Value) : Prop where
  lt : g < w.heap.size
  there : ∀ j, j < c → ∃ v, w.cell? ⟨g, j, none⟩ = some v
  free : ∀ j, j < c → w.frozen? ⟨g, j, none⟩ = false
  got : ∀ i, i < k → w.cell? ⟨g, i, none⟩ = some (f i)

theorem OwnAt.made (w : World) (M : Array Value) (e : TypeId) (c : Nat) (hM : M.size = c) (f : Nat → Value) : OwnAt (w.alloc (.cells M e)) w.heap.size c 0 f where
  lt := by simp
  there := fun j hj => ⟨M[j]'(by omega), by rw [World.cell?_alloc_at _ _ _ _ rfl]; simp [hM, hj]⟩
  free := fun j _ => World.frozen?_alloc_at _ _ _ _ rfl
  got := fun i hi => absurd hi (by omega)

theorem OwnAt.alloc {w : World} {g c k : Nat} {f : Nat → Value} (h : OwnAt w g c k f) (o : Obj) : OwnAt (w.alloc o) g c k f where
  lt := by have := h.lt; simp; omega
  there := fun j hj => by rw [World.cell?_alloc_lt _ _ _ h.lt]; exact h.there j hj
  free := fun j hj => by rw [World.frozen?_alloc_old _ _ _ (by have := h.lt; simp; omega)]; exact h.free j hj
  got := fun i hi => by rw [World.cell?_alloc_lt _ _ _ h.lt]; exact h.got i hi

theorem OwnAt.drew {w : World} {g c k : Nat} {f : Nat → Value} (h : OwnAt w g c k f) : OwnAt w.drew g c k f := ⟨h.lt, h.there, h.free, h.got⟩

theorem OwnAt.other {w : World} {g c k : Nat} {f : Nat → Value} (h : OwnAt w g c k f) (g' o : Nat) (v : Value) (hne : g' ≠ g) : OwnAt (w.setCell ⟨g', o, none⟩ v) g c k f where
  lt := by have := h.lt; simp; omega
  there := fun j hj => by rw [World.cell?_setCell_other _ _ _ _ (fun e => hne (congrArg Addr.block e))]; exact h.there j hj
  free := fun j hj => by rw [World.frozen?_setCell]; exact h.free j hj
  got := fun i hi => by rw [World.cell?_setCell_other _ _ _ _ (fun e => hne (congrArg Addr.block e))]; exact h.got i hi

theorem OwnAt.push {w : World} {g c k : Nat} {f : Nat → Value} (h : OwnAt w g c k f) (hk : k < c) {v : Value} (hv : f k = v) : OwnAt (w.setCell ⟨g, k, none⟩ v) g c (k + 1) f where
  lt := by have := h.lt; simp; omega
  there := fun j hj => by
    by_cases e : k = j
    · subst e; obtain ⟨u, hu⟩ := h.there k hj; exact ⟨v, World.cell?_setCell_same _ _ _ hu⟩
    · rw [World.cell?_setCell_other _ _ _ _ (off_ne e)]; exact h.there j hj
  free := fun j hj => by rw [World.frozen?_setCell]; exact h.free j hj
  got := fun i hi => by
    by_cases e : k = i
    · subst e; obtain ⟨u, hu⟩ := h.there k hk; rw [hv]; exact World.cell?_setCell_same _ _ _ hu
    · rw [World.cell?_setCell_other _ _ _ _ (off_ne e)]; exact h.got i (by omega)

theorem OwnAt.row {w : World} {g c k : Nat} {f : Nat → Value} (h : OwnAt w g c k f) : RowAt w.heap.size w (some ⟨g, 0, none⟩) k f :=
  Or.inr ⟨g, 0, rfl, h.lt, fun i hi => by rw [Nat.zero_add]; exact h.got i hi⟩

theorem OwnAt.below {w w' : World} {g c k B : Nat} {f : Nat → Value} (h : OwnAt w g c k f) (hb : Below B w w') (hg : g < B) : OwnAt w' g c k f where
  lt := Nat.lt_of_lt_of_le h.lt hb.size
  there := fun j hj => by rw [hb.cell (p := ⟨g, j, none⟩) hg]; exact h.there j hj
  free := fun j hj => by rw [hb.frozen (p := ⟨g, j, none⟩) hg]; exact h.free j hj
  got := fun i hi => by rw [hb.cell (p := ⟨g, i, none⟩) hg]; exact h.got i hi

/-- 'xs = append(xs, v)' of one element within the capacity: the cell is written, the length grows. -/
theorem wpList_push {P : Program} (w : World) {ops : Array Oper} {rest : List Oper} {o : Oper} {a : Act} {Q : Exit → Act → World → Prop}
    (hg : o.guard = none) (s x : Operand) (t : TypeId) (hop : o.op = Op.call { callee := Callee.builtin Builtin.append, args := #[s, x], argTypes := #[t, t] })
    (e : TypeId) (i : TypeInfo) (h1 : P.underlying t = some (.slice e)) (h2 : P.info? e = some i) (h4 : i.size = 1)
    (g k cap b : Nat) (v : Value) (hs : a.eval s = .slice (some ⟨g, 0, none⟩) k cap) (hx : a.eval x = .slice (some ⟨b, 0, none⟩) 1 1)
    (hv : w.cell? ⟨b, 0, none⟩ = some v) (h1c : v.oneCell' = true) (hroom : k + 1 ≤ cap) (hc : ∃ u, w.cell? ⟨g, k, none⟩ = some u) (hf : w.frozen? ⟨g, k, none⟩ = false)
    (hK : wpList P ops Q rest (a.put o.dst (.slice (some ⟨g, 0, none⟩) (k + 1) cap)) (w.setCell ⟨g, k, none⟩ v)) :
    wpList P ops Q (o :: rest) a w := by
  refine wpList_plain hg fun K hK' => ?_
  obtain ⟨u, hu⟩ := hc
  have hrun := run_append_room_cells (P := P) w t o.type e i h1 h2 g 0 k cap ⟨b, 0, none⟩ 1 1 [v] (by simp [h4]) (fun j u hj => by
    match j, hj with
    | 0, hj => simp at hj; subst hj; exact hv) (fun u hu => by simp at hu; subst hu; exact h1c) hroom
    (fun j hj => by
      have hj0 : j = 0 := by simpa using hj
      subst hj0
      simp [h4, hu])
    (fun j hj => by
      have hj0 : j = 0 := by simpa using hj
      subst hj0
      simpa [h4] using hf)
  have e1 : w.setCells g (0 + k * i.size) [v] = w.setCell ⟨g, k, none⟩ v := by simp [World.setCells, h4]
  rw [e1] at hrun
  unfold Oper.wp
  simp [execOp, hop, resolve, invoke, builtin, hs, hx, hrun, Result.andThen]
  exact hK' _ _ hK

/-- One more put in at place m. -/
def ins {α : Type} (m : Nat) (x : α) (f : Nat → α) (i : Nat) : α := if i < m then f i else if i = m then x else f (i - 1)
theorem ins_lt {α : Type} {m i : Nat} {x : α} {f : Nat → α} (h : i < m) : ins m x f i = f i := if_pos h
theorem ins_at {α : Type} {m : Nat} {x : α} {f : Nat → α} : ins m x f m = x := by unfold ins; rw [if_neg (by omega), if_pos rfl]
theorem ins_gt {α : Type} {m i : Nat} {x : α} {f : Nat → α} (h : m < i) : ins m x f i = f (i - 1) := by unfold ins; rw [if_neg (by omega), if_neg (by omega)]

theorem make_strs (c : Nat) (hn : c ≤ 65537) : ∃ M : Array Value, M.size = c ∧ ∀ w : World, (Instr.makeSlice 22 (.int .i64 0) (.int .i64 c)).run Try.prog w = .ok (.slice (some ⟨w.heap.size, 0, none⟩) 0 c) (w.alloc (.cells M 9)) := by
  have info : (Try.prog.info? 9).map (fun i => (i.zero, i.size, i.bytes)) = some (some (.string ⟨#[]⟩), 1, 16) := by kernel_rfl
  obtain ⟨i, hi, hzz⟩ := Option.map_eq_some_iff.1 info
  simp only [Prod.mk.injEq] at hzz
  obtain ⟨hz, hs, hb⟩ := hzz
  refine ⟨madeCells (Value.string ⟨#[]⟩).cells (c * 1), by rw [size_madeCells]; omega, fun w => ?_⟩
  have := run_make (P := Try.prog) w 22 9 i _ Try.underlying22 hi hz .i64 .i64 0 c (by omega) (by omega) (by rw [hb]; omega) (by omega)
  rw [hs] at this
  simpa using this
theorem make_ints (c : Nat) (hn : c ≤ 65537) : ∃ M : Array Value, M.size = c ∧ ∀ w : World, (Instr.makeSlice 23 (.int .i64 0) (.int .i64 c)).run Try.prog w = .ok (.slice (some ⟨w.heap.size, 0, none⟩) 0 c) (w.alloc (.cells M 3)) := by
  have info : (Try.prog.info? 3).map (fun i => (i.zero, i.size, i.bytes)) = some (some (.int .i64 0), 1, 8) := by kernel_rfl
  obtain ⟨i, hi, hzz⟩ := Option.map_eq_some_iff.1 info
  simp only [Prod.mk.injEq] at hzz
  obtain ⟨hz, hs, hb⟩ := hzz
  refine ⟨madeCells (Value.int .i64 0).cells (c * 1), by rw [size_madeCells]; omega, fun w => ?_⟩
  have := run_make (P := Try.prog) w 23 3 i _ Try.underlying23 hi hz .i64 .i64 0 c (by omega) (by omega) (by rw [hb]; omega) (by omega)
  rw [hs] at this
  simpa using this
theorem info9 : ∃ i, Try.prog.info? 9 = some i ∧ i.size = 1 := by
  have info : (Try.prog.info? 9).map (fun i => i.size) = some 1 := by kernel_rfl
  obtain ⟨i, hi, hs⟩ := Option.map_eq_some_iff.1 info
  exact ⟨i, hi, hs⟩
theorem info3 : ∃ i, Try.prog.info? 3 = some i ∧ i.size = 1 := by
  have info : (Try.prog.info? 3).map (fun i => i.size) = some 1 := by kernel_rfl
  obtain ⟨i, hi, hs⟩ := Option.map_eq_some_iff.1 info
  exact ⟨i, hi, hs⟩

/-! ### The plain law: one more type put in at place m -/
theorem put_new {S : Nat → ByteArray} {t nm : ByteArray} {n m r2 : Nat} (hm : m ≤ n) (h2 : First (ins m nm S) t (n + 1) r2) (hnm : (nm.toList == t.toList) = true) (hno : ∀ i, i < m → ((S i).toList == t.toList) = false)
    (x : Int) (Z : Nat → Int) : at0 (ins m x Z) (n + 1) r2 = x := by
  have h : First (ins m nm S) t (n + 1) m := ⟨fun i hi => by rw [ins_lt hi]; exact hno i hi, Or.inr ⟨by omega, by rw [ins_at]; exact hnm⟩⟩
  obtain rfl := h2.unique h
  unfold at0
  rw [if_pos (by omega), ins_at]

theorem put_old {S : Nat → ByteArray} {t nm : ByteArray} {n m r r2 : Nat} (hm : m ≤ n) (h1 : First S t n r) (h2 : First (ins m nm S) t (n + 1) r2)
    (hno : (nm.toList == t.toList) = false ∨ ∃ i, i < m ∧ ((S i).toList == t.toList) = true) (x : Int) (Z : Nat → Int) : at0 (ins m x Z) (n + 1) r2 = at0 Z n r := by
  by_cases hr : r < m
  · have h : First (ins m nm S) t (n + 1) r := by
      refine ⟨fun i hi => by rw [ins_lt (by omega)]; exact h1.1 i hi, Or.inr ⟨by omega, ?_⟩⟩
      rw [ins_lt hr]
      rcases h1.2 with e | ⟨_, e⟩
      · omega
      · exact e
    obtain rfl := h2.unique h
    unfold at0
    rw [if_pos (by omega), if_pos (by omega), ins_lt hr]
  · have hnm : (nm.toList == t.toList) = false := by
      rcases hno with h | ⟨i, hi, he⟩
      · exact h
      · rw [h1.1 i (by omega)] at he; cases he
    have h : First (ins m nm S) t (n + 1) (r + 1) := by
      refine ⟨fun i hi => ?_, ?_⟩
      · rcases Nat.lt_trichotomy i m with hl | rfl | hl
        · rw [ins_lt hl]; exact h1.1 i (by omega)
        · rw [ins_at]; exact hnm
        · rw [ins_gt hl]; exact h1.1 (i - 1) (by omega)
      · rcases h1.2 with e | ⟨hl, e⟩
        · exact Or.inl (by omega)
        · refine Or.inr ⟨by omega, ?_⟩
          rw [ins_gt (by omega)]
          simpa using e
    obtain rfl := h2.unique h
    unfold at0
    by_cases hl : r < n
    · rw [if_pos (by omega), if_pos hl, ins_gt (by omega)]; simp
    · rw [if_neg (by omega), if_neg hl]

theorem fit_ins {Z E : Nat → Int} {n m : Nat} {z x : Int} (hm : m ≤ n) (h : Fit Z E n) (h0 : 0 ≤ z) (h1 : z ≤ x) (h2 : x - z ≤ 65536) : Fit (ins m z Z) (ins m x E) (n + 1) := by
  intro i hi
  rcases Nat.lt_trichotomy i m with hl | rfl | hl
  · rw [ins_lt hl, ins_lt hl]; exact h i (by omega)
  · rw [ins_at, ins_at]; exact ⟨h0, h1, h2⟩
  · rw [ins_gt hl, ins_gt hl]; exact h (i - 1) (by omega)

/-- The three rows, one element appended to each; three blocks of one cell laid beside. -/
def Push3 (wr : World) (G k : Nat) (v1 v2 v3 : Value) (A B C : Obj) : World :=
  (((((wr.setCell ⟨G, k, none⟩ v1).setCell ⟨G + 1, k, none⟩ v2).setCell ⟨G + 1 + 1, k, none⟩ v3).alloc A).alloc B).alloc C
theorem push3 {wc wr : World} {G c k : Nat} {f1 f2 f3 : Nat → Value} (hb : Below G wc wr) (o1 : OwnAt wr G c k f1) (o2 : OwnAt wr (G + 1) c k f2) (o3 : OwnAt wr (G + 1 + 1) c k f3) (hk : k < c)
    {v1 v2 v3 : Value} (h1 : f1 k = v1) (h2 : f2 k = v2) (h3 : f3 k = v3) (A B C : Obj) :
    Below G wc (Push3 wr G k v1 v2 v3 A B C) ∧ OwnAt (Push3 wr G k v1 v2 v3 A B C) G c (k + 1) f1 ∧ OwnAt (Push3 wr G k v1 v2 v3 A B C) (G + 1) c (k + 1) f2 ∧ OwnAt (Push3 wr G k v1 v2 v3 A B C) (G + 1 + 1) c (k + 1) f3 := by
  have l3 := o3.lt
  unfold Push3
  refine ⟨?_, ?_, ?_, ?_⟩
  · exact (((((hb.setCell (Nat.le_refl _) _).setCell (Nat.le_succ _) _).setCell (by show G ≤ G + 1 + 1; omega) _).alloc (by simp; omega) _).alloc (by simp; omega) _).alloc (by simp; omega) _
  · exact (((((o1.push hk h1).other _ _ _ (by omega)).other _ _ _ (by omega)).alloc _).alloc _).alloc _
  · exact (((((o2.other _ _ _ (by omega)).push hk h2).other _ _ _ (by omega)).alloc _).alloc _).alloc _
  · exact (((((o3.other _ _ _ (by omega)).other _ _ _ (by omega)).push hk h3).alloc _).alloc _).alloc _

/-! ### Worlds behind one another -/
/-- Nothing of X has turned. -/
def Kept (X Y : World) : Prop := Below X.heap.size X Y
theorem Kept.refl (X : World) : Kept X X := Below.refl _ _
theorem Kept.trans {X Y Z : World} (h1 : Kept X Y) (h2 : Kept Y Z) : Kept X Z := Below.trans h1 (Below.mono h2 (Below.size h1))
theorem Kept.alloc (X : World) (o : Obj) : Kept X (X.alloc o) := (Below.refl _ _).alloc (Nat.le_refl _) _
theorem Kept.drewN (X : World) (q : Nat) : Kept X (X.drewN q) := ⟨rfl, rfl, rfl, Nat.le_refl _, fun _ _ => rfl⟩

/-- Block b holds these cells. -/
def Blk (w : World) (b : Nat) (C : Array Value) (t : TypeId) : Prop := w.heap[b]? = some (.cells C t (0, 0))
theorem Blk.new (w : World) (C : Array Value) (t : TypeId) : Blk (w.alloc (.cells C t)) w.heap.size C t := by
  show (w.heap.push _)[w.heap.size]? = _; simp
theorem Blk.lt {w : World} {b : Nat} {C : Array Value} {t : TypeId} (h : Blk w b C t) : b < w.heap.size := (Array.getElem?_eq_some_iff.1 h).1
theorem Blk.kept {w w' : World} {b : Nat} {C : Array Value} {t : TypeId} (h : Blk w b C t) (k : Kept w w') : Blk w' b C t := (Below.block k b h.lt).trans h
theorem Blk.cell {w : World} {b : Nat} {C : Array Value} {t : TypeId} (h : Blk w b C t) (i : Nat) : w.cell? ⟨b, i, none⟩ = C[i]? := by
  unfold World.cell?; rw [h]; rfl

theorem RowAt.kept {X w : World} {a : Option Addr} {n : Nat} {f : Nat → Value} (h : RowAt X.heap.size X a n f) (k : Kept X w) : RowAt w.heap.size w a n f := (h.below k).mono (Below.size k)
theorem TypesAt.kept {w w' : World} {g n k : Nat} {S : Nat → ByteArray} {Z E : Nat → Int} (h : TypesAt w g n k S Z E) (hk : Kept w w') : TypesAt w' g n k S Z E := h.below hk h.lt
theorem OwnAt.kept {w w' : World} {g c k : Nat} {f : Nat → Value} (h : OwnAt w g c k f) (hk : Kept w w') : OwnAt w' g c k f := h.below hk h.lt
theorem ReadsAt.kept {w w' : World} {h m : Nat} (hr : ReadsAt w h m) (hk : Kept w w') (hl : h < w.heap.size) : ReadsAt w' h m := hr.below hk hl

/-- ZZnewAheadPlan: the plan is a new block whose fourth cell is the table. -/
def plan5 (t : Option Addr) (n c : Nat) : Array Value := #[.slice none 0 0, .slice none 0 0, .slice none 0 0, .slice t n c, .slice none 0 0]
theorem new_plan' (w : World) (t : Option Addr) (n c : Nat) : Calls Try.prog 8 #[.slice t n c] w fun e w' => e = .returned (.pointer (some ⟨w.heap.size, 0, none⟩)) ∧ Kept w w' ∧ Blk w' w.heap.size (plan5 t n c) 61 :=
  (new_plan w t n c).mono fun e w' ⟨he, hw⟩ => ⟨he, by subst hw; exact Kept.alloc _ _, by subst hw; exact Blk.new _ _ _⟩
end Go.Proofs.Qxb6612910a
