/-
  The ground for this seat: rows in memory, worlds behind one another; AppendUint64 where it must grow; Fixed64.
-/
import Derived.Test.Qxb6612988aRows
import Derived.WalkKit
import Derived.WalkSpells
import Derived.WalkLawsBesides
import Derived.Deep.QuietTactic
import Derived.BigQuiet
import Derived.Deep.RegionWith
import Derived.Handy
import Derived.ArgAppend
namespace Go.Proofs.Qxb6612988a
open Go.RowKit

theorem hide {p : Prop} (h : p) : Hid p := h

/-- Nothing of X has turned. -/
def Kept (X Y : World) : Prop := Below X.heap.size X Y
theorem Kept.refl (X : World) : Kept X X := Below.refl _ _
theorem Kept.trans {X Y Z : World} (h1 : Kept X Y) (h2 : Kept Y Z) : Kept X Z := Below.trans h1 (Below.mono h2 (Below.size h1))
theorem Kept.alloc (X : World) (o : Obj) : Kept X (X.alloc o) := (Below.refl _ _).alloc (Nat.le_refl _) _
theorem Kept.drewN (X : World) (q : Nat) : Kept X (X.drewN q) := ⟨rfl, rfl, rfl, Nat.le_refl _, fun _ _ => rfl⟩
theorem Kept.cell {X Y : World} (h : Kept X Y) {b i : Nat} (hb : b < X.heap.size) : Y.cell? ⟨b, i, none⟩ = X.cell? ⟨b, i, none⟩ := Below.cell h (p := ⟨b, i, none⟩) hb

/-- THE SLICE THAT BEGINS AT a HOLDS n CELLS, cell i being 'f i'; its block lies below B. (n = 0: nothing is said of a.) -/
def RowAt (B : Nat) (w : World) (a : Option Addr) (n : Nat) (f : Nat → Value) : Prop :=
  n = 0 ∨ ∃ b off, a = some ⟨b, off, none⟩ ∧ b < B ∧ ∀ i, i < n → w.cell? ⟨b, off + i, none⟩ = some (f i)
theorem RowAt.kept {X w : World} {a : Option Addr} {n : Nat} {f : Nat → Value} (h : RowAt X.heap.size X a n f) (k : Kept X w) : RowAt w.heap.size w a n f := by
  rcases h with h | ⟨b, off, rfl, hB, hc⟩
  · exact Or.inl h
  · exact Or.inr ⟨b, off, rfl, Nat.lt_of_lt_of_le hB (Below.size k), fun i hi => by rw [Kept.cell k hB]; exact hc i hi⟩

theorem cell_lt {w : World} {a : Addr} {v : Value} (h : w.cell? a = some v) : a.block < w.heap.size := by
  rcases Nat.lt_or_ge a.block w.heap.size with hl | hl
  · exact hl
  · unfold World.cell? at h
    rw [Array.getElem?_eq_none hl] at h
    cases h
theorem old_cell {w : World} {a : Addr} {v : Value} (o : Obj) (h : w.cell? a = some v) : (w.alloc o).cell? a = some v := by
  rw [World.cell?_alloc_lt _ _ _ (cell_lt h)]; exact h

/-- From 'ownsRow' to cells. -/
theorem own_cells {w : World} {base n : Nat} {v : Value} {xs : List Value} (hn : 0 < n) (h : w.ownsRow base 5 1 v n xs) :
    ∃ g c, v = .slice (some ⟨g, 0, none⟩) n c ∧ base ≤ g ∧ g < w.heap.size ∧ n ≤ c ∧ xs.length = n ∧ ∀ i u, xs[i]? = some u → w.cell? ⟨g, i, none⟩ = some u := by
  obtain ⟨hl, ⟨_, h0⟩ | ⟨g, cap, cur, hv, hb, hh, hc, _, hs, ht⟩⟩ := h
  · omega
  · refine ⟨g, cap, hv, hb, (Array.getElem?_eq_some_iff.1 hh).1, hc, by omega, fun i u hi => ?_⟩
    have hil : i < n := by have := (List.getElem?_eq_some_iff.1 hi).1; omega
    rw [← ht] at hi
    rw [List.getElem?_take_of_lt (by omega)] at hi
    unfold World.cell?
    rw [hh]
    simpa using hi

/-- Byte i of v. -/
def byte (v i : Nat) : Nat := v / 256 ^ i % 256
def byteV (v i : Nat) : Value := .int .u8 (byte v i : Int)
def news (v : Nat) : List Value := [.int .u8 ((v : Int) % 256), .int .u8 ((v : Int) / 256 % 256), .int .u8 ((v : Int) / 65536 % 256), .int .u8 ((v : Int) / 16777216 % 256), .int .u8 ((v : Int) / 4294967296 % 256), .int .u8 ((v : Int) / 1099511627776 % 256), .int .u8 ((v : Int) / 281474976710656 % 256), .int .u8 ((v : Int) / 72057594037927936)]
theorem news_at (v i : Nat) (hv : v < 18446744073709551616) (hi : i < 8) : (news v)[i]? = some (byteV v i) := by
  unfold news byteV byte
  match i, hi with
  | 0, _ => simp
  | 1, _ => simp
  | 2, _ => simp
  | 3, _ => simp
  | 4, _ => simp
  | 5, _ => simp
  | 6, _ => simp
  | 7, _ => simp; omega

theorem info5 : (Try.prog.info? 5).map (fun i => (i.zero, i.size, i.bytes)) = some (some (.int .u8 0), 1, 1) := by kernel_rfl

set_option maxHeartbeats 1000000 in
set_option maxRecDepth 100000 in
theorem append64 (ao : Option Addr) (n cap v : Nat) (hv : v < 18446744073709551616) (olds : List Value) (w : World) (hlo : olds.length = n) (holds : ∀ b, ao = some b → ∀ j u, olds[j]? = some u → w.cell? (b.add j) = some u)
    (hnone : ao = none → n = 0 ∧ cap = 0) (hcap : cap < n + 8) (hn : n ≤ 1048576) :
    Calls Try.prog 20 #[.agg #[], .slice ao n cap, .int .u64 v] w fun e w' => ∃ v', e = .returned v' ∧ w'.ownsRow w.heap.size 5 1 v' (n + 8) (olds ++ news v) ∧ Below w.heap.size w w' := by
  obtain ⟨i0, hi, hz0, hz1, hz2⟩ := info_parts info5
  go_enter Try.func20, Try.ntmps20
  go_wp2_with (at_builtin; refine wpList_append_grows _ rfl _ _ 22 rfl 5 i0 (.int .u8 0) 1 1 Try.underlying22 hi hz0 hz1 hz2 rfl (by decide) ao n cap olds rfl hnone (by omega) ?c0 _ 8 8 [.int .u8 ((v : Int) % 256), .int .u8 ((v : Int) / 256 % 256), .int .u8 ((v : Int) / 65536 % 256), .int .u8 ((v : Int) / 16777216 % 256), .int .u8 ((v : Int) / 4294967296 % 256), .int .u8 ((v : Int) / 1099511627776 % 256), .int .u8 ((v : Int) / 281474976710656 % 256), .int .u8 ((v : Int) / 72057594037927936)] rfl rfl ?c1 ?c2 ?c3 ?c4 ?c5 ?grow)
  case c0 => intro b hb j u hj; exact old_cell _ (old_cell _ (holds b hb j u hj))
  case c1 =>
    intro j u hj
    match j, hj with
    | 0, hj => simp at hj; subst hj; simp [Addr.add]
    | 1, hj => simp at hj; subst hj; simp [Addr.add]
    | 2, hj => simp at hj; subst hj; simp [Addr.add]
    | 3, hj => simp at hj; subst hj; simp [Addr.add]
    | 4, hj => simp at hj; subst hj; simp [Addr.add]
    | 5, hj => simp at hj; subst hj; simp [Addr.add]
    | 6, hj => simp at hj; subst hj; simp [Addr.add]
    | 7, hj => simp at hj; subst hj; simp [Addr.add]
  case c2 => intro u hu; simp at hu; rcases hu with rfl | rfl | rfl | rfl | rfl | rfl | rfl | rfl <;> rfl
  case c3 => exact hcap
  case c4 => unfold maxLen; omega
  case c5 => omega
  case grow =>
    intro v' w1 hown hgrow
    go_wp2
    go_ret
    refine ⟨v', rfl, ?_, ?_⟩
    · obtain ⟨h1, h2⟩ := hown
      refine ⟨h1, ?_⟩
      rcases h2 with h2 | ⟨g, c, cur, e1, e2, r⟩
      · exact Or.inl h2
      · exact Or.inr ⟨g, c, cur, e1, by omega, r⟩
    · exact (((Below.refl _ _).alloc (Nat.le_refl _) _).alloc (by simp) _).grown hgrow (by simp; omega) (fun k hk => by cases hk)

/-- AppendUint64 has put the eight bytes behind what was there, in a new row. -/
def Res64 (n v : Nat) (f : Nat → Value) (w : World) (e : Ending) (w' : World) : Prop :=
  ∃ g c, e = .returned (.slice (some ⟨g, 0, none⟩) (n + 8) c) ∧ Kept w w' ∧ w.heap.size ≤ g ∧ g < w'.heap.size ∧ n + 8 ≤ c ∧ (∀ i, i < n → w'.cell? ⟨g, i, none⟩ = some (f i)) ∧ ∀ i, i < 8 → w'.cell? ⟨g, n + i, none⟩ = some (byteV v i)

theorem append64_any (ao : Option Addr) (n cap v : Nat) (hv : v < 18446744073709551616) (f : Nat → Value) (w : World) (hrow : RowAt w.heap.size w ao n f)
    (hnone : ao = none → n = 0 ∧ cap = 0) (hcap : cap < n + 8) (hn : n ≤ 1048576) :
    Calls Try.prog 20 #[.agg #[], .slice ao n cap, .int .u64 v] w fun e w' => Res64 n v f w e w' := by
  refine (append64 ao n cap v hv ((List.range n).map f) w (by simp) ?_ hnone hcap hn).mono ?_
  · intro b hb j u hj
    rcases hrow with rfl | ⟨b', off, rfl, _, hc⟩
    · simp at hj
    · obtain rfl := Option.some.inj hb
      have hjn : j < n := by have := (List.getElem?_eq_some_iff.1 hj).1; simpa using this
      simp [hjn] at hj
      subst hj
      rw [Addr.add_lit]
      exact hc j hjn
  · rintro e w' ⟨v', rfl, hown, hb⟩
    obtain ⟨g, c, rfl, hg, hgl, hc, hxl, hcell⟩ := own_cells (by omega) hown
    refine ⟨g, c, rfl, hb, hg, hgl, hc, fun i hi => hcell i _ ?_, fun i hi => hcell (n + i) _ ?_⟩
    · rw [List.getElem?_append_left (by simpa using hi)]
      simp [hi]
    · rw [List.getElem?_append_right (by simp)]
      simpa using news_at v i hv hi

/-- The row of bytes at the head of block g: n old cells, then the eight bytes of v. -/
structure Enc (w : World) (g n v : Nat) (f : Nat → Value) : Prop where
  lt : g < w.heap.size
  old : ∀ i, i < n → w.cell? ⟨g, i, none⟩ = some (f i)
  new : ∀ i, i < 8 → w.cell? ⟨g, n + i, none⟩ = some (byteV v i)

/-- From w to w' of the old blocks block b alone may have turned. -/
structure But (b : Nat) (w w' : World) : Prop where
  size : w.heap.size ≤ w'.heap.size
  cell : ∀ k i, k < w.heap.size → k ≠ b → w'.cell? ⟨k, i, none⟩ = w.cell? ⟨k, i, none⟩
  frozen : ∀ k i, k < w.heap.size → k ≠ b → w'.frozen? ⟨k, i, none⟩ = w.frozen? ⟨k, i, none⟩
  below : ∀ B, B ≤ b → B ≤ w.heap.size → Below B w w'

theorem But.trans {b : Nat} {w w' w'' : World} (h : But b w w') (k : But b w' w'') : But b w w'' where
  size := Nat.le_trans h.size k.size
  cell := fun j i hj hb => (k.cell j i (Nat.lt_of_lt_of_le hj h.size) hb).trans (h.cell j i hj hb)
  frozen := fun j i hj hb => (k.frozen j i (Nat.lt_of_lt_of_le hj h.size) hb).trans (h.frozen j i hj hb)
  below := fun B h1 h2 => (h.below B h1 h2).trans (k.below B h1 (Nat.le_trans h2 h.size))

theorem Enc.but {w w' : World} {g n v b : Nat} {f : Nat → Value} (h : Enc w g n v f) (k : But b w w') (hb : g ≠ b) : Enc w' g n v f where
  lt := Nat.lt_of_lt_of_le h.lt k.size
  old := fun i hi => by rw [k.cell g i h.lt hb]; exact h.old i hi
  new := fun i hi => by rw [k.cell g _ h.lt hb]; exact h.new i hi
theorem Enc.kept {w w' : World} {g n v : Nat} {f : Nat → Value} (h : Enc w g n v f) (k : Kept w w') : Enc w' g n v f where
  lt := Nat.lt_of_lt_of_le h.lt (Below.size k)
  old := fun i hi => by rw [Kept.cell k h.lt]; exact h.old i hi
  new := fun i hi => by rw [Kept.cell k h.lt]; exact h.new i hi

/-- Fixed64: the encoder at block b now holds a new row: what was there, and the eight bytes. -/
def Fix64 (b n v : Nat) (f : Nat → Value) (w : World) (e : Ending) (w' : World) : Prop :=
  e = .returned (.tuple #[]) ∧ ∃ g c, w'.cell? ⟨b, 0, none⟩ = some (.slice (some ⟨g, 0, none⟩) (n + 8) c) ∧ w'.frozen? ⟨b, 0, none⟩ = false ∧ w.heap.size ≤ g ∧ n + 8 ≤ c ∧ Enc w' g n v f ∧ But b w w'

theorem fix_end {b n v g c : Nat} {f : Nat → Value} {w w1 : World} {u : Value} (hbl : b < w.heap.size) (hk : Kept w.drew w1) (hg : w.drew.heap.size ≤ g) (hgl : g < w1.heap.size) (hc8 : n + 8 ≤ c)
    (hold : ∀ i, i < n → w1.cell? ⟨g, i, none⟩ = some (f i)) (hnew : ∀ i, i < 8 → w1.cell? ⟨g, n + i, none⟩ = some (byteV v i)) (k1 : w1.cell? ⟨b, 0, none⟩ = some u) (k2 : w1.frozen? ⟨b, 0, none⟩ = false) :
    (w1.setCell ⟨b, 0, none⟩ (.slice (some ⟨g, 0, none⟩) (n + 8) c)).cell? ⟨b, 0, none⟩ = some (.slice (some ⟨g, 0, none⟩) (n + 8) c) ∧ (w1.setCell ⟨b, 0, none⟩ (.slice (some ⟨g, 0, none⟩) (n + 8) c)).frozen? ⟨b, 0, none⟩ = false ∧ w.heap.size ≤ g ∧ n + 8 ≤ c ∧
      Enc (w1.setCell ⟨b, 0, none⟩ (.slice (some ⟨g, 0, none⟩) (n + 8) c)) g n v f ∧ But b w (w1.setCell ⟨b, 0, none⟩ (.slice (some ⟨g, 0, none⟩) (n + 8) c)) := by
  have hg' : w.heap.size ≤ g := hg
  have hne : ∀ (k i : Nat), k ≠ b → (⟨b, 0, none⟩ : Addr) ≠ ⟨k, i, none⟩ := fun k i h e => h (congrArg Addr.block e).symm
  refine ⟨World.cell?_setCell_same _ _ _ k1, by simpa using k2, hg', hc8, ⟨by simpa using hgl, fun i hi => ?_, fun i hi => ?_⟩, ⟨?_, fun k i hk1 hkb => ?_, fun k i hk1 hkb => ?_, fun B h1 h2 => ?_⟩⟩
  · rw [World.cell?_setCell_other _ _ _ _ (hne g i (by omega))]; exact hold i hi
  · rw [World.cell?_setCell_other _ _ _ _ (hne g (n + i) (by omega))]; exact hnew i hi
  · have := Below.size hk; simpa using this
  · rw [World.cell?_setCell_other _ _ _ _ (hne k i hkb)]; exact Below.cell hk (p := ⟨k, i, none⟩) hk1
  · rw [World.frozen?_setCell]; exact Below.frozen hk (p := ⟨k, i, none⟩) hk1
  · exact ((Below.refl B w).drew.trans (Below.mono hk h2)).setCell h1 _

set_option maxHeartbeats 1000000 in
set_option maxRecDepth 100000 in
theorem fixed64 (b : Nat) (ao : Option Addr) (n cap v : Nat) (hv : v < 18446744073709551616) (f : Nat → Value) (w : World) (hrow : RowAt w.heap.size w ao n f)
    (hnone : ao = none → n = 0 ∧ cap = 0) (hcap : cap < n + 8) (hn : n ≤ 1048576) (hc : w.cell? ⟨b, 0, none⟩ = some (.slice ao n cap)) (hf : w.frozen? ⟨b, 0, none⟩ = false) :
    Calls Try.prog 8 #[.pointer (some ⟨b, 0, none⟩), .int .u64 v] w fun e w' => Fix64 b n v f w e w' := by
  have hbl : b < w.heap.size := cell_lt hc
  have HR := hide hrow
  have HN := hide hnone
  clear hrow hnone
  go_enter Try.func8, Try.ntmps8
  go_wp2
  go_region_with (go_at_call 20; refine (append64_any _ _ _ _ hv f _ ?_ HN.out hcap hn).mono ?_; exact HR.out.kept (Kept.drewN _ 1); rintro e w1 ⟨g, c, rfl, hk, hg, hgl, hc8, hold, hnew⟩; have k1 : w1.cell? ⟨b, 0, none⟩ = some (.slice ao n cap) := (Below.cell hk (p := ⟨b, 0, none⟩) hbl).trans hc; have k2 : w1.frozen? ⟨b, 0, none⟩ = false := (Below.frozen hk (p := ⟨b, 0, none⟩) hbl).trans hf)
  all_goals
    go_wp2
    go_end0
    exact ⟨rfl, g, c, fix_end hbl hk hg hgl hc8 hold hnew k1 k2⟩
end Go.Proofs.Qxb6612988a
