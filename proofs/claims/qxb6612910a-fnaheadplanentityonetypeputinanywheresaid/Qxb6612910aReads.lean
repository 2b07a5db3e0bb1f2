/-
  (*aheadPlan).readsOf.
-/
import Derived.Test.Qxb6612910aTypes
import Derived.Laws.IdiomStrings
import Derived.Lib.ConvBytes
namespace Go.Proofs.Qxb6612910a
open Go.RowKit

/-- The bytes of t lie at the head of block bb. -/
def BytesAt (w : World) (bb : Nat) (t : ByteArray) : Prop := ∀ j (hj : j < t.data.toList.length), w.cell? ⟨bb, j, none⟩ = some (.int .u8 (t.data.toList[j].toNat : Int))

theorem add_off (b j : Nat) : (⟨b, 0, none⟩ : Addr).add j = ⟨b, j, none⟩ := by
  unfold Addr.add
  by_cases h : j = 0
  · subst h; rfl
  · simp [h]
theorem BytesAt.back {w : World} {bb : Nat} {t : ByteArray} (h : BytesAt w bb t) (cb : Nat) : (convert 92 9 (.slice (some ⟨bb, 0, none⟩) t.size cb)).run Try.prog w = .ok (.string t) w := by
  have := run_convert_bytes_back (P := Try.prog) w 92 9 5 ⟨bb, 0, none⟩ cb t.data.toList Try.underlying92 Try.underlying5 Try.underlying9 (fun j hj => by rw [add_off]; exact h j hj)
  have hsz : t.data.toList.length = t.size := by simp
  rw [hsz] at this
  exact this

theorem BytesAt.below {w w' : World} {bb B : Nat} {t : ByteArray} (h : BytesAt w bb t) (hb : Below B w w') (hB : bb < B) : BytesAt w' bb t := fun j hj => by
  rw [hb.cell (p := ⟨bb, j, none⟩) hB]; exact h j hj

def ReadsR (S : Nat → ByteArray) (t : ByteArray) (Z E : Nat → Int) (n : Nat) (w : World) (e : Ending) (w' : World) : Prop :=
  ∃ r, First S t n r ∧ e = .returned (.agg #[.int .i64 (at0 Z n r), .int .i64 (at0 E n r)]) ∧ Below w.heap.size w w'

set_option maxHeartbeats 1000000 in
set_option maxRecDepth 100000 in
theorem reads_any (p g n bb cb : Nat) (S : Nat → ByteArray) (Z E : Nat → Int) (t : ByteArray) (w : World) (hp : w.cell? ⟨p, 3, none⟩ = some (.slice (some ⟨g, 0, none⟩) n n)) (hpl : p < w.heap.size)
    (ht : TypesAt w g n n S Z E) (hbt : BytesAt w bb t) (hbb : bb < w.heap.size) (hn : n ≤ 65537) :
    Calls Try.prog 38 #[.pointer (some ⟨p, 0, none⟩), .slice (some ⟨bb, 0, none⟩) t.size cb] w fun e w' => ReadsR S t Z E n w e w' := by
  have HT : Hid (TypesAt w g n n S Z E) := ht
  have HB : Hid (BytesAt w bb t) := hbt
  have hgl := ht.lt
  clear ht hbt
  go_enter Try.func38, Try.ntmps38
  go_wp2
  go_loopw [12] (fun i wr => ∃ k : Nat, k ≤ n ∧ i = .int .i64 k ∧ Below (w.heap.size + 1) (w.alloc (.cells #[.int .i64 0, .int .i64 0] 36)) wr ∧ Hid (∀ i, i < k → ((S i).toList == t.toList) = false)) (fun i _ => n - (intOf i).toNat)
  case atStart => exact ⟨0, Nat.zero_le _, rfl, Below.refl _ _, fun i hi => absurd hi (by omega)⟩
  case round =>
    obtain ⟨k, hk, rfl, hb, hf⟩ := hrel
    have hb0 : Below w.heap.size w wr := ((Below.refl _ _).alloc (Nat.le_refl _) _).trans (hb.mono (by omega))
    have c0 : wr.cell? ⟨w.heap.size, 0, none⟩ = some (.int .i64 0) := by rw [hb.cell (p := ⟨w.heap.size, 0, none⟩) (by simp)]; simp
    have c1 : wr.cell? ⟨w.heap.size, 1, none⟩ = some (.int .i64 0) := by rw [hb.cell (p := ⟨w.heap.size, 1, none⟩) (by simp)]; simp
    have f0 : wr.frozen? ⟨w.heap.size, 0, none⟩ = false := by rw [hb.frozen (p := ⟨w.heap.size, 0, none⟩) (by simp)]; simp
    have f1 : wr.frozen? ⟨w.heap.size, 1, none⟩ = false := by rw [hb.frozen (p := ⟨w.heap.size, 1, none⟩) (by simp)]; simp
    have hsz : w.heap.size < wr.heap.size := by have := hb.size; simp at this; omega
    have HH : Hid (Below w.heap.size w wr ∧ Below (w.heap.size + 1) (w.alloc (.cells #[.int .i64 0, .int .i64 0] 36)) wr) := ⟨hb0, hb⟩
    by_cases hlt : k < n
    · have ht := HT.out.below hb0 hgl
      have k0 := ht.name k hlt
      have k1 := ht.lo k hlt
      have k2 := ht.hi k hlt
      clear ht
      generalize hz : Z k = z at k1
      generalize he : E k = x at k2
      generalize hu : S k = u at k0
      have HZ : Hid (Z k = z) := hz
      have HE : Hid (E k = x) := he
      have HU : Hid (S k = u) := hu
      clear hz he hu
      have hcv : (convert 92 9 (.slice (some ⟨bb, 0, none⟩) t.size cb)).run Try.prog (wr.alloc (.cells #[.string u, .int .i64 z, .int .i64 x] 63)) = .ok (.string t) (wr.alloc (.cells #[.string u, .int .i64 z, .int .i64 x] 63)) :=
        ((HB.out.below hb0 hbb).below ((Below.refl wr.heap.size _).alloc (Nat.le_refl _) _) (by omega)).back cb
      clear hb hb0
      cases heq : (u.toList == t.toList)
      · go_wp2
        go_roundw
        case rel =>
          refine ⟨k + 1, by omega, by go_num, HH.out.2.alloc (by omega) _, ?_⟩
          intro i hi
          by_cases hik : i = k
          · subst hik; rw [HU.out]; exact heq
          · exact hf.out i (by omega)
        case measure => simp [intOf]; omega
      · go_wp2
        refine bodyPost_ret (v := .agg #[.int .i64 z, .int .i64 x]) (by simp [results, Try.results38, go_sem, c0, c1, hsz]) rfl ?_
        refine ⟨k, ⟨hf.out, Or.inr ⟨hlt, by rw [HU.out]; exact heq⟩⟩, ?_, ((HH.out.1.setCell (Nat.le_refl _) _).setCell (Nat.le_refl _) _).alloc (by simp; omega) _⟩
        unfold at0
        rw [if_pos hlt, if_pos hlt, HZ.out, HE.out]
    · clear hb hb0
      go_wp2
      refine bodyPost_ret (v := .agg #[.int .i64 0, .int .i64 0]) (by simp [results, Try.results38, go_sem, c0, c1]) rfl ?_
      have : k = n := by omega
      subst this
      refine ⟨k, ⟨hf.out, Or.inl rfl⟩, ?_, (HH.out.1.setCell (Nat.le_refl _) _).setCell (Nat.le_refl _) _⟩
      unfold at0
      rw [if_neg (by omega), if_neg (by omega)]
end Go.Proofs.Qxb6612910a
