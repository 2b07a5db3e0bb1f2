/-
  FnFixed64AppendsLittleEndian: the walk.
-/
import Derived.Test.Qxb6612988aClone
import Derived.Test.Qxb6612988aPlain
namespace Go.Proofs.Qxb6612988a
open Go.RowKit
theorem elem22 : Try.prog.underlying 22 = some (TypeDesc.slice (Try.prog.elem 22)) := by kernel_rfl
theorem size22 (W : World) : (sizeOf (Try.prog.elem 22)).run Try.prog W = .ok 1 W := by kernel_rfl
theorem slice_tail (g n c : Nat) (hc : n + 8 ≤ c) (W : World) : (Instr.slice 22 (.slice (some ⟨g, 0, none⟩) (n + 8) c) (some (.int .i64 n)) none none).run Try.prog W = .ok (.slice (some ⟨g, n, none⟩) 8 (c - n)) W := by
  have h1 : (n : Int) ≤ ((n + 8 : Nat) : Int) := by omega
  rw [run_slice_l (P := Try.prog) (w := W) (kl := .i64) (ht := elem22) (h0 := by omega) (h1 := h1), size22]
  simp only [Result.andThen, sliced]
  rw [if_neg (by omega)]
  simp [Addr.add_lit]

theorem kept_of_new {w w' : World} {o : Obj} (h : But w.heap.size (w.alloc o) w') : Kept w w' ∧ w.heap.size < w'.heap.size :=
  ⟨((Below.refl _ _).alloc (Nat.le_refl _) o).trans (h.below w.heap.size (Nat.le_refl _) (by simp)), by have := h.size; simp at this; omega⟩

theorem eq_same (a a2 : Option Addr) (n cap cap2 : Nat) (x : Nat → Nat) (w : World) (hc : RowAt w.heap.size w a n (u8V x)) (hd : RowAt w.heap.size w a2 n (u8V x)) (hn : n ≤ 1048576) :
    Calls Try.prog 9 #[.slice a n cap, .slice a2 n cap2] w fun e w' => e = .returned (.bool true) ∧ ∃ q, w' = w.drewN q :=
  (eq_any a a2 n cap cap2 x x w hc hd hn).mono fun e w' ⟨r, he, _, hno, hq⟩ => by
    cases r
    · obtain ⟨i, _, hi⟩ := hno rfl; exact absurd rfl hi
    · exact ⟨he, hq⟩

set_option maxHeartbeats 1000000 in
set_option maxRecDepth 100000 in
theorem walk3 (ao : Option Addr) (n cap v : Nat) (hv : v < 18446744073709551616) (x : Nat → Nat) (w : World) (hrow : RowAt w.heap.size w ao n (u8V x)) (hnone : ao = none → n = 0) (hn : n ≤ maxLen) :
    Calls Try.prog 3 #[.slice ao n cap, .int .u64 v] w fun e w' => e = .returned (.bool true) ∧ Below w.heap.size w w' := by
  have k6 := hide (bytes_any ao n cap v w hn)
  have HR := hide (And.intro hrow hnone)
  clear hrow hnone
  unfold maxLen at hn
  go_enter Try.func3, Try.ntmps3
  go_wp2_with fail
  refine k6.out.mono ?_
  clear k6
  rintro e w ⟨r, rfl, rfl⟩
  cases r
  · go_wp2
    go_ret
    exact ⟨rfl, Below.refl _ _⟩
  by_cases hb : (1048576 : Int) < (n : Int)
  · go_wp2
    go_ret
    exact ⟨rfl, Below.refl _ _⟩
  go_wp2_with fail
  refine (clone_any ao n cap x w HR.out.1 HR.out.2 (by omega)).mono ?_
  rintro e w1 ⟨a1, rfl, hk1, hr1, hz1⟩
  have H1 := hide (And.intro hk1 (And.intro hr1 hz1))
  clear hk1 hr1 hz1
  go_wp2_with fail
  refine (clone_any a1 n n x w1 H1.out.2.1 H1.out.2.2 (by omega)).mono ?_
  rintro e w2 ⟨a2, rfl, hk2, hr2, hz2⟩
  have H2 := hide (And.intro hk2 (And.intro hr2 hz2))
  clear hk2 hr2 hz2
  go_wp2_with fail
  refine (fixed64 w2.heap.size a1 n n v hv (u8V x) _ (H1.out.2.1.kept (H2.out.1.trans (Kept.alloc _ _))) (fun h => ⟨H1.out.2.2 h, H1.out.2.2 h⟩) (by omega) (by omega) (by go_simp) (by go_simp)).mono ?_
  rintro e w4 ⟨rfl, g1, c1, e1, f1, hg1, hc1, E1, B1⟩
  have H4 : Hid (w4.cell? ⟨w2.heap.size, 0, none⟩ = some (.slice (some ⟨g1, 0, none⟩) (n + 8) c1) ∧ n + 8 ≤ c1 ∧ Enc w4 g1 n v (u8V x) ∧ Kept w2 w4 ∧ w2.heap.size < w4.heap.size) :=
    ⟨e1, hc1, E1, kept_of_new B1⟩
  clear e1 f1 hg1 hc1 E1 B1
  go_wp2_with fail
  refine (fixed64 w4.heap.size none 0 0 v hv (u8V x) _ (Or.inl rfl) (fun h => ⟨rfl, rfl⟩) (by omega) (by omega) (by go_simp) (by go_simp)).mono ?_
  rintro e w6 ⟨rfl, g2, c2, e2, f2, hg2, hc2, E2, B2⟩
  have H6 : Hid (8 ≤ c2 ∧ Enc w6 g2 0 v (u8V x) ∧ Kept w4 w6 ∧ w4.heap.size < w6.heap.size) := ⟨by omega, E2, kept_of_new B2⟩
  have k2 : w6.cell? ⟨w4.heap.size, 0, none⟩ = some (.slice (some ⟨g2, 0, none⟩) 8 c2) := by simpa using e2
  have k1 : w6.cell? ⟨w2.heap.size, 0, none⟩ = some (.slice (some ⟨g1, 0, none⟩) (n + 8) c1) := (Kept.cell H6.out.2.2.1 H4.out.2.2.2.2).trans H4.out.1
  clear e2 f2 hg2 hc2 E2 B2
  go_wp2_with fail
  go_loop [8, 9] (fun y i => ∃ k : Nat, k ≤ 8 ∧ i = .int .i64 ((k : Int) - 1) ∧ y = .int .u64 ((v / 256 ^ k : Nat) : Int)) (fun _ i => (intOf i + 1).toNat)
  case atStart => exact ⟨8, Nat.le_refl _, rfl, by rw [hi_top v hv]; rfl⟩
  case round =>
    obtain ⟨k, hk, rfl, rfl⟩ := hrel
    rcases Nat.eq_zero_or_pos k with rfl | hpos
    · have h0 : v / 256 ^ 0 = v := by simp
      rw [h0]
      clear h0
      have hc8 : n + 8 ≤ c1 := H4.out.2.1
      have hcn : n ≤ c1 := by omega
      have hne : ¬ c1 = n := by omega
      go_wp2_with fail
      refine (eq_same (some ⟨g1, 0, none⟩) a2 n c1 n x w6 ?_ (H2.out.2.1.kept (H4.out.2.2.2.1.trans H6.out.2.2.1)) (by omega)).mono ?_
      · exact Or.inr ⟨g1, 0, rfl, (H4.out.2.2.1.kept H6.out.2.2.1).lt, fun i hi => by rw [Nat.zero_add]; exact (H4.out.2.2.1.kept H6.out.2.2.1).old i hi⟩
      rintro e w7 ⟨rfl, q, rfl⟩
      have r1 : RowAt w6.heap.size w6 (some ⟨g1, n, none⟩) 8 (u8V (byte v)) := Or.inr ⟨g1, n, rfl, (H4.out.2.2.1.kept H6.out.2.2.1).lt, fun i hi => (H4.out.2.2.1.kept H6.out.2.2.1).new i hi⟩
      have r2 : RowAt w6.heap.size w6 (some ⟨g2, 0, none⟩) 8 (u8V (byte v)) := Or.inr ⟨g2, 0, rfl, H6.out.2.1.lt, fun i hi => H6.out.2.1.new i hi⟩
      have R := hide (And.intro r1 r2)
      clear r1 r2
      go_wp2_with fail
      have hsl := slice_tail g1 n c1 hc8
      have l1 : (w6.drewN q).cell? ⟨w2.heap.size, 0, none⟩ = some (.slice (some ⟨g1, 0, none⟩) (n + 8) c1) := k1
      have l2 : (w6.drewN q).cell? ⟨w4.heap.size, 0, none⟩ = some (.slice (some ⟨g2, 0, none⟩) 8 c2) := k2
      have R7 := hide (And.intro (RowAt.kept R.out.1 (Kept.drewN _ q)) (And.intro (RowAt.kept R.out.2 (Kept.drewN _ q)) (Kept.drewN w6 q)))
      clear R
      generalize w6.drewN q = w7 at *
      go_quiet ((go_at_call 9; exact Calls.quiet_of (eq_same (some ⟨g1, n, none⟩) (some ⟨g2, 0, none⟩) 8 (c1 - n) c2 (byte v) _ (RowAt.kept R7.out.1 (Kept.drewN _ _)) (RowAt.kept R7.out.2.1 (Kept.drewN _ _)) (by omega))))
      go_wp2
      go_ret
      refine ⟨rfl, ?_⟩
      have K := H1.out.1.trans (H2.out.1.trans (H4.out.2.2.2.1.trans (H6.out.2.2.1.trans R7.out.2.2)))
      exact K.trans (Kept.drewN _ _)
    · obtain ⟨m, rfl⟩ : ∃ m, k = m + 1 := ⟨k - 1, by omega⟩
      have hm : m < 8 := by omega
      have hi : (((m + 1 : Nat) : Int) - 1) = (m : Int) := by omega
      have hc := H6.out.2.1.new m hm
      rw [Nat.zero_add] at hc
      unfold byteV at hc
      rw [hi]
      have hs := hi_step v m
      have hy : byte v m < 256 := byte_lt _ _
      have hlt : v / 256 ^ m < 18446744073709551616 := Nat.lt_of_le_of_lt (Nat.div_le_self _ _) hv
      generalize byte v m = c at hc hs hy
      generalize v / 256 ^ (m + 1) = y at hs ⊢
      generalize hz : v / 256 ^ m = z at hs hlt
      have HZ := hide (And.intro hz hs)
      clear hz
      have hy2 : y * 256 + c < 18446744073709551616 := by omega
      clear hs
      go_wp2
      go_round
      case rel => exact ⟨m, by omega, rfl, by rw [show ((y : Int) * 256) = ((y * 256 : Nat) : Int) from by omega, bits_or_u64_nat _ _ (by omega) (by omega), or_step _ _ hy, HZ.out.1, HZ.out.2]⟩
      case measure => simp [intOf]
end Go.Proofs.Qxb6612988a
