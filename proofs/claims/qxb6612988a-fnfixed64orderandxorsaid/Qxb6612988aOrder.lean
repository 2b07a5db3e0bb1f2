/-
  FnFixed64OrderAndXor: the walk.
-/
import Derived.Test.Qxb6612988aCmp
import Derived.Test.Qxb6612988aPlain
namespace Go.Proofs.Qxb6612988a
open Go.RowKit
/-- Three new encoders. -/
def Z3 (w : World) : World := ((w.alloc (.cells #[.slice none 0 0, .int .i64 0] 27)).alloc (.cells #[.slice none 0 0, .int .i64 0] 27)).alloc (.cells #[.slice none 0 0, .int .i64 0] 27)
set_option maxHeartbeats 1000000 in
set_option maxRecDepth 100000 in
theorem walk4 (a b : Nat) (ha : a < 18446744073709551616) (hb : b < 18446744073709551616) (w : World) :
    Calls Try.prog 4 #[.int .u64 a, .int .u64 b] w fun e w' => e = .returned (.bool true) ∧ Below w.heap.size w w' := by
  have hx := bits_xor_u64_nat a b ha hb
  have hxl : a ^^^ b < 18446744073709551616 := Nat.xor_lt_two_pow (n := 64) ha hb
  go_enter Try.func4, Try.ntmps4
  go_wp2_with fail
  refine (fixed64 w.heap.size none 0 0 a ha (fun _ => .nilIface) _ (Or.inl rfl) (fun _ => ⟨rfl, rfl⟩) (by omega) (by omega) (by go_simp) (by go_simp)).mono ?_
  rintro e w1 ⟨rfl, g1, c1, e1, f1, hg1, hc1, E1, B1⟩
  have s0 : (Z3 w).heap.size = w.heap.size + 3 := by unfold Z3; simp
  have b0 : Below w.heap.size w (Z3 w) := (((Below.refl _ _).alloc (Nat.le_refl _) _).alloc (by simp) _).alloc (by simp; omega) _
  have n2 : (Z3 w).cell? ⟨w.heap.size + 1, 0, none⟩ = some (.slice none 0 0) ∧ (Z3 w).frozen? ⟨w.heap.size + 1, 0, none⟩ = false ∧ (Z3 w).cell? ⟨w.heap.size + 1 + 1, 0, none⟩ = some (.slice none 0 0) ∧ (Z3 w).frozen? ⟨w.heap.size + 1 + 1, 0, none⟩ = false := by
    unfold Z3; refine ⟨?_, ?_, ?_, ?_⟩ <;> go_simp
  change But w.heap.size (Z3 w) w1 at B1
  change (Z3 w).heap.size ≤ g1 at hg1
  have hs1 := B1.size
  have H1 : Hid (w1.cell? ⟨w.heap.size, 0, none⟩ = some (.slice (some ⟨g1, 0, none⟩) 8 c1) ∧ Enc w1 g1 0 a (fun _ => .nilIface) ∧ w.heap.size + 3 ≤ g1 ∧ Below w.heap.size w w1 ∧ w.heap.size + 3 ≤ w1.heap.size ∧
      w1.cell? ⟨w.heap.size + 1, 0, none⟩ = some (.slice none 0 0) ∧ w1.frozen? ⟨w.heap.size + 1, 0, none⟩ = false ∧ w1.cell? ⟨w.heap.size + 1 + 1, 0, none⟩ = some (.slice none 0 0) ∧ w1.frozen? ⟨w.heap.size + 1 + 1, 0, none⟩ = false ∧ 8 ≤ c1) :=
    ⟨by simpa using e1, E1, by omega, b0.trans (B1.below _ (Nat.le_refl _) (by omega)), by omega, (B1.cell _ _ (by omega) (by omega)).trans n2.1, (B1.frozen _ _ (by omega) (by omega)).trans n2.2.1, (B1.cell _ _ (by omega) (by omega)).trans n2.2.2.1, (B1.frozen _ _ (by omega) (by omega)).trans n2.2.2.2, by omega⟩
  clear e1 f1 hg1 hc1 E1 B1 s0 b0 n2 hs1
  go_wp2_with fail
  refine (fixed64 (w.heap.size + 1) none 0 0 b hb (fun _ => .nilIface) w1 (Or.inl rfl) (fun _ => ⟨rfl, rfl⟩) (by omega) (by omega) H1.out.2.2.2.2.2.1 H1.out.2.2.2.2.2.2.1).mono ?_
  rintro e w2 ⟨rfl, g2, c2, e2, f2, hg2, hc2, E2, B2⟩
  have hs2 := B2.size
  have H2 : Hid (w2.cell? ⟨w.heap.size, 0, none⟩ = some (.slice (some ⟨g1, 0, none⟩) 8 c1) ∧ w2.cell? ⟨w.heap.size + 1, 0, none⟩ = some (.slice (some ⟨g2, 0, none⟩) 8 c2) ∧ Enc w2 g1 0 a (fun _ => .nilIface) ∧ Enc w2 g2 0 b (fun _ => .nilIface) ∧ w.heap.size + 3 ≤ g2 ∧ Below w.heap.size w w2 ∧ w.heap.size + 3 ≤ w2.heap.size ∧
      w2.cell? ⟨w.heap.size + 1 + 1, 0, none⟩ = some (.slice none 0 0) ∧ w2.frozen? ⟨w.heap.size + 1 + 1, 0, none⟩ = false ∧ 8 ≤ c2) := by
    obtain ⟨h1, h2, h3, h4, h5, h6, h7, h8, h9, h10⟩ := H1.out
    exact ⟨(B2.cell _ _ (by omega) (by omega)).trans h1, by simpa using e2, h2.but B2 (by omega), E2, by omega, h4.trans (B2.below _ (by omega) (by omega)), by omega, (B2.cell _ _ (by omega) (by omega)).trans h8, (B2.frozen _ _ (by omega) (by omega)).trans h9, by omega⟩
  clear e2 f2 hc2 E2 B2 hs2 hg2
  go_wp2_with fail
  clear hx
  generalize hX : a ^^^ b = x at hxl ⊢
  have HX := hide hX
  clear hX
  refine (fixed64 (w.heap.size + 1 + 1) none 0 0 x hxl (fun _ => .nilIface) w2 (Or.inl rfl) (fun _ => ⟨rfl, rfl⟩) (by omega) (by omega) H2.out.2.2.2.2.2.2.2.1 H2.out.2.2.2.2.2.2.2.2.1).mono ?_
  rintro e w3 ⟨rfl, g3, c3, e3, f3, hg3, hc3, E3, B3⟩
  have hs3 := B3.size
  have H3 : Hid (Enc w3 g1 0 a (fun _ => .nilIface) ∧ Enc w3 g2 0 b (fun _ => .nilIface) ∧ Enc w3 g3 0 x (fun _ => .nilIface) ∧ Below w.heap.size w w3) := by
    obtain ⟨h1, h2, h3, h4, h5, h6, h7, h8, h9, h10⟩ := H2.out
    exact ⟨h3.but B3 (by have := H1.out.2.2.1; omega), h4.but B3 (by omega), E3, h6.trans (B3.below _ (by omega) (by omega))⟩
  have k1 : w3.cell? ⟨w.heap.size, 0, none⟩ = some (.slice (some ⟨g1, 0, none⟩) 8 c1) := (B3.cell _ _ (by have := H2.out.2.2.2.2.2.2.1; omega) (by omega)).trans H2.out.1
  have k2 : w3.cell? ⟨w.heap.size + 1, 0, none⟩ = some (.slice (some ⟨g2, 0, none⟩) 8 c2) := (B3.cell _ _ (by have := H2.out.2.2.2.2.2.2.1; omega) (by omega)).trans H2.out.2.1
  have k3 : w3.cell? ⟨w.heap.size + 1 + 1, 0, none⟩ = some (.slice (some ⟨g3, 0, none⟩) 8 c3) := by simpa using e3
  clear e3 f3 hg3 hc3 E3 B3 hs3 H1 H2
  go_wp2_with fail
  go_loopw [8] (fun i wr => ∃ k q : Nat, k ≤ 8 ∧ i = .int .i64 k ∧ wr = w3.drewN q) (fun i _ => 8 - (intOf i).toNat)
  case atStart => exact ⟨0, 0, by omega, rfl, rfl⟩
  case round =>
    obtain ⟨k, q, hk, rfl, rfl⟩ := hrel
    by_cases hlt : k < 8
    · have m1 := H3.out.1.new k hlt
      have m2 := H3.out.2.1.new k hlt
      have m3 := H3.out.2.2.1.new k hlt
      rw [Nat.zero_add] at m1 m2 m3
      have hxk : bits .xor .u8 (byte a k : Int) (byte b k : Int) = (byte x k : Int) := by rw [u8_xor_nat _ _ (byte_lt _ _) (byte_lt _ _), ← byte_xor, HX.out]
      unfold byteV at m1 m2 m3
      generalize byte a k = y1 at m1 hxk
      generalize byte b k = y2 at m2 hxk
      generalize byte x k = y3 at m3 hxk
      go_wp2
      go_quiet (fail)
      go_wp2
      go_roundw
      case rel => exact ⟨k + 1, _, by omega, by go_num, rfl⟩
      case measure => simp [intOf]; omega
    · have r1 : ∀ i, i < 8 → w3.cell? ⟨g1, i, none⟩ = some (u8V (byte a) i) := fun i hi => by have := H3.out.1.new i hi; rw [Nat.zero_add] at this; exact this
      have r2 : ∀ i, i < 8 → w3.cell? ⟨g2, i, none⟩ = some (u8V (byte b) i) := fun i hi => by have := H3.out.2.1.new i hi; rw [Nat.zero_add] at this; exact this
      have R := hide (And.intro r1 r2)
      clear r1 r2
      go_wp2_with fail
      refine (less_any g1 c1 g2 c2 (byte a) (byte b) (w3.drewN q) R.out.1 R.out.2).mono ?_
      rintro e w4 ⟨r, rfl, ht, hf, q2, rfl⟩
      have hr : decide (a < b) = r := by
        cases r
        · rcases hf rfl with h | ⟨k, hk, hl, h⟩
          · have := eq_of_bytes a b ha hb h; subst this; simp
          · have := lt_of_bytes b a hb ha k hk hl (fun j h1 h2 => (h j h1 h2).symm); simp; omega
        · obtain ⟨k, hk, hl, h⟩ := ht rfl
          have := lt_of_bytes a b ha hb k hk hl h
          simpa using this
      clear ht hf
      have hself : ((r == r) : Bool) = true := by cases r <;> rfl
      go_wp2_with fail
      refine (eq_any _ _ 8 c1 c2 (byte a) (byte b) _ (RowAt.kept (Or.inr ⟨g1, 0, rfl, H3.out.1.lt, fun i hi => by rw [Nat.zero_add]; exact R.out.1 i hi⟩) (Kept.drewN w3 (q + q2))) (RowAt.kept (Or.inr ⟨g2, 0, rfl, H3.out.2.1.lt, fun i hi => by rw [Nat.zero_add]; exact R.out.2 i hi⟩) (Kept.drewN w3 (q + q2))) (by omega)).mono ?_
      rintro e w5 ⟨s, rfl, hy, hn, q3, rfl⟩
      have hs : ((a : Int) == (b : Int)) = s := by
        cases s
        · rw [beq_eq_false_iff_ne]; intro h
          obtain ⟨i, _, hi⟩ := hn rfl
          have : a = b := by omega
          subst this; exact hi rfl
        · have := eq_of_bytes a b ha hb (hy rfl); subst this; simp
      clear hy hn
      have hself2 : ((s == s) : Bool) = true := by cases s <;> rfl
      go_wp2
      go_ret
      exact ⟨rfl, ⟨H3.out.2.2.2.os, H3.out.2.2.2.tape, H3.out.2.2.2.output, H3.out.2.2.2.size, H3.out.2.2.2.block⟩⟩
end Go.Proofs.Qxb6612988a
