/-
  zzBytesEq, zzLELess.
-/
import Derived.Test.Qxb6612988aBase
namespace Go.Proofs.Qxb6612988a
open Go.RowKit

/-- Two rows of bytes, by index. -/
def u8V (f : Nat → Nat) (i : Nat) : Value := .int .u8 (f i : Int)

/-! ### zzBytesEq -/
def EqR (x y : Nat → Nat) (n : Nat) (w : World) (e : Ending) (w' : World) : Prop :=
  ∃ r : Bool, e = .returned (.bool r) ∧ (r = true → ∀ i, i < n → x i = y i) ∧ (r = false → ∃ i, i < n ∧ x i ≠ y i) ∧ ∃ q, w' = w.drewN q

theorem eq_some (b off n cap b2 off2 cap2 : Nat) (x y : Nat → Nat) (w : World) (hc : ∀ i, i < n → w.cell? ⟨b, off + i, none⟩ = some (u8V x i)) (hd : ∀ i, i < n → w.cell? ⟨b2, off2 + i, none⟩ = some (u8V y i)) (hn : n ≤ 1048576) :
    Calls Try.prog 9 #[.slice (some ⟨b, off, none⟩) n cap, .slice (some ⟨b2, off2, none⟩) n cap2] w fun e w' => EqR x y n w e w' := by
  go_enter Try.func9, Try.ntmps9
  go_wp2
  go_loopw [5] (fun i wr => ∃ k q : Nat, k ≤ n ∧ i = .int .i64 k ∧ Hid (∀ i, i < k → x i = y i) ∧ wr = w.drewN q) (fun i _ => n - (intOf i).toNat)
  case atStart => exact ⟨0, 0, Nat.zero_le _, rfl, fun i hi => absurd hi (by omega), rfl⟩
  case round =>
    obtain ⟨k, q, hk, rfl, hf, rfl⟩ := hrel
    by_cases hlt : k < n
    · have hck := hc k hlt
      have hdk := hd k hlt
      clear hc hd
      unfold u8V at hck hdk
      generalize hx : x k = a at hck
      generalize hy : y k = c at hdk
      have HX : Hid (x k = a ∧ y k = c) := ⟨hx, hy⟩
      clear hx hy
      by_cases hac : a = c
      · subst hac
        go_wp2
        go_quiet (fail)
        go_wp2
        go_roundw
        case rel =>
          refine ⟨k + 1, _, by omega, by go_num, ?_, rfl⟩
          intro i hi
          by_cases hik : i = k
          · subst hik; rw [HX.out.1, HX.out.2]
          · exact hf.out i (by omega)
        case measure => simp [intOf]; omega
      · have hac' : ((a : Int) != (c : Int)) = true := by rw [bne_iff_ne]; omega
        go_wp2
        go_quiet (fail)
        go_wp2
        go_ret
        exact ⟨false, rfl, (fun h => by cases h), (fun _ => ⟨k, hlt, by rw [HX.out.1, HX.out.2]; exact hac⟩), _, World.drewN_drewN _ _ _⟩
    · clear hc hd
      go_wp2
      go_ret
      refine ⟨true, rfl, (fun _ => ?_), (fun h => by cases h), _, rfl⟩
      have : k = n := by omega
      subst this
      exact hf.out

theorem eq_zero (a a2 : Option Addr) (cap cap2 : Nat) (x y : Nat → Nat) (w : World) : Calls Try.prog 9 #[.slice a 0 cap, .slice a2 0 cap2] w fun e w' => EqR x y 0 w e w' := by
  go_enter Try.func9, Try.ntmps9
  go_wp2
  refine wp_loop_rounds 1 ?_
  rw [rounds_succ]
  go_wp2
  go_ret
  exact ⟨true, rfl, (fun _ i hi => absurd hi (by omega)), (fun h => by cases h), 0, rfl⟩

theorem eq_any (a a2 : Option Addr) (n cap cap2 : Nat) (x y : Nat → Nat) (w : World) (hc : RowAt w.heap.size w a n (u8V x)) (hd : RowAt w.heap.size w a2 n (u8V y)) (hn : n ≤ 1048576) :
    Calls Try.prog 9 #[.slice a n cap, .slice a2 n cap2] w fun e w' => EqR x y n w e w' := by
  rcases hc with rfl | ⟨b, off, rfl, _, hc⟩
  · exact eq_zero a a2 cap cap2 x y w
  rcases hd with rfl | ⟨b2, off2, rfl, _, hd⟩
  · exact eq_zero _ a2 cap cap2 x y w
  · exact eq_some b off n cap b2 off2 cap2 x y w hc hd hn

/-! ### zzLELess -/
theorem drew3 (w : World) (q a b : Nat) : ∃ q', ((w.drewN q).drewN a).drewN b = w.drewN q' := ⟨q + (a + b), by rw [World.drewN_drewN, World.drewN_drewN]⟩
def LessR (x y : Nat → Nat) (w : World) (e : Ending) (w' : World) : Prop :=
  ∃ r : Bool, e = .returned (.bool r) ∧ (r = true → ∃ k, k < 8 ∧ x k < y k ∧ ∀ j, k < j → j < 8 → x j = y j) ∧ (r = false → (∀ j, j < 8 → x j = y j) ∨ ∃ k, k < 8 ∧ y k < x k ∧ ∀ j, k < j → j < 8 → x j = y j) ∧ ∃ q, w' = w.drewN q

theorem less_any (g c g2 c2 : Nat) (x y : Nat → Nat) (w : World) (hc : ∀ i, i < 8 → w.cell? ⟨g, i, none⟩ = some (u8V x i)) (hd : ∀ i, i < 8 → w.cell? ⟨g2, i, none⟩ = some (u8V y i)) :
    Calls Try.prog 10 #[.slice (some ⟨g, 0, none⟩) 8 c, .slice (some ⟨g2, 0, none⟩) 8 c2] w fun e w' => LessR x y w e w' := by
  go_enter Try.func10, Try.ntmps10
  go_wp2
  go_loopw [5] (fun i wr => ∃ k q : Nat, k ≤ 8 ∧ i = .int .i64 ((k : Int) - 1) ∧ Hid (∀ j, k ≤ j → j < 8 → x j = y j) ∧ wr = w.drewN q) (fun i _ => (intOf i + 1).toNat)
  case atStart => exact ⟨8, 0, Nat.le_refl _, rfl, fun j h1 h2 => absurd h2 (by omega), rfl⟩
  case round =>
    obtain ⟨k, q, hk, rfl, hf, rfl⟩ := hrel
    rcases Nat.eq_zero_or_pos k with rfl | hpos
    · clear hc hd
      go_wp2
      go_ret
      exact ⟨false, rfl, (fun h => by cases h), (fun _ => Or.inl (fun j hj => hf.out j (Nat.zero_le _) hj)), _, rfl⟩
    · obtain ⟨m, rfl⟩ : ∃ m, k = m + 1 := ⟨k - 1, by omega⟩
      have hm : m < 8 := by omega
      have hck := hc m hm
      have hdk := hd m hm
      clear hc hd
      unfold u8V at hck hdk
      generalize hx : x m = a at hck
      generalize hy : y m = b at hdk
      have HX : Hid (x m = a ∧ y m = b) := ⟨hx, hy⟩
      clear hx hy
      have hi : (((m + 1 : Nat) : Int) - 1) = (m : Int) := by omega
      rw [hi]
      by_cases hac : a = b
      · subst hac
        go_wp2
        go_quiet (fail)
        go_wp2
        go_roundw
        case rel =>
          refine ⟨m, _, by omega, by go_num, ?_, rfl⟩
          intro j h1 h2
          by_cases hik : j = m
          · subst hik; rw [HX.out.1, HX.out.2]
          · exact hf.out j (by omega) h2
        case measure => simp [intOf]
      · have hac' : ((a : Int) != (b : Int)) = true := by rw [bne_iff_ne]; omega
        by_cases hl : a < b
        · have hl' : decide ((a : Int) < (b : Int)) = true := by simpa using hl
          go_wp2
          go_quiet (fail)
          go_wp2
          go_quiet (fail)
          go_wp2
          go_ret
          refine ⟨true, rfl, (fun _ => ⟨m, hm, by rw [HX.out.1, HX.out.2]; exact hl, fun j h1 h2 => hf.out j (by omega) h2⟩), (fun h => by cases h), ?_⟩
          exact drew3 _ _ _ _
        · have hl' : decide ((a : Int) < (b : Int)) = false := by simpa using hl
          go_wp2
          go_quiet (fail)
          go_wp2
          go_quiet (fail)
          go_wp2
          go_ret
          refine ⟨false, rfl, (fun h => by cases h), (fun _ => Or.inr ⟨m, hm, by rw [HX.out.1, HX.out.2]; omega, fun j h1 h2 => hf.out j (by omega) h2⟩), ?_⟩
          exact drew3 _ _ _ _
end Go.Proofs.Qxb6612988a
