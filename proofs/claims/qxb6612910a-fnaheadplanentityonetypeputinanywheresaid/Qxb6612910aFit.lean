/-
  zzRangesFit, zzFirstRange, zzNamedBefore.
-/
import Derived.Test.Qxb6612910aBase
namespace Go.Proofs.Qxb6612910a
open Go.RowKit

/-! ### zzRangesFit -/
def Fit (Z E : Nat → Int) (n : Nat) : Prop := ∀ i, i < n → 0 ≤ Z i ∧ Z i ≤ E i ∧ E i - Z i ≤ 65536
/-- It answers some bool; if true, all ranges fit; at most draws. -/
def FitsB (Z E : Nat → Int) (n : Nat) (w : World) (e : Ending) (w' : World) : Prop := ∃ r : Bool, e = .returned (.bool r) ∧ (r = true → Fit Z E n) ∧ ∃ q, w' = w.drewN q

theorem fit_some (b off n cap b2 off2 cap2 : Nat) (Z E : Nat → Int) (w : World) (hc : ∀ i, i < n → w.cell? ⟨b, off + i, none⟩ = some (.int .i64 (Z i))) (hd : ∀ i, i < n → w.cell? ⟨b2, off2 + i, none⟩ = some (.int .i64 (E i))) (hn : n ≤ 65536) (hE : ∀ i, i < n → E i ≤ 9223372036854775807) :
    Calls Try.prog 7 #[.slice (some ⟨b, off, none⟩) n cap, .slice (some ⟨b2, off2, none⟩) n cap2] w fun e w' => FitsB Z E n w e w' := by
  go_enter Try.func7, Try.ntmps7
  go_wp2
  go_loopw [5] (fun i wr => ∃ k q : Nat, k ≤ n ∧ i = .int .i64 k ∧ Hid (Fit Z E k) ∧ wr = w.drewN q) (fun i _ => n - (intOf i).toNat)
  case atStart => exact ⟨0, 0, Nat.zero_le _, rfl, fun i hi => absurd hi (by omega), rfl⟩
  case round =>
    obtain ⟨k, q, hk, rfl, hf, rfl⟩ := hrel
    by_cases hlt : k < n
    · have hck := hc k hlt
      have hdk := hd k hlt
      have hEk := hE k hlt
      clear hc hd hE
      generalize hz : Z k = z at hck
      generalize he : E k = x at hdk hEk
      have HZ : Hid (Z k = z) := hz
      have HE : Hid (E k = x) := he
      clear hz he
      by_cases h1 : z < 0
      · go_wp2
        go_quiet (fail)
        go_wp2
        go_ret
        exact ⟨false, rfl, (fun h => by cases h), _, World.drewN_drewN _ _ _⟩
      · have h1' : decide (z < 0) = false := by simpa using h1
        by_cases h2 : x < z
        · go_wp2
          go_quiet (fail)
          go_wp2
          go_ret
          exact ⟨false, rfl, (fun h => by cases h), _, World.drewN_drewN _ _ _⟩
        · have h2' : decide (x < z) = false := by simpa using h2
          by_cases h3 : 65536 < x - z
          · go_wp2
            go_quiet (fail)
            go_wp2
            go_ret
            exact ⟨false, rfl, (fun h => by cases h), _, World.drewN_drewN _ _ _⟩
          · go_wp2
            go_quiet (fail)
            go_wp2
            go_roundw
            case rel =>
              refine ⟨k + 1, _, by omega, by go_num, ?_, rfl⟩
              intro i hi
              by_cases hik : i = k
              · subst hik; rw [HZ.out, HE.out]; omega
              · exact hf.out i (by omega)
            case measure => simp [intOf]; omega
    · clear hc hd hE
      go_wp2
      go_ret
      refine ⟨true, rfl, fun _ => ?_, _, rfl⟩
      have : k = n := by omega
      subst this
      exact hf.out

theorem fit_zero (a a2 : Option Addr) (cap cap2 : Nat) (Z E : Nat → Int) (w : World) : Calls Try.prog 7 #[.slice a 0 cap, .slice a2 0 cap2] w fun e w' => FitsB Z E 0 w e w' := by
  go_enter Try.func7, Try.ntmps7
  go_wp2
  refine wp_loop_rounds 1 ?_
  rw [rounds_succ]
  go_wp2
  go_ret
  exact ⟨true, rfl, (fun _ i hi => absurd hi (by omega)), 0, rfl⟩

theorem fit_any (B : Nat) (a a2 : Option Addr) (n cap cap2 : Nat) (Z E : Nat → Int) (w : World) (hc : RowAt B w a n (intV Z)) (hd : RowAt B w a2 n (intV E)) (hn : n ≤ 65536) (hE : ∀ i, i < n → E i ≤ 9223372036854775807) :
    Calls Try.prog 7 #[.slice a n cap, .slice a2 n cap2] w fun e w' => FitsB Z E n w e w' := by
  rcases hc with rfl | ⟨b, off, rfl, _, hc⟩
  · exact fit_zero a a2 cap cap2 Z E w
  · rcases hd with rfl | ⟨b2, off2, rfl, _, hd⟩
    · exact fit_zero _ a2 cap cap2 Z E w
    · exact fit_some b off n cap b2 off2 cap2 Z E w hc hd hn hE

/-! ### The first index at which the name stands -/
/-- The least i below n with S i = t (as bytes), from k on; n where there is none. -/
def First (S : Nat → ByteArray) (t : ByteArray) (n : Nat) (r : Nat) : Prop := (∀ i, i < r → ((S i).toList == t.toList) = false) ∧ (r = n ∨ r < n ∧ ((S r).toList == t.toList) = true)
theorem First.unique {S : Nat → ByteArray} {t : ByteArray} {n r r' : Nat} (h : First S t n r) (h' : First S t n r') : r = r' := by
  obtain ⟨h1, h2⟩ := h
  obtain ⟨h1', h2'⟩ := h'
  rcases Nat.lt_trichotomy r r' with hl | rfl | hl
  · rcases h2 with rfl | ⟨_, h2⟩
    · rcases h2' with rfl | ⟨_, h2'⟩ <;> omega
    · rw [h1' r hl] at h2; cases h2
  · rfl
  · rcases h2' with rfl | ⟨_, h2'⟩
    · rcases h2 with rfl | ⟨_, h2⟩ <;> omega
    · rw [h1 r' hl] at h2'; cases h2'
theorem First.exists (S : Nat → ByteArray) (t : ByteArray) (n : Nat) : ∃ r, First S t n r := by
  have key : ∀ m, m ≤ n → (∃ r, First S t n r) ∨ ∀ i, i < m → ((S i).toList == t.toList) = false := by
    intro m
    induction m with
    | zero => intro _; exact Or.inr (fun i hi => absurd hi (by omega))
    | succ m ih =>
      intro hm
      rcases ih (by omega) with h | h
      · exact Or.inl h
      · cases hs : ((S m).toList == t.toList)
        · refine Or.inr fun i hi => ?_
          by_cases him : i = m
          · subst him; exact hs
          · exact h i (by omega)
        · exact Or.inl ⟨m, h, Or.inr ⟨by omega, hs⟩⟩
  rcases key n (Nat.le_refl _) with h | h
  · exact h
  · exact ⟨n, h, Or.inl rfl⟩
/-- The range at place r: (0, 0) where r is n. -/
def at0 (Z : Nat → Int) (n r : Nat) : Int := if r < n then Z r else 0

/-! ### zzFirstRange -/
def RangeR (S : Nat → ByteArray) (t : ByteArray) (Z E : Nat → Int) (n : Nat) (w : World) (e : Ending) (w' : World) : Prop :=
  ∃ r, First S t n r ∧ e = .returned (.tuple #[.int .i64 (at0 Z n r), .int .i64 (at0 E n r)]) ∧ ∃ q, w' = w.drewN q

theorem range_some (b off n cap b1 off1 cap1 b2 off2 cap2 : Nat) (S : Nat → ByteArray) (t : ByteArray) (Z E : Nat → Int) (w : World) (hs : ∀ i, i < n → w.cell? ⟨b, off + i, none⟩ = some (.string (S i)))
    (hc : ∀ i, i < n → w.cell? ⟨b1, off1 + i, none⟩ = some (.int .i64 (Z i))) (hd : ∀ i, i < n → w.cell? ⟨b2, off2 + i, none⟩ = some (.int .i64 (E i))) (hn : n ≤ 65536) :
    Calls Try.prog 11 #[.slice (some ⟨b, off, none⟩) n cap, .slice (some ⟨b1, off1, none⟩) n cap1, .slice (some ⟨b2, off2, none⟩) n cap2, .string t] w fun e w' => RangeR S t Z E n w e w' := by
  go_enter Try.func11, Try.ntmps11
  go_wp2
  go_loop [10] (fun i => ∃ k : Nat, k ≤ n ∧ i = .int .i64 k ∧ Hid (∀ i, i < k → ((S i).toList == t.toList) = false)) (fun i => n - (intOf i).toNat)
  case atStart => exact ⟨0, Nat.zero_le _, rfl, fun i hi => absurd hi (by omega)⟩
  case round =>
    obtain ⟨k, hk, rfl, hf⟩ := hrel
    by_cases hlt : k < n
    · have hsk := hs k hlt
      have hck := hc k hlt
      have hdk := hd k hlt
      clear hs hc hd
      generalize hz : Z k = z at hck
      generalize he : E k = x at hdk
      generalize hu : S k = u at hsk
      have HZ : Hid (Z k = z) := hz
      have HE : Hid (E k = x) := he
      have HU : Hid (S k = u) := hu
      clear hz he hu
      cases heq : (u.toList == t.toList)
      · go_wp2
        go_round
        case rel =>
          refine ⟨k + 1, by omega, by go_num, ?_⟩
          intro i hi
          by_cases hik : i = k
          · subst hik; rw [HU.out]; exact heq
          · exact hf.out i (by omega)
        case measure => simp [intOf]; omega
      · go_wp2
        go_quiet (fail)
        go_wp2
        go_ret2
        refine ⟨k, ⟨hf.out, Or.inr ⟨hlt, by rw [HU.out]; exact heq⟩⟩, ?_, _, rfl⟩
        unfold at0
        rw [if_pos hlt, if_pos hlt, HZ.out, HE.out]
        rfl
    · clear hs hc hd
      go_wp2
      go_ret2
      have : k = n := by omega
      subst this
      refine ⟨k, ⟨hf.out, Or.inl rfl⟩, ?_, 0, rfl⟩
      unfold at0
      rw [if_neg (by omega), if_neg (by omega)]
      rfl

theorem range_zero (a a1 a2 : Option Addr) (cap cap1 cap2 : Nat) (S : Nat → ByteArray) (t : ByteArray) (Z E : Nat → Int) (w : World) :
    Calls Try.prog 11 #[.slice a 0 cap, .slice a1 0 cap1, .slice a2 0 cap2, .string t] w fun e w' => RangeR S t Z E 0 w e w' := by
  go_enter Try.func11, Try.ntmps11
  go_wp2
  refine wp_loop_rounds 1 ?_
  rw [rounds_succ]
  go_wp2
  go_ret2
  exact ⟨0, ⟨fun i hi => absurd hi (by omega), Or.inl rfl⟩, rfl, 0, rfl⟩

theorem range_any (B : Nat) (a a1 a2 : Option Addr) (n cap cap1 cap2 : Nat) (S : Nat → ByteArray) (t : ByteArray) (Z E : Nat → Int) (w : World) (hs : RowAt B w a n (strV S)) (hc : RowAt B w a1 n (intV Z)) (hd : RowAt B w a2 n (intV E)) (hn : n ≤ 65536) :
    Calls Try.prog 11 #[.slice a n cap, .slice a1 n cap1, .slice a2 n cap2, .string t] w fun e w' => RangeR S t Z E n w e w' := by
  rcases hs with rfl | ⟨b, off, rfl, _, hs⟩
  · exact range_zero a a1 a2 cap cap1 cap2 S t Z E w
  rcases hc with rfl | ⟨b1, off1, rfl, _, hc⟩
  · exact range_zero _ a1 a2 cap cap1 cap2 S t Z E w
  rcases hd with rfl | ⟨b2, off2, rfl, _, hd⟩
  · exact range_zero _ _ a2 cap cap1 cap2 S t Z E w
  · exact range_some b off n cap b1 off1 cap1 b2 off2 cap2 S t Z E w hs hc hd hn

/-! ### zzNamedBefore -/
/-- Does the name stand at a place below m? -/
def NamedR (S : Nat → ByteArray) (t : ByteArray) (m : Nat) (w : World) (e : Ending) (w' : World) : Prop :=
  ∃ r : Bool, e = .returned (.bool r) ∧ (r = false → ∀ i, i < m → ((S i).toList == t.toList) = false) ∧ (r = true → ∃ i, i < m ∧ ((S i).toList == t.toList) = true) ∧ w' = w

theorem named_some (b off n cap m : Nat) (S : Nat → ByteArray) (t : ByteArray) (w : World) (hs : ∀ i, i < n → w.cell? ⟨b, off + i, none⟩ = some (.string (S i))) (hn : n ≤ 65536) (hm : m ≤ n) :
    Calls Try.prog 12 #[.slice (some ⟨b, off, none⟩) n cap, .int .i64 m, .string t] w fun e w' => NamedR S t m w e w' := by
  go_enter Try.func12, Try.ntmps12
  go_wp2
  go_loop [7] (fun i => ∃ k : Nat, k ≤ m ∧ i = .int .i64 k ∧ Hid (∀ i, i < k → ((S i).toList == t.toList) = false)) (fun i => m - (intOf i).toNat)
  case atStart => exact ⟨0, Nat.zero_le _, rfl, fun i hi => absurd hi (by omega)⟩
  case round =>
    obtain ⟨k, hk, rfl, hf⟩ := hrel
    by_cases hlt : k < m
    · have hkn : k < n := by omega
      have hsk := hs k hkn
      clear hs
      generalize hu : S k = u at hsk
      have HU : Hid (S k = u) := hu
      clear hu
      cases heq : (u.toList == t.toList)
      · go_wp2
        go_round
        case rel =>
          refine ⟨k + 1, by omega, by go_num, ?_⟩
          intro i hi
          by_cases hik : i = k
          · subst hik; rw [HU.out]; exact heq
          · exact hf.out i (by omega)
        case measure => simp [intOf]; omega
      · go_wp2
        go_ret
        exact ⟨true, rfl, (fun h => by cases h), (fun _ => ⟨k, hlt, by rw [HU.out]; exact heq⟩), rfl⟩
    · clear hs
      go_wp2
      go_ret
      refine ⟨false, rfl, (fun _ => ?_), (fun h => by cases h), rfl⟩
      have : k = m := by omega
      subst this
      exact hf.out

theorem named_zero (a : Option Addr) (n cap : Nat) (S : Nat → ByteArray) (t : ByteArray) (w : World) : Calls Try.prog 12 #[.slice a n cap, .int .i64 0, .string t] w fun e w' => NamedR S t 0 w e w' := by
  go_enter Try.func12, Try.ntmps12
  go_wp2
  refine wp_loop_rounds 1 ?_
  rw [rounds_succ]
  go_wp2
  go_ret
  exact ⟨false, rfl, (fun _ i hi => absurd hi (by omega)), (fun h => by cases h), rfl⟩

theorem named_any (B : Nat) (a : Option Addr) (n cap m : Nat) (S : Nat → ByteArray) (t : ByteArray) (w : World) (hs : RowAt B w a n (strV S)) (hn : n ≤ 65536) (hm : m ≤ n) :
    Calls Try.prog 12 #[.slice a n cap, .int .i64 m, .string t] w fun e w' => NamedR S t m w e w' := by
  rcases hs with rfl | ⟨b, off, rfl, _, hs⟩
  · obtain rfl : m = 0 := by omega
    exact named_zero a 0 cap S t w
  · exact named_some b off n cap m S t w hs hn hm
end Go.Proofs.Qxb6612910a
