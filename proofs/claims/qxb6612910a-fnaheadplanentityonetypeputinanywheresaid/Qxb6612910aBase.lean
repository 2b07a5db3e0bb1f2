/-
  The ground for this seat: how slices of strings and of ints are said to lie in memory; the contracts of the small functions (25, 8, 27 to 34); the guards' loops (5, 6).
-/
import Derived.Test.Qxb6612910aRows
import Derived.WalkKit
import Derived.WalkSpells
import Derived.WalkLawsBesides
import Derived.Deep.QuietTactic
import Derived.BigQuiet
import Derived.Deep.RegionWith
import Derived.Handy
namespace Go.Proofs.Qxb6612910a
open Go.RowKit

/-- THE SLICE THAT BEGINS AT a HOLDS n CELLS, cell i being 'f i'; its block lies below B. (n = 0: nothing is said of a.) -/
def RowAt (B : Nat) (w : World) (a : Option Addr) (n : Nat) (f : Nat → Value) : Prop :=
  n = 0 ∨ ∃ b off, a = some ⟨b, off, none⟩ ∧ b < B ∧ ∀ i, i < n → w.cell? ⟨b, off + i, none⟩ = some (f i)

theorem RowAt.below {B : Nat} {w w' : World} {a : Option Addr} {n : Nat} {f : Nat → Value} (h : RowAt B w a n f) (hb : Below B w w') : RowAt B w' a n f := by
  rcases h with h | ⟨b, off, rfl, hB, hc⟩
  · exact Or.inl h
  · exact Or.inr ⟨b, off, rfl, hB, fun i hi => by rw [hb.cell (p := ⟨b, off + i, none⟩) hB]; exact hc i hi⟩

theorem RowAt.mono {B B' : Nat} {w : World} {a : Option Addr} {n : Nat} {f : Nat → Value} (h : RowAt B w a n f) (hb : B ≤ B') : RowAt B' w a n f := by
  rcases h with h | ⟨b, off, rfl, hB, hc⟩
  · exact Or.inl h
  · exact Or.inr ⟨b, off, rfl, by omega, hc⟩

def strV (S : Nat → ByteArray) (i : Nat) : Value := .string (S i)
def intV (Z : Nat → Int) (i : Nat) : Value := .int .i64 (Z i)

/-! ### zzStringsBytes -/
theorem strbytes_some (b off n cap : Nat) (S : Nat → ByteArray) (t : Int) (w : World) (hc : ∀ i, i < n → w.cell? ⟨b, off + i, none⟩ = some (.string (S i))) (hn : n ≤ 65536) (h0 : 0 ≤ t) (h1 : t ≤ 1048576) :
    Calls Try.prog 6 #[.slice (some ⟨b, off, none⟩) n cap, .int .i64 t] w fun e w' => ∃ r : Int, 0 ≤ r ∧ r ≤ 4000000 ∧ e = .returned (.int .i64 r) ∧ w' = w := by
  go_enter Try.func6, Try.ntmps6
  go_wp2
  go_loop [1, 5] (fun t i => ∃ k : Nat, ∃ x : Int, k ≤ n ∧ 0 ≤ x ∧ x ≤ 1048576 ∧ i = .int .i64 k ∧ t = .int .i64 x) (fun _ i => n - (intOf i).toNat)
  case atStart => exact ⟨0, t, Nat.zero_le _, h0, h1, rfl, rfl⟩
  case round =>
    obtain ⟨k, x, hk, hx0, hx1, rfl, rfl⟩ := hrel
    by_cases hlt : k < n
    · have hck := hc k hlt
      generalize S k = s at hck
      by_cases hs : (1048576 : Int) < (s.size : Int)
      · clear hc
        go_wp2
        go_ret
        exact ⟨_, by omega, by omega, rfl, rfl⟩
      · clear hc
        by_cases ht : (1048576 : Int) < x + (16 + (s.size : Int))
        · go_wp2
          go_ret
          exact ⟨_, by omega, by omega, rfl, rfl⟩
        · go_wp2
          go_round
          case rel => exact ⟨k + 1, x + (16 + (s.size : Int)), by omega, by omega, by omega, by go_num, by go_num⟩
          case measure => simp [intOf]; omega
    · go_wp2
      go_ret
      exact ⟨_, hx0, by omega, rfl, rfl⟩

theorem strbytes_zero (a : Option Addr) (cap : Nat) (t : Int) (w : World) (h0 : 0 ≤ t) (h1 : t ≤ 1048576) :
    Calls Try.prog 6 #[.slice a 0 cap, .int .i64 t] w fun e w' => ∃ r : Int, 0 ≤ r ∧ r ≤ 4000000 ∧ e = .returned (.int .i64 r) ∧ w' = w := by
  go_enter Try.func6, Try.ntmps6
  go_wp2
  refine wp_loop_rounds 1 ?_
  rw [rounds_succ]
  go_wp2
  go_ret
  exact ⟨_, h0, by omega, rfl, rfl⟩

theorem strbytes_any (B : Nat) (a : Option Addr) (n cap : Nat) (S : Nat → ByteArray) (t : Int) (w : World) (hc : RowAt B w a n (strV S)) (hn : n ≤ 65536) (h0 : 0 ≤ t) (h1 : t ≤ 1048576) :
    Calls Try.prog 6 #[.slice a n cap, .int .i64 t] w fun e w' => ∃ r : Int, 0 ≤ r ∧ r ≤ 4000000 ∧ e = .returned (.int .i64 r) ∧ w' = w := by
  rcases hc with rfl | ⟨b, off, rfl, _, hc⟩
  · exact strbytes_zero a cap t w h0 h1
  · exact strbytes_some b off n cap S t w hc hn h0 h1

/-! ### zzBytes_..: it answers; nothing is written -/
/-- It answers some bool; the world stands. -/
def SomeB (w : World) (e : Ending) (w' : World) : Prop := ∃ r : Bool, e = .returned (.bool r) ∧ w' = w

set_option maxHeartbeats 1000000 in
theorem bytes_some (b off n cap : Nat) (S : Nat → ByteArray) (a1 a2 : Option Addr) (n1 c1 n2 c2 : Nat) (s3 s4 s5 s6 s7 s9 : ByteArray) (x8 x10 x11 : Int) (w : World)
    (hc : ∀ i, i < n → w.cell? ⟨b, off + i, none⟩ = some (.string (S i))) (hn : n ≤ maxLen) (hn1 : n1 ≤ maxLen) (hn2 : n2 ≤ maxLen)
    (h3 : s3.size ≤ maxLen) (h4 : s4.size ≤ maxLen) (h5 : s5.size ≤ maxLen) (h6 : s6.size ≤ maxLen) (h7 : s7.size ≤ maxLen) (h9 : s9.size ≤ maxLen) (hS : ∀ i, i < n → (S i).size ≤ maxLen) :
    Calls Try.prog 5 #[.slice (some ⟨b, off, none⟩) n cap, .slice a1 n1 c1, .slice a2 n2 c2, .string s3, .string s4, .string s5, .string s6, .string s7, .int .i64 x8, .string s9, .int .i64 x10, .int .i64 x11] w
      fun e w' => SomeB w e w' := by
  unfold maxLen at *
  by_cases hbig : (1048576 : Int) < (n : Int)
  · clear hc hS
    go_enter Try.func5, Try.ntmps5
    go_wp2
    go_ret
    exact ⟨_, rfl, rfl⟩
  · go_enter Try.func5, Try.ntmps5
    go_wp2
    go_loop [25, 26] (fun t i => ∃ k : Nat, ∃ x : Int, k ≤ n ∧ 0 ≤ x ∧ x ≤ 1048576 ∧ i = .int .i64 k ∧ t = .int .i64 x) (fun _ i => n - (intOf i).toNat)
    case atStart => exact ⟨0, n, Nat.zero_le _, by omega, by omega, rfl, rfl⟩
    case round =>
      obtain ⟨k, x, hk, hx0, hx1, rfl, rfl⟩ := hrel
      by_cases hlt : k < n
      · have hck := hc k hlt
        have hsk := hS k hlt
        generalize S k = s at hck hsk
        clear hc hS
        by_cases hs : (1048576 : Int) < (s.size : Int)
        · go_wp2
          go_ret
          exact ⟨_, rfl, rfl⟩
        · by_cases ht : (1048576 : Int) < x + (s.size : Int)
          · go_wp2
            go_ret
            exact ⟨_, rfl, rfl⟩
          · go_wp2
            go_round
            case rel => exact ⟨k + 1, x + (s.size : Int), by omega, by omega, by omega, by go_num, by go_num⟩
            case measure => simp [intOf]; omega
      · clear hc hS
        go_wp2
        all_goals
          go_ret
          exact ⟨_, rfl, rfl⟩

set_option maxHeartbeats 1000000 in
theorem bytes_zero (a0 : Option Addr) (cap : Nat) (a1 a2 : Option Addr) (n1 c1 n2 c2 : Nat) (s3 s4 s5 s6 s7 s9 : ByteArray) (x8 x10 x11 : Int) (w : World)
    (hn1 : n1 ≤ maxLen) (hn2 : n2 ≤ maxLen)
    (h3 : s3.size ≤ maxLen) (h4 : s4.size ≤ maxLen) (h5 : s5.size ≤ maxLen) (h6 : s6.size ≤ maxLen) (h7 : s7.size ≤ maxLen) (h9 : s9.size ≤ maxLen) :
    Calls Try.prog 5 #[.slice a0 0 cap, .slice a1 n1 c1, .slice a2 n2 c2, .string s3, .string s4, .string s5, .string s6, .string s7, .int .i64 x8, .string s9, .int .i64 x10, .int .i64 x11] w
      fun e w' => SomeB w e w' := by
  unfold maxLen at *
  go_enter Try.func5, Try.ntmps5
  go_wp2
  refine wp_loop_rounds 1 ?_
  rw [rounds_succ]
  go_wp2
  all_goals
    go_ret
    exact ⟨_, rfl, rfl⟩

theorem bytes_any (B : Nat) (a0 : Option Addr) (n cap : Nat) (S : Nat → ByteArray) (a1 a2 : Option Addr) (n1 c1 n2 c2 : Nat) (s3 s4 s5 s6 s7 s9 : ByteArray) (x8 x10 x11 : Int) (w : World)
    (hc : RowAt B w a0 n (strV S)) (hn : n ≤ maxLen) (hn1 : n1 ≤ maxLen) (hn2 : n2 ≤ maxLen)
    (h3 : s3.size ≤ maxLen) (h4 : s4.size ≤ maxLen) (h5 : s5.size ≤ maxLen) (h6 : s6.size ≤ maxLen) (h7 : s7.size ≤ maxLen) (h9 : s9.size ≤ maxLen) (hS : ∀ i, i < n → (S i).size ≤ maxLen) :
    Calls Try.prog 5 #[.slice a0 n cap, .slice a1 n1 c1, .slice a2 n2 c2, .string s3, .string s4, .string s5, .string s6, .string s7, .int .i64 x8, .string s9, .int .i64 x10, .int .i64 x11] w
      fun e w' => SomeB w e w' := by
  rcases hc with rfl | ⟨b, off, rfl, _, hc⟩
  · exact bytes_zero a0 cap a1 a2 n1 c1 n2 c2 s3 s4 s5 s6 s7 s9 x8 x10 x11 w hn1 hn2 h3 h4 h5 h6 h7 h9
  · exact bytes_some b off n cap S a1 a2 n1 c1 n2 c2 s3 s4 s5 s6 s7 s9 x8 x10 x11 w hc hn hn1 hn2 h3 h4 h5 h6 h7 h9 hS
end Go.Proofs.Qxb6612910a
