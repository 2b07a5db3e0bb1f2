/-
  PLAIN LAWS ON THE BYTES OF A NUMBER: no Go in sight.
-/
import Derived.Test.Qxb6612988aBase
namespace Go.Proofs.Qxb6612988a

theorem byte_lt (v i : Nat) : byte v i < 256 := Nat.mod_lt _ (by decide)

theorem byte_xor (a b i : Nat) : byte (a ^^^ b) i = byte a i ^^^ byte b i := by
  unfold byte
  have e : 256 ^ i = 2 ^ (8 * i) := by rw [Nat.pow_mul]
  rw [e, ← Nat.shiftRight_eq_div_pow, ← Nat.shiftRight_eq_div_pow, ← Nat.shiftRight_eq_div_pow, Nat.shiftRight_xor_distrib]
  exact Nat.xor_mod_two_pow (n := 8)

/-- What is left of v from byte k on. -/
theorem hi_step (v k : Nat) : v / 256 ^ k = v / 256 ^ (k + 1) * 256 + byte v k := by
  unfold byte
  rw [Nat.pow_succ, ← Nat.div_div_eq_div_mul]
  omega

theorem hi_top (v : Nat) (hv : v < 18446744073709551616) : v / 256 ^ 8 = 0 := Nat.div_eq_of_lt (by simpa using hv)

theorem hi_eq (a b : Nat) (ha : a < 18446744073709551616) (hb : b < 18446744073709551616) : ∀ (d k : Nat), k + d = 8 → (∀ j, k ≤ j → j < 8 → byte a j = byte b j) → a / 256 ^ k = b / 256 ^ k
  | 0, k, hk, _ => by
    obtain rfl : k = 8 := by omega
    rw [hi_top a ha, hi_top b hb]
  | d + 1, k, hk, h => by
    rw [hi_step a k, hi_step b k, hi_eq a b ha hb d (k + 1) (by omega) (fun j h1 h2 => h j (by omega) h2), h k (Nat.le_refl _) (by omega)]

theorem eq_of_bytes (a b : Nat) (ha : a < 18446744073709551616) (hb : b < 18446744073709551616) (h : ∀ j, j < 8 → byte a j = byte b j) : a = b := by
  have := hi_eq a b ha hb 8 0 rfl (fun j _ hj => h j hj)
  simpa using this

theorem lt_of_bytes (a b : Nat) (ha : a < 18446744073709551616) (hb : b < 18446744073709551616) (k : Nat) (hk : k < 8) (hl : byte a k < byte b k) (h : ∀ j, k < j → j < 8 → byte a j = byte b j) : a < b := by
  have e := hi_eq a b ha hb (7 - k) (k + 1) (by omega) (fun j h1 h2 => h j (by omega) h2)
  have h1 := hi_step a k
  have h2 := hi_step b k
  rw [e] at h1
  have h3 : a / 256 ^ k < b / 256 ^ k := by omega
  rcases Nat.lt_or_ge a b with h4 | h4
  · exact h4
  · have := Nat.div_le_div_right (c := 256 ^ k) h4
    omega

/-- 'y << 8 | c' where nothing overflows. -/
theorem or_step (y c : Nat) (hc : c < 256) : (y * 256) ||| c = y * 256 + c := by
  have := Nat.two_pow_add_eq_or_of_lt (i := 8) (b := c) (by simpa using hc) y
  rw [Nat.mul_comm]
  exact this.symm
end Go.Proofs.Qxb6612988a
