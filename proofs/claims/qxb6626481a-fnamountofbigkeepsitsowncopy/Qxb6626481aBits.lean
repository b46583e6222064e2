import Derived.Test.Qxb6626481aBytes
import Derived.Lib.EndianBits
namespace Go.Proofs.Qxb6626481a
open Go.RowKit

theorem emod_join (x P : Int) (hP : 0 < P) : x % (P * 256) = x % P + (x / P % 256) * P := by
  have e1 := Int.mul_ediv_add_emod x P
  have e2 := Int.mul_ediv_add_emod (x / P) 256
  have l1 := Int.emod_nonneg x (by omega : P ≠ 0)
  have l2 := Int.emod_lt_of_pos x hP
  have l3 : 0 ≤ x / P % 256 ∧ x / P % 256 < 256 := by omega
  generalize x % P = r at *
  generalize x / P % 256 = s at *
  generalize hd : x / P / 256 = d at *
  have e3 : x = P * 256 * d + (r + s * P) := by
    rw [← e1, ← e2, Int.mul_add, Int.mul_comm s P, Int.mul_assoc]
    omega
  have b1 : 0 ≤ s * P := Int.mul_nonneg l3.1 (by omega)
  have b2 : s * P ≤ 255 * P := Int.mul_le_mul_of_nonneg_right (by omega) (by omega)
  rw [e3, Int.add_comm, Int.add_mul_emod_self_left]
  exact Int.emod_eq_of_lt (by omega) (by omega)

/-- The word 'x' as it is known after its first 't' bytes. -/
def part (x : Int) (t : Nat) : Int := x % 256 ^ (min 8 t)

theorem pow_256 (t : Nat) : (2 : Int) ^ (8 * t) = 256 ^ t := by
  rw [Int.pow_mul]
  rfl

theorem pow_le (t : Nat) (ht : t < 8) : (256 : Int) ^ t ≤ 72057594037927936 := by
  rcases (by omega : t = 0 ∨ t = 1 ∨ t = 2 ∨ t = 3 ∨ t = 4 ∨ t = 5 ∨ t = 6 ∨ t = 7) with h | h | h | h | h | h | h | h <;> subst h <;> decide

/-- One byte more: 'z | y << 8t'. -/
theorem or_part (x : Int) (t : Nat) (ht : t < 8) : bits .or .u64 (part x t) (IntKind.u64.wrap (((x / 256 ^ t) % 256) * 2 ^ (8 * t))) = part x (t + 1) := by
  have hp : (0 : Int) < 256 ^ t := Int.pow_pos (by omega)
  have hle := pow_le t ht
  unfold part
  rw [show min 8 t = t from by omega, show min 8 (t + 1) = t + 1 from by omega, pow_256 t, Int.pow_succ]
  have h2 := pow_256 t
  generalize hP : (256 : Int) ^ t = P at *
  rw [emod_join x P hp]
  have l1 := Int.emod_nonneg x (by omega : P ≠ 0)
  have l2 := Int.emod_lt_of_pos x hp
  have l3 : 0 ≤ x / P % 256 ∧ x / P % 256 < 256 := by omega
  generalize x % P = r at *
  generalize x / P % 256 = s at *
  have b1 : 0 ≤ s * P := Int.mul_nonneg l3.1 (by omega)
  have b2 : s * P ≤ 255 * P := Int.mul_le_mul_of_nonneg_right (by omega) (by omega)
  rw [u64_wrap_id _ b1 (by omega)]
  refine bits_join_low .u64 64 (by decide) wraps_u64 (8 * t) r (s * P) l1 (by rw [h2]; exact l2) (by omega) b1 ?_ (by omega)
  rw [h2]
  exact Int.mul_emod_left s P

theorem part_full (m : Nat → Int) (hm : Words m) (k i0 : Nat) (hi0 : i0 < 8) (hz : ∀ p, p < i0 → byt m (8 * k - 1 - p) = 0) (a : Nat) (ha : a < k) : part (m a) (8 * k - i0 - 8 * a) = m a := by
  have hw := hm a
  unfold part
  by_cases h : a + 1 < k
  · rw [show min 8 (8 * k - i0 - 8 * a) = 8 from by omega]
    exact Int.emod_eq_of_lt hw.1 (by omega)
  · rw [show min 8 (8 * k - i0 - 8 * a) = 8 - i0 from by omega]
    refine Int.emod_eq_of_lt hw.1 (small_of_bytes _ hw.1 (8 - i0) 8 (by omega) (fun t h1 h2 => ?_) (by omega))
    rw [← byt_at m a t h2]
    have := hz (7 - t) (by omega)
    rwa [show 8 * k - 1 - (7 - t) = 8 * a + t from by omega] at this
end Go.Proofs.Qxb6626481a
