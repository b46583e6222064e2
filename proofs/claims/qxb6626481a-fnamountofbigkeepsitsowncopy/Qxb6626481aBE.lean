import Derived.Test.Qxb6626481aBase
import Derived.Lib.EndianBits
namespace Go.Proofs.Qxb6626481a
open Go.RowKit

set_option maxHeartbeats 8000000 in
set_option maxRecDepth 100000 in
/-- internal/byteorder.BEUint64 at eight bytes. -/
theorem be64 (g o c : Nat) (b0 b1 b2 b3 b4 b5 b6 b7 : Int) (w : World)
    (h0 : 0 ≤ b0 ∧ b0 ≤ 255) (h1 : 0 ≤ b1 ∧ b1 ≤ 255) (h2 : 0 ≤ b2 ∧ b2 ≤ 255) (h3 : 0 ≤ b3 ∧ b3 ≤ 255) (h4 : 0 ≤ b4 ∧ b4 ≤ 255) (h5 : 0 ≤ b5 ∧ b5 ≤ 255) (h6 : 0 ≤ b6 ∧ b6 ≤ 255) (h7 : 0 ≤ b7 ∧ b7 ≤ 255)
    (c0 : w.cell? ⟨g, o, none⟩ = some (.int .u8 b0)) (c1 : w.cell? ⟨g, o + 1, none⟩ = some (.int .u8 b1)) (c2 : w.cell? ⟨g, o + 2, none⟩ = some (.int .u8 b2)) (c3 : w.cell? ⟨g, o + 3, none⟩ = some (.int .u8 b3)) (c4 : w.cell? ⟨g, o + 4, none⟩ = some (.int .u8 b4)) (c5 : w.cell? ⟨g, o + 5, none⟩ = some (.int .u8 b5)) (c6 : w.cell? ⟨g, o + 6, none⟩ = some (.int .u8 b6)) (c7 : w.cell? ⟨g, o + 7, none⟩ = some (.int .u8 b7)) :
    Calls Try.prog 34 #[.slice (some ⟨g, o, none⟩) 8 c] w fun e w' => e = .returned (.int .u64 (b7 + b6 * 256 + b5 * 65536 + b4 * 16777216 + b3 * 4294967296 + b2 * 1099511627776 + b1 * 281474976710656 + b0 * 72057594037927936)) ∧ ∃ n, w' = w.drewN n := by
  go_enter Try.func34, Try.ntmps34
  go_wp2
  go_quiet (fail)
  go_wp2
  go_ret
  refine ⟨?_, _, rfl⟩
  simp (disch := omega) only [u64_or8, u64_or16, u64_or24, u64_or32, u64_or40, u64_or48, u64_or56]
  rfl

/-- The number that eight bytes from place 'o' on spell, the greatest first. -/
def spell (f : Nat → Int) (o : Nat) : Int :=
  f (o + 7) + f (o + 6) * 256 + f (o + 5) * 65536 + f (o + 4) * 16777216 + f (o + 3) * 4294967296 + f (o + 2) * 1099511627776 + f (o + 1) * 281474976710656 + f o * 72057594037927936

theorem be64f (g o c N : Nat) (f : Nat → Int) (w : World) (hr : Row w g .u8 5 N f) (ho : o + 8 ≤ N) (hf : ∀ j, 0 ≤ f j ∧ f j ≤ 255) :
    Calls Try.prog 34 #[.slice (some ⟨g, o, none⟩) 8 c] w fun e w' => e = .returned (.int .u64 (spell f o)) ∧ ∃ n, w' = w.drewN n :=
  be64 g o c (f o) (f (o + 1)) (f (o + 2)) (f (o + 3)) (f (o + 4)) (f (o + 5)) (f (o + 6)) (f (o + 7)) w (hf _) (hf _) (hf _) (hf _) (hf _) (hf _) (hf _) (hf _)
    (hr.cell (by omega)) (hr.cell (by omega)) (hr.cell (by omega)) (hr.cell (by omega)) (hr.cell (by omega)) (hr.cell (by omega)) (hr.cell (by omega)) (hr.cell (by omega))

set_option maxHeartbeats 400000 in
/-- math/big.bigEndianWord at eight bytes of a row. -/
theorem bigEndianWord (g o c N : Nat) (f : Nat → Int) (w : World) (hr : Row w g .u8 5 N f) (ho : o + 8 ≤ N) (hf : ∀ j, 0 ≤ f j ∧ f j ≤ 255) :
    Calls Try.prog 31 #[.slice (some ⟨g, o, none⟩) 8 c] w fun e w' => e = .returned (.int .u64 (spell f o)) ∧ ∃ n, w' = w.drewN n := by
  go_enter Try.func31, Try.ntmps31
  go_wp2_with (go_at_call 34; refine (be64f g o c N f _ hr ho hf).mono ?_; rintro e w' ⟨rfl, n, rfl⟩)
  go_ret
  exact ⟨rfl, _, rfl⟩

theorem bew_at (g o L c N : Nat) (f : Nat → Int) (w : World) (hr : Row w g .u8 5 N f) (hL : L = 8) (ho : o + 8 ≤ N) (hf : ∀ j, 0 ≤ f j ∧ f j ≤ 255) :
    Calls Try.prog 31 #[.slice (some ⟨g, o, none⟩) L c] w fun e w' => e = .returned (.int .u64 (spell f o)) ∧ ∃ n, w' = w.drewN n := by
  subst hL
  exact bigEndianWord g o c N f w hr ho hf
end Go.Proofs.Qxb6626481a
