import Derived.Test.Qxb6626481aBase
namespace Go.Proofs.Qxb6626481a
open Go.RowKit

set_option maxHeartbeats 400000 in
/-- (math/big.nat).norm at a slice that is not nil. -/
theorem norm_any (g n cap N : Nat) (m : Nat → Int) (w : World) (hr : Row w g .u64 53 N m) (hn : n ≤ N) (hcap : n ≤ cap) (hl : cap ≤ 1000000) :
    Calls Try.prog 32 #[.slice (some ⟨g, 0, none⟩) n cap] w fun e w' => (∃ k, IsNrm m n k ∧ e = .returned (.slice (some ⟨g, 0, none⟩) k cap)) ∧ w' = w := by
  go_enter Try.func32, Try.ntmps32
  go_wp2
  go_loop [3] (fun i => ∃ k : Nat, k ≤ n ∧ i = .int .i64 k ∧ ∀ j, k ≤ j → j < n → m j = 0) (fun i => (intOf i).toNat)
  case atStart => exact ⟨n, Nat.le_refl _, rfl, fun j h1 h2 => by omega⟩
  case round =>
    obtain ⟨k, hk, rfl, hz⟩ := hrel
    have HZ : Hid (∀ j, k ≤ j → j < n → m j = 0) := hz
    clear hz
    by_cases hk0 : k = 0
    · subst hk0
      go_wp2
      go_ret
      exact ⟨⟨0, ⟨Nat.zero_le _, HZ.out, fun h => by omega⟩, rfl⟩, rfl⟩
    · obtain ⟨q, rfl⟩ : ∃ q, k = q + 1 := ⟨k - 1, by omega⟩
      have hc := hr.cell (j := q) (by omega)
      obtain ⟨x, hx⟩ : ∃ x, m q = x := ⟨_, rfl⟩
      rw [hx] at hc
      have HX : Hid (m q = x) := hx
      clear hx
      by_cases hx0 : x = 0
      · go_wp2
        go_round
        case rel =>
          refine ⟨q, by omega, rfl, fun j h1 h2 => ?_⟩
          by_cases e : j = q
          · rw [e, HX.out, hx0]
          · exact HZ.out j (by omega) h2
        case measure => simp [intOf]
      · have hx1 : (x == 0) = false := beq_eq_false_iff_ne.2 hx0
        go_wp2
        go_ret
        exact ⟨⟨q + 1, ⟨hk, HZ.out, fun _ => by rw [show q + 1 - 1 = q from rfl, HX.out]; exact hx0⟩, rfl⟩, rfl⟩

/-- (math/big.nat).norm at nil. -/
theorem norm_nil (w : World) :
    Calls Try.prog 32 #[.slice none 0 0] w fun e w' => e = .returned (.slice none 0 0) ∧ w' = w := by
  go_enter Try.func32, Try.ntmps32
  go_wp2
  go_loop [3] (fun i => i = .int .i64 0) (fun i => (intOf i).toNat)
  case atStart => rfl
  case round =>
    obtain rfl := hrel
    go_wp2
    go_ret
    exact ⟨rfl, rfl⟩

theorem make_nil (w : World) :
    Calls Try.prog 30 #[.slice none 0 0, .int .i64 0] w fun e w' => e = .returned (.slice none 0 0) ∧ w' = w := by
  go_enter Try.func30, Try.ntmps30
  go_wp2
  go_ret
  exact ⟨rfl, rfl⟩

theorem info53 : (Try.prog.info? 53).map (fun i => (i.zero, i.size, i.bytes)) = some (some (.int .u64 0), 1, 8) := by kernel_rfl

/-- (math/big.nat).make from nil: a new row of zeros. -/
theorem make_any (n : Nat) (w : World) (h0 : 0 < n) (hl : n ≤ 200000) :
    Calls Try.prog 30 #[.slice none 0 0, .int .i64 n] w fun e w' => ∃ c, n ≤ c ∧ c ≤ n + 4 ∧ e = .returned (.slice (some ⟨w.heap.size, 0, none⟩) n c) ∧ w' = w.alloc (.cells (madeCells #[.int .u64 0] c) 53) := by
  obtain ⟨i0, hi, hz0, hz1, hz2⟩ := info_parts info53
  by_cases h1 : n = 1
  · subst h1
    have hmk := fun w : World => run_make (P := Try.prog) w 36 53 i0 (.int .u64 0) Try.underlying36 hi hz0 .i64 .i64 1 1 (by omega) (by omega) (by rw [hz2]; omega) (by omega)
    simp only [hz1, Value.cells] at hmk
    go_enter Try.func30, Try.ntmps30
    go_wp2
    go_ret
    exact ⟨1, by omega, by omega, rfl, rfl⟩
  · have h2 : ((n : Int) == 1) = false := beq_eq_false_iff_ne.2 (by omega)
    have h3 : (0 : Int) < (n : Int) := by omega
    have hmk := fun w : World => run_make (P := Try.prog) w 36 53 i0 (.int .u64 0) Try.underlying36 hi hz0 .i64 .i64 n (n + 4) (by omega) (by omega) (by rw [hz2]; omega) (by omega)
    simp only [hz1, Value.cells] at hmk
    go_enter Try.func30, Try.ntmps30
    go_wp2
    go_ret
    exact ⟨n + 4, by omega, by omega, rfl, rfl⟩

theorem make_at (x : Int) (n : Nat) (hx : x = n) (w : World) (h0 : 0 < n) (hl : n ≤ 200000) :
    Calls Try.prog 30 #[.slice none 0 0, .int .i64 x] w fun e w' => ∃ c, n ≤ c ∧ c ≤ n + 4 ∧ e = .returned (.slice (some ⟨w.heap.size, 0, none⟩) n c) ∧ w' = w.alloc (.cells (madeCells #[.int .u64 0] c) 53) := by
  subst hx
  exact make_any n w h0 hl
end Go.Proofs.Qxb6626481a
