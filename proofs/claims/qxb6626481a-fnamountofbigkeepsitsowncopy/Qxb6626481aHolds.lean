import Derived.Test.Qxb6626481aZPart
import Derived.Test.Qxb6626481aZBig
namespace Go.Proofs.Qxb6626481a
open Go.RowKit

set_option maxHeartbeats 400000 in
/-- (Amount).Int64. -/
theorem AInt64_nil (x : Int) (w : World) :
    Calls Try.prog 16 #[.agg #[.int .i64 x, .pointer none]] w fun e w' => e = .returned (.tuple #[.int .i64 x, .bool true]) ∧ w.grownBy w' none := by
  go_enter Try.func16, Try.ntmps16
  go_wp2
  go_quiet (fail)
  go_wp2
  go_ret2
  exact ⟨rfl, gb_trans (gb_alloc _ _ _) (gb_drewN _ _ _)⟩

set_option maxHeartbeats 400000 in
theorem AInt64_big (x : Int) (q : Nat) (w : World) :
    Calls Try.prog 16 #[.agg #[.int .i64 x, .pointer (some ⟨q, 0, none⟩)]] w fun e w' => e = .returned (.tuple #[.int .i64 x, .bool false]) ∧ w.grownBy w' none := by
  go_enter Try.func16, Try.ntmps16
  go_wp2
  go_quiet (fail)
  go_wp2
  go_ret2
  exact ⟨rfl, gb_trans (gb_alloc _ _ _) (gb_drewN _ _ _)⟩

set_option maxHeartbeats 1000000 in
theorem holds_zero (isNil neg : Bool) (ao : Option Addr) (n cap k : Nat) (m : Nat → Int) (w : World) (hs : Src w ao n m) (hk : IsNrm m n k) (hl : n ≤ 131072) (h0 : isNil = true ∨ k = 0) :
    Calls Try.prog 8 #[.agg #[.int .i64 0, .pointer none], .bool isNil, .bool neg, .slice ao n cap] w fun e w' => e = .returned (.bool true) ∧ w.grownBy w' none := by
  have HK : Hid (IsNrm m n k) := hk
  clear hk
  go_enter Try.func8, Try.ntmps8
  go_wp2_with fail
  refine (AInt64_nil _ _).mono ?_
  rintro e w1 ⟨rfl, hg1⟩
  have b1 := (Pair.made w 27 (.int .i64 0) (.pointer none)).grown hg1 (by simp)
  have c0 := b1.cell0
  have c1 := b1.cell1
  have G1 := gb_trans (gb_alloc w (.cells #[.int .i64 0, .pointer none] 27) none) hg1
  clear b1 hg1
  go_wp2_with fail
  refine (ZPart_nil _ _).mono ?_
  rintro e w2 ⟨rfl, hg2⟩
  have G2 := gb_trans G1 hg2
  have S2 := hs.grown G2
  clear c0 c1 G1 hg2
  go_wp2_with fail
  go_loop [14] (fun i => ∃ j : Nat, j ≤ n ∧ i = .int .i64 j ∧ ∀ i, j ≤ i → i < n → m i = 0) (fun i => (intOf i).toNat)
  case atStart => exact ⟨n, Nat.le_refl _, rfl, fun j h1 h2 => by omega⟩
  case round =>
    obtain ⟨j, hj, rfl, hz⟩ := hrel
    have HZ : Hid (∀ i, j ≤ i → i < n → m i = 0) := hz
    clear hz
    by_cases hj0 : j = 0
    · subst hj0
      clear h0
      go_wp2
      all_goals
        go_ret
        exact ⟨rfl, G2⟩
    · obtain ⟨q, rfl⟩ : ∃ q, j = q + 1 := ⟨j - 1, by omega⟩
      rcases S2 with ⟨_, h⟩ | ⟨g, rfl, hr⟩
      · omega
      have hc := hr.cell (j := q) (by omega)
      obtain ⟨x, hx⟩ : ∃ x, m q = x := ⟨_, rfl⟩
      rw [hx] at hc
      have HX : Hid (m q = x) := hx
      clear hx
      by_cases hx0 : x = 0
      · go_wp2
        go_round
        case rel =>
          refine ⟨q, by omega, rfl, fun i h1 h2 => ?_⟩
          by_cases e : i = q
          · rw [e, HX.out, hx0]
          · exact HZ.out i (by omega) h2
        case measure => simp [intOf]
      · have hx1 : (x == 0) = false := beq_eq_false_iff_ne.2 hx0
        have hkk : k = q + 1 := HK.out.uniq ⟨hj, HZ.out, fun _ => by rw [show q + 1 - 1 = q from rfl, HX.out]; exact hx0⟩
        have hnil : isNil = true := by rcases h0 with h | h; exact h; omega
        subst hnil
        clear hkk h0
        go_wp2
        go_ret
        exact ⟨rfl, G2⟩

set_option maxHeartbeats 1000000 in
theorem holds_one (neg : Bool) (ao : Option Addr) (n cap : Nat) (m : Nat → Int) (w : World) (hs : Src w ao n m) (hm : Words m) (hk : IsNrm m n 1) (hl : n ≤ 131072) (hi : isI64 neg (m 0) 1 = true) :
    Calls Try.prog 8 #[.agg #[.int .i64 (i64Of neg (m 0)), .pointer none], .bool false, .bool neg, .slice ao n cap] w fun e w' => e = .returned (.bool true) ∧ w.grownBy w' none := by
  have HK : Hid (IsNrm m n 1) := hk
  have hn1 := hk.le
  clear hk
  obtain ⟨y, hy⟩ : ∃ y, i64Of neg (m 0) = y := ⟨_, rfl⟩
  rw [hy]
  have HY : Hid (i64Of neg (m 0) = y) := hy
  clear hy
  go_enter Try.func8, Try.ntmps8
  go_wp2_with fail
  refine (AInt64_nil _ _).mono ?_
  rintro e w1 ⟨rfl, hg1⟩
  have b1 := (Pair.made w 27 (.int .i64 y) (.pointer none)).grown hg1 (by simp)
  have c0 := b1.cell0
  have c1 := b1.cell1
  have G1 := gb_trans (gb_alloc w (.cells #[.int .i64 y, .pointer none] 27) none) hg1
  clear b1 hg1
  go_wp2_with fail
  refine (ZPart_nil _ _).mono ?_
  rintro e w2 ⟨rfl, hg2⟩
  have G2 := gb_trans G1 hg2
  have S2 := hs.grown G2
  clear c0 c1 G1 hg2
  rcases S2 with ⟨_, h⟩ | ⟨g, rfl, hr⟩
  · omega
  go_wp2_with fail
  go_loop [14] (fun i => ∃ j : Nat, j ≤ n ∧ i = .int .i64 j ∧ ∀ i, j ≤ i → i < n → m i = 0) (fun i => (intOf i).toNat)
  case atStart => exact ⟨n, Nat.le_refl _, rfl, fun j h1 h2 => by omega⟩
  case round =>
    obtain ⟨j, hj, rfl, hz⟩ := hrel
    have HZ : Hid (∀ i, j ≤ i → i < n → m i = 0) := hz
    clear hz
    by_cases hj0 : j = 0
    · subst hj0
      exact absurd (HZ.out 0 (by omega) (by omega)) (HK.out.top (by omega))
    · obtain ⟨q, rfl⟩ : ∃ q, j = q + 1 := ⟨j - 1, by omega⟩
      have hc := hr.cell (j := q) (by omega)
      obtain ⟨x, hx⟩ : ∃ x, m q = x := ⟨_, rfl⟩
      rw [hx] at hc
      have HX : Hid (m q = x) := hx
      clear hx
      by_cases hx0 : x = 0
      · go_wp2
        go_round
        case rel =>
          refine ⟨q, by omega, rfl, fun i h1 h2 => ?_⟩
          by_cases e : i = q
          · rw [e, HX.out, hx0]
          · exact HZ.out i (by omega) h2
        case measure => simp [intOf]
      · have hx1 : (x == 0) = false := beq_eq_false_iff_ne.2 hx0
        have hkk : 1 = q + 1 := HK.out.uniq ⟨hj, HZ.out, fun _ => by rw [show q + 1 - 1 = q from rfl, HX.out]; exact hx0⟩
        obtain rfl : q = 0 := by omega
        clear hkk
        have hxb := hm 0
        rw [HX.out] at hxb hi
        have HY2 : i64Of neg x = y := by rw [← HX.out]; exact HY.out
        cases neg with
        | false =>
          have h1 : x ≤ 9223372036854775807 := by simp [isI64] at hi; exact hi
          have h2 : wrap64 x = y := by rw [← HY2]; simp [i64Of]
          have h3 : y = x := by rw [← h2]; unfold wrap64; omega
          subst h3
          clear h2 HY2 hi HX
          go_wp2
          go_ret
          exact ⟨rfl, G2⟩
        | true =>
          have h1 : x ≤ 9223372036854775808 := by simp [isI64] at hi; omega
          have h2 : wrap64 (-(wrap64 x)) = y := by rw [← HY2]; simp [i64Of]
          clear HY2 hi HX
          go_wp2
          go_ret
          exact ⟨rfl, G2⟩
end Go.Proofs.Qxb6626481a
