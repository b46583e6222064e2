import Derived.Test.Qxb6626481aHolds
namespace Go.Proofs.Qxb6626481a
open Go.RowKit

/-- The test 'it is an int64', as 'holds' writes it, says no. -/
theorem not_i64 (neg : Bool) (x : Int) (k : Nat) (h : isI64 neg x k = false) (hk : k = 1) : (neg = false → ¬ x ≤ 9223372036854775807) ∧ (neg = true → ¬ x ≤ 9223372036854775808) := by
  subst hk
  simp only [isI64, Nat.le_refl, decide_true, Bool.true_and, Bool.or_eq_false_iff, decide_eq_false_iff_not, Bool.and_eq_false_iff, beq_eq_false_iff_ne] at h
  refine ⟨fun _ => h.1, fun e => ?_⟩
  rcases h.2 with h2 | h2
  · rw [e] at h2; cases h2
  · omega

set_option maxHeartbeats 2000000 in
theorem holds_big (neg : Bool) (q : Nat) (ao : Option Addr) (n cap k : Nat) (m : Nat → Int) (w : World) (hs : Src w ao n m) (hm : Words m) (hk : IsNrm m n k) (hl : n ≤ 131072) (h0 : 0 < k) (hi : isI64 neg (m 0) k = false) (hb : Big w q neg m k) :
    Calls Try.prog 8 #[.agg #[.int .i64 0, .pointer (some ⟨q, 0, none⟩)], .bool false, .bool neg, .slice ao n cap] w fun e w' => e = .returned (.bool true) ∧ w.grownBy w' none := by
  have HK : Hid (IsNrm m n k) := hk
  have hkn := hk.le
  clear hk
  go_enter Try.func8, Try.ntmps8
  go_wp2_with fail
  refine (AInt64_big _ _ _).mono ?_
  rintro e w1 ⟨rfl, hg1⟩
  have b1 := (Pair.made w 27 (.int .i64 0) (.pointer (some ⟨q, 0, none⟩))).grown hg1 (by simp)
  have c0 := b1.cell0
  have c1 := b1.cell1
  have G1 := gb_trans (gb_alloc w (.cells #[.int .i64 0, .pointer (some ⟨q, 0, none⟩)] 27) none) hg1
  have B1 := hb.grown G1
  clear b1 hg1
  go_wp2_with fail
  refine (ZPart_big 0 q neg m k _ B1 hm h0 (by omega) (HK.out.top h0)).mono ?_
  rintro e w2 ⟨g2, cg, rfl, hrow2, hg2⟩
  have G2 := gb_trans G1 hg2
  have S2 := hs.grown G2
  clear c0 c1 G1 hg2
  rcases S2 with ⟨_, h⟩ | ⟨g, rfl, hr⟩
  · omega
  go_wp2_with fail
  go_loop [14] (fun i => ∃ j : Nat, j ≤ n ∧ i = .int .i64 j ∧ ∀ i, j ≤ i → i < n → m i = 0) (fun i => (intOf i).toNat)
  case atStart => exact ⟨n, Nat.le_refl _, rfl, fun j h1 h2 => by omega⟩
  case round =>
    obtain ⟨j, hj, rfl, hz⟩ := hrel
    have HZ : Hid (∀ i, j ≤ i → i < n → m i = 0) := hz
    clear hz
    by_cases hj0 : j = 0
    · subst hj0
      exact absurd (HZ.out (k - 1) (by omega) (by omega)) (HK.out.top (by omega))
    · obtain ⟨q', rfl⟩ : ∃ q, j = q + 1 := ⟨j - 1, by omega⟩
      have hc := hr.cell (j := q') (by omega)
      obtain ⟨x, hx⟩ : ∃ x, m q' = x := ⟨_, rfl⟩
      rw [hx] at hc
      have HX : Hid (m q' = x) := hx
      clear hx
      by_cases hx0 : x = 0
      · go_wp2
        go_round
        case rel =>
          refine ⟨q', by omega, rfl, fun i h1 h2 => ?_⟩
          by_cases e : i = q'
          · rw [e, HX.out, hx0]
          · exact HZ.out i (by omega) h2
        case measure => simp [intOf]
      · have hx1 : (x == 0) = false := beq_eq_false_iff_ne.2 hx0
        have hkk : k = q' + 1 := HK.out.uniq ⟨hj, HZ.out, fun _ => by rw [show q' + 1 - 1 = q' from rfl, HX.out]; exact hx0⟩
        subst hkk
        have hno := not_i64 neg (m 0) (q' + 1) hi
        have hc0 := hr.cell (j := 0) (by omega)
        obtain ⟨y, hy⟩ : ∃ y, m 0 = y := ⟨_, rfl⟩
        rw [hy] at hc0 hno
        clear hi hy
        by_cases hq0 : q' = 0
        · have h4 := hno (by omega)
          subst hq0
          cases neg with
          | false =>
            have h5 := h4.1 rfl
            have h6 : decide (y ≤ 9223372036854775807) = false := decide_eq_false h5
            clear h4 hno
            go_wp2_with fail
            go_loopw [16] (fun i wr => ∃ t : Nat, t ≤ 1 ∧ i = .int .i64 t ∧ ∃ d, wr = w2.drewN d) (fun i _ => 1 - (intOf i).toNat)
            case atStart => exact ⟨0, Nat.zero_le _, rfl, 0, rfl⟩
            case round =>
              obtain ⟨t, ht, rfl, d, rfl⟩ := hrel
              by_cases htl : t < 1
              · have r1 := hr.cell (j := t) (by omega)
                have r2 := hrow2.cell (j := t) (by omega)
                obtain ⟨z, hz⟩ : ∃ z, m t = z := ⟨_, rfl⟩
                rw [hz] at r1 r2
                have r3 : (t : Int) < (n : Int) := by omega
                have r4 : t < n := by omega
                clear hz
                go_wp2
                go_quiet (fail)
                go_wp2
                go_roundw
                case rel => exact ⟨t + 1, by omega, by go_num, _, rfl⟩
                case measure => simp [intOf]; omega
              · go_wp2
                go_ret
                exact ⟨rfl, gb_trans G2 (gb_drewN _ _ _)⟩
          | true =>
            have h5 := h4.2 rfl
            have h6 : decide (y ≤ 9223372036854775808) = false := decide_eq_false h5
            clear h4 hno
            go_wp2_with fail
            go_loopw [16] (fun i wr => ∃ t : Nat, t ≤ 1 ∧ i = .int .i64 t ∧ ∃ d, wr = w2.drewN d) (fun i _ => 1 - (intOf i).toNat)
            case atStart => exact ⟨0, Nat.zero_le _, rfl, 0, rfl⟩
            case round =>
              obtain ⟨t, ht, rfl, d, rfl⟩ := hrel
              by_cases htl : t < 1
              · have r1 := hr.cell (j := t) (by omega)
                have r2 := hrow2.cell (j := t) (by omega)
                obtain ⟨z, hz⟩ : ∃ z, m t = z := ⟨_, rfl⟩
                rw [hz] at r1 r2
                have r3 : (t : Int) < (n : Int) := by omega
                have r4 : t < n := by omega
                clear hz
                go_wp2
                go_quiet (fail)
                go_wp2
                go_roundw
                case rel => exact ⟨t + 1, by omega, by go_num, _, rfl⟩
                case measure => simp [intOf]; omega
              · go_wp2
                go_ret
                exact ⟨rfl, gb_trans G2 (gb_drewN _ _ _)⟩
        · have h5 : ((q' : Int) + 1 == 1) = false := beq_eq_false_iff_ne.2 (by omega)
          clear hno
          go_wp2_with fail
          go_loopw [16] (fun i wr => ∃ t : Nat, t ≤ (q' + 1) ∧ i = .int .i64 t ∧ ∃ d, wr = w2.drewN d) (fun i _ => (q' + 1) - (intOf i).toNat)
          case atStart => exact ⟨0, Nat.zero_le _, rfl, 0, rfl⟩
          case round =>
            obtain ⟨t, ht, rfl, d, rfl⟩ := hrel
            by_cases htl : t < (q' + 1)
            · have r1 := hr.cell (j := t) (by omega)
              have r2 := hrow2.cell (j := t) (by omega)
              obtain ⟨z, hz⟩ : ∃ z, m t = z := ⟨_, rfl⟩
              rw [hz] at r1 r2
              have r3 : (t : Int) < (n : Int) := by omega
              have r4 : t < n := by omega
              clear hz
              go_wp2
              go_quiet (fail)
              go_wp2
              go_roundw
              case rel => exact ⟨t + 1, by omega, by go_num, _, rfl⟩
              case measure => simp [intOf]; omega
            · go_wp2
              go_ret
              exact ⟨rfl, gb_trans G2 (gb_drewN _ _ _)⟩
end Go.Proofs.Qxb6626481a
