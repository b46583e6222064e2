import Derived.Test.Qxb6626481aBase
namespace Go.Proofs.Qxb6626481a
open Go.RowKit

/-- The p-th byte of the words 'm', the least first. -/
def byt (m : Nat → Int) (p : Nat) : Int := (m (p / 8) / 256 ^ (p % 8)) % 256

theorem byt_at (m : Nat → Int) (q t : Nat) (ht : t < 8) : byt m (8 * q + t) = (m q / 256 ^ t) % 256 := by
  unfold byt
  rw [show (8 * q + t) / 8 = q from by omega, show (8 * q + t) % 8 = t from by omega]

theorem div_step (x : Int) (t : Nat) : x / 256 ^ (t + 1) = x / 256 ^ t / 256 := by
  have hp : (0 : Int) < 256 ^ t := Int.pow_pos (by omega)
  rw [Int.pow_succ, ← Int.ediv_ediv_of_nonneg (by omega)]

/-- A number below 256 ^ n is below 256 ^ d if its bytes from the d-th on are 0. -/
theorem small_of_bytes (x : Int) (h0 : 0 ≤ x) (d n : Nat) (hx : x < 256 ^ n) (hb : ∀ t, d ≤ t → t < n → (x / 256 ^ t) % 256 = 0) (hd : d ≤ n) : x < 256 ^ d := by
  induction n with
  | zero => rw [show d = 0 from by omega]; exact hx
  | succ n ih =>
    by_cases e : d = n + 1
    · rw [e]; exact hx
    · refine ih ?_ (fun t h1 h2 => hb t h1 (by omega)) (by omega)
      have hp : (0 : Int) < 256 ^ n := Int.pow_pos (by omega)
      have h1 := hb n (by omega) (by omega)
      have h2 : x / 256 ^ n < 256 := by
        rw [Int.ediv_lt_iff_lt_mul hp, Int.mul_comm]
        rw [Int.pow_succ] at hx
        exact hx
      have h3 : 0 ≤ x / 256 ^ n := Int.ediv_nonneg h0 (by omega)
      have h4 : x / 256 ^ n = 0 := by omega
      have e := Int.mul_ediv_add_emod x (256 ^ n)
      have l := Int.emod_lt_of_pos x hp
      rw [h4, Int.mul_zero] at e
      omega

theorem zero_of_bytes (x : Int) (h0 : 0 ≤ x) (h1 : x ≤ 18446744073709551615) (hb : ∀ t, t < 8 → (x / 256 ^ t) % 256 = 0) : x = 0 := by
  have := small_of_bytes x h0 0 8 (by omega) (fun t _ h => hb t h) (by omega)
  omega

/-- Fewer than eight bytes ahead of the first that is not 0, where the top word is not 0. -/
theorem lead_lt (m : Nat → Int) (k i : Nat) (hm : Words m) (h0 : 0 < k) (htop : m (k - 1) ≠ 0) (hz : ∀ p, p < i → byt m (8 * k - 1 - p) = 0) : i < 8 := by
  by_cases hi : i < 8
  · exact hi
  · exfalso
    have hb : ∀ t, t < 8 → (m (k - 1) / 256 ^ t) % 256 = 0 := fun t ht => by
      rw [← byt_at m (k - 1) t ht]
      have := hz (7 - t) (by omega)
      rwa [show 8 * k - 1 - (7 - t) = 8 * (k - 1) + t from by omega] at this
    have hw := hm (k - 1)
    exact htop (zero_of_bytes _ hw.1 hw.2 hb)

set_option maxHeartbeats 1000000 in
theorem natbytes_any (g gb k cap cb N : Nat) (f m : Nat → Int) (w : World) (hr : Row w g .u64 53 N f) (hkN : k ≤ N) (hkc : k ≤ cap) (hf : ∀ j, j < k → f j = m j) (hm : Words m) (h0 : 0 < k) (hl : k ≤ 131072)
    (hb : Row w gb .u8 5 (8 * k) (fun _ => 0)) (hne : g ≠ gb) (hcb : 8 * k ≤ cb) :
    Calls Try.prog 33 #[.slice (some ⟨g, 0, none⟩) k cap, .slice (some ⟨gb, 0, none⟩) (8 * k) cb] w fun e w' =>
      ∃ i : Nat, i ≤ 8 * k ∧ e = .returned (.int .i64 i) ∧ (∀ p, p < i → byt m (8 * k - 1 - p) = 0) ∧ (i < 8 * k → byt m (8 * k - 1 - i) ≠ 0) ∧ Row w' gb .u8 5 (8 * k) (fun p => byt m (8 * k - 1 - p)) ∧ w.grownBy w' (some gb) := by
  have HF : Hid (∀ j, j < k → f j = m j) := hf
  have HM : Hid (Words m) := hm
  clear hf hm
  go_enter Try.func33, Try.ntmps33
  go_wp2
  go_loopw [4, 6, 7, 12] (fun i _ _ x wr => ∃ q : Nat, q ≤ k ∧ x = .int .i64 q ∧ i = .int .i64 (8 * ((k - q : Nat) : Int)) ∧ Row wr gb .u8 5 (8 * k) (fun p => if 8 * k - 8 * q ≤ p then byt m (8 * k - 1 - p) else 0) ∧ w.grownBy wr (some gb)) (fun _ _ _ x _ => k - (intOf x).toNat)
  case atStart => exact ⟨0, Nat.zero_le _, rfl, by simp, hb.congr (fun p hp => by rw [if_neg (by omega)]), gb_refl _ _⟩
  case round =>
    obtain ⟨q, hq, rfl, rfl, hz, hg⟩ := hrel
    by_cases hlt : q < k
    · obtain ⟨d, hd⟩ : ∃ d, k - q = d + 1 := ⟨k - q - 1, by omega⟩
      rw [hd]
      have hc := (hr.grown hg (by simpa using hne)).cell (j := q) (by omega)
      rw [HF.out q hlt] at hc
      obtain ⟨x, hx⟩ : ∃ x, m q = x := ⟨_, rfl⟩
      have hxb := HM.out q
      rw [hx] at hc hxb
      have HX : Hid (m q = x) := hx
      have HZ : Hid (Row wr gb .u8 5 (8 * k) (fun p => if 8 * k - 8 * q ≤ p then byt m (8 * k - 1 - p) else 0)) := hz
      clear hx hz
      go_wp2
      go_loopw [4, 6, 7] (fun i d7 j wt => ∃ t : Nat, t ≤ 8 ∧ j = .int .i64 t ∧ i = .int .i64 (8 * ((d + 1 : Nat) : Int) - t) ∧ d7 = .int .u64 (x / 256 ^ t) ∧ Row wt gb .u8 5 (8 * k) (fun p => if 8 * k - 8 * q - t ≤ p then byt m (8 * k - 1 - p) else 0) ∧ w.grownBy wt (some gb)) (fun _ _ j _ => 8 - (intOf j).toNat)
      case atStart => exact ⟨0, by omega, rfl, by simp, by simp, HZ.out, hg⟩
      case round =>
        obtain ⟨t, ht, rfl, rfl, rfl, hz, hg⟩ := hrel
        by_cases htl : t < 8
        · have hbb := byt_at m q t htl
          rw [HX.out] at hbb
          have hp : (0 : Int) < 256 ^ t := Int.pow_pos (by omega)
          obtain ⟨y, hy⟩ : ∃ y, x / 256 ^ t = y := ⟨_, rfl⟩
          have hyb : 0 ≤ y ∧ y ≤ 18446744073709551615 := by
            subst hy
            exact ⟨Int.ediv_nonneg hxb.1 (by omega), Int.le_trans (Int.ediv_le_self _ hxb.1) hxb.2⟩
          rw [hy] at hbb ⊢
          have hfz := hz.frozen (8 * (d + 1) - t - 1)
          obtain ⟨v0, hcz⟩ : ∃ v, wr.cell? ⟨gb, 8 * (d + 1) - t - 1, none⟩ = some v := ⟨_, hz.cell (by omega)⟩
          have HY : Hid (x / 256 ^ t = y) := hy
          have HB : Hid (byt m (8 * q + t) = y % 256) := hbb
          have HZ : Hid (Row wr gb .u8 5 (8 * k) (fun p => if 8 * k - 8 * q - t ≤ p then byt m (8 * k - 1 - p) else 0)) := hz
          clear hy hbb hz
          go_wp2
          go_roundw
          case rel =>
            refine ⟨t + 1, by omega, by go_num, by go_num, ?_, ?_, gb_trans hg (gb_set _ _ _ _)⟩
            · rw [Int.pow_succ, ← Int.ediv_ediv_of_nonneg (by omega), HY.out]
            · refine HZ.out.store _ _ _ ?_ ?_
              · rw [if_pos (by omega), ← HB.out]
                congr 1
                omega
              · intro i hi hne
                by_cases h : 8 * k - 8 * q - t ≤ i
                · rw [if_pos h, if_pos (by omega)]
                · rw [if_neg h, if_neg (by omega)]
          case measure => simp [intOf]; omega
        · have h8 : t = 8 := by omega
          subst h8
          have HZ : Hid (Row wr gb .u8 5 (8 * k) (fun p => if 8 * k - 8 * q - 8 ≤ p then byt m (8 * k - 1 - p) else 0)) := hz
          clear hz
          go_wp2
          go_roundw
          case rel =>
            refine ⟨q + 1, by omega, by go_num, ?_, HZ.out.congr (fun p hp => ?_), hg⟩
            · rw [show k - (q + 1) = d from by omega]; go_num
            · by_cases h : 8 * k - 8 * q - 8 ≤ p
              · rw [if_pos h, if_pos (by omega)]
              · rw [if_neg h, if_neg (by omega)]
          case measure => simp [intOf]; omega
    · have hqk : q = k := by omega
      subst hqk
      have hz2 : Row wr gb .u8 5 (8 * q) (fun p => byt m (8 * q - 1 - p)) := hz.congr (fun p hp => by rw [if_pos (by omega)])
      have HZ : Hid (Row wr gb .u8 5 (8 * q) (fun p => byt m (8 * q - 1 - p))) := hz2
      clear hz hz2
      rw [Nat.sub_self]
      go_wp2
      go_loop [4] (fun i => ∃ n : Nat, n ≤ 8 * q ∧ i = .int .i64 n ∧ ∀ p, p < n → byt m (8 * q - 1 - p) = 0) (fun i => 8 * q - (intOf i).toNat)
      case atStart => exact ⟨0, Nat.zero_le _, rfl, fun p hp => by omega⟩
      case round =>
        obtain ⟨n, hn, rfl, hpz⟩ := hrel
        have HP : Hid (∀ p, p < n → byt m (8 * q - 1 - p) = 0) := hpz
        clear hpz
        by_cases hnl : n < 8 * q
        · have hcc := HZ.out.cell (j := n) hnl
          obtain ⟨y, hy⟩ : ∃ y, byt m (8 * q - 1 - n) = y := ⟨_, rfl⟩
          rw [hy] at hcc
          have HY : Hid (byt m (8 * q - 1 - n) = y) := hy
          clear hy
          by_cases hy0 : y = 0
          · go_wp2
            go_round
            case rel =>
              refine ⟨n + 1, by omega, by go_num, fun p hp => ?_⟩
              by_cases e : p = n
              · rw [e, HY.out, hy0]
              · exact HP.out p (by omega)
            case measure => simp [intOf]; omega
          · have hy1 : (y == 0) = false := beq_eq_false_iff_ne.2 hy0
            go_wp2
            go_ret
            exact ⟨n, hn, rfl, HP.out, fun _ => by rw [HY.out]; exact hy0, HZ.out, hg⟩
        · have hn8 : n = 8 * q := by omega
          subst hn8
          go_wp2
          go_ret
          exact ⟨8 * q, hn, rfl, HP.out, fun h => absurd h (by omega), HZ.out, hg⟩
end Go.Proofs.Qxb6626481a
