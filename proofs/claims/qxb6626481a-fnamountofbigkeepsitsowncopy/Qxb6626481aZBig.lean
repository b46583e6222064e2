import Derived.Test.Qxb6626481aPart
import Derived.Test.Qxb6626481aBits
namespace Go.Proofs.Qxb6626481a
open Go.RowKit

/-- The magnitude as the law hands it on: nil, or a row of its own. -/
def Src (w : World) (ao : Option Addr) (n : Nat) (m : Nat → Int) : Prop := (ao = none ∧ n = 0) ∨ ∃ g, ao = some ⟨g, 0, none⟩ ∧ Row w g .u64 33 n m

theorem Src.grown {w w' : World} {ao : Option Addr} {n : Nat} {m : Nat → Int} (h : Src w ao n m) (hg : w.grownBy w' none) : Src w' ao n m := by
  rcases h with h | ⟨g, h1, h2⟩
  · exact .inl h
  · exact .inr ⟨g, h1, h2.grown hg (by simp)⟩

theorem join8 (x : Int) (h0 : 0 ≤ x) (h1 : x ≤ 18446744073709551615) :
    x = (x / 256 ^ 0) % 256 + (x / 256 ^ 1) % 256 * 256 + (x / 256 ^ 2) % 256 * 65536 + (x / 256 ^ 3) % 256 * 16777216 + (x / 256 ^ 4) % 256 * 4294967296 + (x / 256 ^ 5) % 256 * 1099511627776 + (x / 256 ^ 6) % 256 * 281474976710656 + (x / 256 ^ 7) % 256 * 72057594037927936 := by
  have e1 := emod_join x (256 ^ 0) (by decide)
  have e2 := emod_join x (256 ^ 1) (by decide)
  have e3 := emod_join x (256 ^ 2) (by decide)
  have e4 := emod_join x (256 ^ 3) (by decide)
  have e5 := emod_join x (256 ^ 4) (by decide)
  have e6 := emod_join x (256 ^ 5) (by decide)
  have e7 := emod_join x (256 ^ 6) (by decide)
  have e8 := emod_join x (256 ^ 7) (by decide)
  have e0 : x % (256 ^ 7 * 256) = x := Int.emod_eq_of_lt h0 (by omega)
  rw [e0] at e8
  generalize (x / 256 ^ 0) % 256 = a0 at *
  generalize (x / 256 ^ 1) % 256 = a1 at *
  generalize (x / 256 ^ 2) % 256 = a2 at *
  generalize (x / 256 ^ 3) % 256 = a3 at *
  generalize (x / 256 ^ 4) % 256 = a4 at *
  generalize (x / 256 ^ 5) % 256 = a5 at *
  generalize (x / 256 ^ 6) % 256 = a6 at *
  generalize (x / 256 ^ 7) % 256 = a7 at *
  simp only [Int.reducePow, Int.reduceMul, Int.emod_one] at e1 e2 e3 e4 e5 e6 e7 e8
  generalize x % 256 = r1 at *
  generalize x % 65536 = r2 at *
  generalize x % 16777216 = r3 at *
  generalize x % 4294967296 = r4 at *
  generalize x % 1099511627776 = r5 at *
  generalize x % 281474976710656 = r6 at *
  generalize x % 72057594037927936 = r7 at *
  omega

/-- The bytes of a magnitude, the greatest first, spell its words. -/
theorem spell_byt (m : Nat → Int) (hm : Words m) (n k : Nat) (hk : k < n) : m k = spell (fun p => byt m (8 * n - 1 - p)) (8 * (n - 1 - k)) := by
  have hw := hm k
  have hb : ∀ t, t < 8 → byt m (8 * n - 1 - (8 * (n - 1 - k) + (7 - t))) = (m k / 256 ^ t) % 256 := fun t ht => by
    rw [show 8 * n - 1 - (8 * (n - 1 - k) + (7 - t)) = 8 * k + t from by omega]
    exact byt_at m k t ht
  have b0 := hb 0 (by omega)
  have b1 := hb 1 (by omega)
  have b2 := hb 2 (by omega)
  have b3 := hb 3 (by omega)
  have b4 := hb 4 (by omega)
  have b5 := hb 5 (by omega)
  have b6 := hb 6 (by omega)
  have b7 := hb 7 (by omega)
  simp only [Nat.reduceSub, Nat.add_zero] at b0 b1 b2 b3 b4 b5 b6 b7
  unfold spell
  simp only [b0, b1, b2, b3, b4, b5, b6, b7]
  exact join8 (m k) hw.1 hw.2

theorem byt_range (m : Nat → Int) (p : Nat) : 0 ≤ byt m p ∧ byt m p ≤ 255 := by
  unfold byt
  omega

set_option maxHeartbeats 400000 in
theorem ZBig_nil (neg : Bool) (ao : Option Addr) (n cap : Nat) (w : World) :
    Calls Try.prog 6 #[.bool true, .bool neg, .slice ao n cap] w fun e w' => e = .returned (.pointer none) ∧ w' = w := by
  go_enter Try.func6, Try.ntmps6
  go_wp2
  go_ret
  exact ⟨rfl, rfl⟩

set_option maxHeartbeats 1000000 in
theorem ZBig_any (neg : Bool) (g n cap : Nat) (m : Nat → Int) (w : World) (hs : Row w g .u64 33 n m) (hm : Words m) (h0 : 0 < n) (hl : n ≤ 131072) :
    Calls Try.prog 6 #[.bool false, .bool neg, .slice (some ⟨g, 0, none⟩) n cap] w fun e w' =>
      ∃ p k, e = .returned (.pointer (some ⟨p, 0, none⟩)) ∧ IsNrm m n k ∧ Big w' p (decide (0 < k) && neg) m k ∧ w.grownBy w' none ∧ w.heap.size ≤ p := by
  have hmk := fun w : World => make_bytes (8 * (n : Int)) (8 * n) (by omega) (by omega) w
  have hgl := hs.lt
  have HM : Hid (Words m) := hm
  clear hm
  go_enter Try.func6, Try.ntmps6
  go_wp2
  go_loopw [8, 9, 10] (fun i _ _ wr => ∃ q : Nat, q ≤ n ∧ i = .int .i64 q ∧ Row wr w.heap.size .u8 5 (8 * n) (fun p => if 8 * n - 8 * q ≤ p then byt m (8 * n - 1 - p) else 0) ∧ w.grownBy wr none) (fun i _ _ _ => n - (intOf i).toNat)
  case atStart => exact ⟨0, Nat.zero_le _, rfl, (Row.made w .u8 5 (8 * n)).congr (fun p hp => by rw [if_neg (by omega)]), gb_alloc _ _ _⟩
  case round =>
    obtain ⟨q, hq, rfl, hz, hg⟩ := hrel
    by_cases hlt : q < n
    · have hc := (hs.grown hg (by simp)).cell (j := q) (by omega)
      obtain ⟨x, hx⟩ : ∃ x, m q = x := ⟨_, rfl⟩
      have hxb := HM.out q
      rw [hx] at hc hxb
      have HX : Hid (m q = x) := hx
      have HZ : Hid (Row wr w.heap.size .u8 5 (8 * n) (fun p => if 8 * n - 8 * q ≤ p then byt m (8 * n - 1 - p) else 0)) := hz
      clear hx hz
      go_wp2
      go_loopw [10] (fun j wt => ∃ t : Nat, t ≤ 8 ∧ j = .int .i64 t ∧ Row wt w.heap.size .u8 5 (8 * n) (fun p => if 8 * n - 8 * q - t ≤ p then byt m (8 * n - 1 - p) else 0) ∧ w.grownBy wt none) (fun j _ => 8 - (intOf j).toNat)
      case atStart => exact ⟨0, by omega, rfl, HZ.out, hg⟩
      case round =>
        obtain ⟨t, ht, rfl, hz, hg⟩ := hrel
        by_cases htl : t < 8
        · have hbb := byt_at m q t htl
          rw [HX.out] at hbb
          have hfz := hz.frozen (8 * n - 1 - (8 * q + t))
          obtain ⟨v0, hcz⟩ : ∃ v, wr.cell? ⟨w.heap.size, 8 * n - 1 - (8 * q + t), none⟩ = some v := ⟨_, hz.cell (by omega)⟩
          have HB : Hid (byt m (8 * q + t) = x / 256 ^ t % 256) := hbb
          have HZ : Hid (Row wr w.heap.size .u8 5 (8 * n) (fun p => if 8 * n - 8 * q - t ≤ p then byt m (8 * n - 1 - p) else 0)) := hz
          clear hbb hz
          go_wp2
          go_roundw
          case rel =>
            refine ⟨t + 1, by omega, by go_num, ?_, gb_new hg (gb_set _ _ _ _) (Nat.le_refl _)⟩
            refine HZ.out.store _ _ _ ?_ ?_
            · rw [if_pos (by omega), pow_256 t, ← HB.out]
              congr 1
              omega
            · intro i hi hne
              by_cases h : 8 * n - 8 * q - t ≤ i
              · rw [if_pos h, if_pos (by omega)]
              · rw [if_neg h, if_neg (by omega)]
          case measure => simp [intOf]; omega
        · have h8 : t = 8 := by omega
          subst h8
          have HZ : Hid (Row wr w.heap.size .u8 5 (8 * n) (fun p => if 8 * n - 8 * q - 8 ≤ p then byt m (8 * n - 1 - p) else 0)) := hz
          clear hz
          go_wp2
          go_roundw
          case rel =>
            refine ⟨q + 1, by omega, by go_num, HZ.out.congr (fun p hp => ?_), hg⟩
            by_cases h : 8 * n - 8 * q - 8 ≤ p
            · rw [if_pos h, if_pos (by omega)]
            · rw [if_neg h, if_neg (by omega)]
          case measure => simp [intOf]; omega
    · have hqk : q = n := by omega
      subst hqk
      have hz2 : Row wr w.heap.size .u8 5 (8 * q) (fun p => byt m (8 * q - 1 - p)) := hz.congr (fun p hp => by rw [if_pos (by omega)])
      have hsz := hg.size
      clear hz
      go_wp2_with fail
      refine (SetBytes_any wr.heap.size w.heap.size q (fun p => byt m (8 * q - 1 - p)) m _ (Pair.made wr 38 (.bool false) (.slice none 0 0)) (hz2.alloc _) (fun j => byt_range m _) h0 hl (fun k hk => spell_byt m HM.out q k hk)).mono ?_
      rintro e w1 ⟨rfl, ⟨k, hk, hbig⟩, hg1⟩
      have G1 := gb_new (gb_step hg (gb_alloc wr (.cells #[.bool false, .slice none 0 0] 38) none)) hg1 hsz
      clear hz2 hg1
      cases neg with
      | false =>
        go_wp2
        go_ret
        exact ⟨_, k, rfl, hk, by simpa using hbig, G1, hsz⟩
      | true =>
        go_wp2_with (go_at_call 12; refine (Neg_self wr.heap.size false m k _ hbig).mono ?_; rintro e w2 ⟨rfl, hbig2, hg2⟩)
        go_ret
        exact ⟨_, k, rfl, hk, by simpa using hbig2, gb_new G1 hg2 hsz, hsz⟩

set_option maxHeartbeats 1000000 in
theorem ZBig_zero (neg : Bool) (ao : Option Addr) (cap : Nat) (m : Nat → Int) (w : World) :
    Calls Try.prog 6 #[.bool false, .bool neg, .slice ao 0 cap] w fun e w' =>
      ∃ p, e = .returned (.pointer (some ⟨p, 0, none⟩)) ∧ Big w' p false m 0 ∧ w.grownBy w' none ∧ w.heap.size ≤ p := by
  have hmk := fun w : World => make_bytes 0 0 (by omega) (by omega) w
  go_enter Try.func6, Try.ntmps6
  go_wp2
  go_loop [8, 9, 10] (fun i _ _ => i = .int .i64 0) (fun _ _ _ => 0)
  case atStart => rfl
  case round =>
    obtain rfl := hrel
    go_wp2_with fail
    have hz : ∀ o, (w.alloc o).heap.size = w.heap.size + 1 := fun o => by simp
    have hnew : Pair ((w.alloc (.cells (madeCells #[.int .u8 0] 0) 5)).alloc (.cells #[.bool false, .slice none 0 0] 38)) (w.heap.size + 1) 38 (.bool false) (.slice none 0 0) := by
      have := Pair.made (w.alloc (.cells (madeCells #[.int .u8 0] 0) 5)) 38 (.bool false) (.slice none 0 0)
      rwa [hz] at this
    refine (SetBytes_nil (w.heap.size + 1) w.heap.size 0 m _ hnew).mono ?_
    rintro e w1 ⟨rfl, hbig, hg1⟩
    have G1 := gb_new (r := none) (gb_trans (gb_alloc w (.cells (madeCells #[.int .u8 0] 0) 5) none) (gb_alloc _ (.cells #[.bool false, .slice none 0 0] 38) none)) hg1 (by omega)
    clear hnew hg1
    cases neg with
    | false =>
      go_wp2
      go_ret
      exact ⟨_, rfl, hbig, G1, by omega⟩
    | true =>
      go_wp2_with (go_at_call 12; refine (Neg_self (w.heap.size + 1) false m 0 _ hbig).mono ?_; rintro e w2 ⟨rfl, hbig2, hg2⟩)
      go_ret
      exact ⟨_, rfl, by simpa using hbig2, gb_new G1 hg2 (by omega), by omega⟩
end Go.Proofs.Qxb6626481a
