import Derived.Test.Qxb6626481aPart
import Derived.BigRegion
import Derived.Test.Qxb6626481aBits
namespace Go.Proofs.Qxb6626481a
open Go.RowKit

set_option maxHeartbeats 400000 in
theorem ZPart_nil (x : Int) (w : World) :
    Calls Try.prog 17 #[.agg #[.int .i64 x, .pointer none]] w fun e w' => e = .returned (.tuple #[.bool false, .bool false, .slice none 0 0]) ∧ w.grownBy w' none := by
  go_enter Try.func17, Try.ntmps17
  go_wp2
  go_ret3
  exact ⟨rfl, gb_alloc _ _ _⟩

theorem w2grown (w : World) (g j : Nat) (v : Value) : w.grownBy (w.setCell ⟨g, j, none⟩ v).drew (some g) :=
  ⟨rfl, rfl, rfl, by simp, fun i _ hr => heap_setCell_other w _ i v (by simpa using hr)⟩

set_option maxHeartbeats 1000000 in
theorem ZPart_big (x : Int) (q : Nat) (neg : Bool) (m : Nat → Int) (k : Nat) (w : World) (h : Big w q neg m k) (hm : Words m) (h0 : 0 < k) (hl : k ≤ 131072) (htop : m (k - 1) ≠ 0) :
    Calls Try.prog 17 #[.agg #[.int .i64 x, .pointer (some ⟨q, 0, none⟩)]] w fun e w' =>
      ∃ g c, e = .returned (.tuple #[.bool true, .bool neg, .slice (some ⟨g, 0, none⟩) k c]) ∧ Row w' g .u64 33 k m ∧ w.grownBy w' none := by
  have hlt : q < w.heap.size := by obtain ⟨_, _, hp, _⟩ := h; exact hp.lt
  have hg : ∀ o, Big (w.alloc o) q neg m k := fun o => h.grown (gb_alloc _ _ _)
  have hz : ∀ o, (w.alloc o).heap.size = w.heap.size + 1 := fun o => by simp
  have hnew : Pair ((w.alloc (.cells #[.int .i64 x, .pointer (some ⟨q, 0, none⟩)] 27)).alloc (.cells #[.bool false, .slice none 0 0] 38)) (w.heap.size + 1) 38 (.bool false) (.slice none 0 0) := by
    have := Pair.made (w.alloc (.cells #[.int .i64 x, .pointer (some ⟨q, 0, none⟩)] 27)) 38 (.bool false) (.slice none 0 0)
    rwa [hz] at this
  have hres := (Pair.made w 27 (.int .i64 x) (.pointer (some ⟨q, 0, none⟩))).alloc (.cells #[.bool false, .slice none 0 0] 38)
  have HT : Hid (m (k - 1) ≠ 0) := htop
  clear htop
  go_enter Try.func17, Try.ntmps17
  go_wp2_with fail
  refine (Abs_any (w.heap.size + 1) q neg m k _ hnew ((hg _).grown (gb_alloc _ _ _)) (by omega) h0 hl).mono ?_
  rintro e w1 ⟨rfl, hbig1, hg1⟩
  have hres1 := hres.grown hg1 (by simp)
  have G1 : w.grownBy w1 none := gb_new (gb_trans (gb_alloc _ _ _) (gb_alloc _ _ _)) hg1 (by omega)
  have B1 : Big w1 q neg m k := h.grown G1
  clear hres hnew hg1
  go_wp2_with fail
  refine (Bytes_any (w.heap.size + 1) false m k _ hbig1 hm h0 hl HT.out).mono ?_
  rintro e w2 ⟨i0, hi0, rfl, hz0, hrow2, hg2⟩
  have hres2 := hres1.grown hg2 (by simp)
  have G2 : w.grownBy w2 none := gb_trans G1 hg2
  have B2 : Big w2 q neg m k := B1.grown hg2
  have c0 := hres2.cell0
  have c1 := hres2.cell1
  have HZ0 : Hid (∀ p, p < i0 → byt m (8 * k - 1 - p) = 0) := hz0
  have hmk := fun w : World => make_words ((((8 * k - i0 : Nat) : Int) + 7) / 8) k (by omega) (by omega) w
  clear hres1 hz0 hbig1 B1 G1 hg2
  go_wp2_with fail
  have hlt1 : w.heap.size < w2.heap.size := hres2.lt
  have hlt2 : w1.heap.size < w2.heap.size := hrow2.lt
  go_loopw [7, 8] (fun i _ wr => ∃ T : Nat, T ≤ 8 * k - i0 ∧ i = .int .i64 T ∧ Row wr w2.heap.size .u64 33 k (fun a => part (m a) (T - 8 * a)) ∧ w2.grownBy wr none) (fun i _ _ => 8 * k - (intOf i).toNat)
  case atStart => exact ⟨0, Nat.zero_le _, rfl, (Row.made w2 .u64 33 k).congr (fun a _ => by simp [part, Int.emod_one]), gb_alloc _ _ _⟩
  case round =>
    obtain ⟨T, hT, rfl, hrw, hgr⟩ := hrel
    by_cases hTl : T < 8 * k - i0
    · obtain ⟨a, t, ht, rfl⟩ : ∃ a t, t < 8 ∧ T = 8 * a + t := ⟨T / 8, T % 8, by omega, by omega⟩
      have hcb := (hrow2.grown hgr (by simp)).cell (j := i0 + (8 * k - i0 - 1 - (8 * a + t))) (by omega)
      rw [show 8 * k - 1 - (i0 + (8 * k - i0 - 1 - (8 * a + t))) = 8 * a + t from by omega, byt_at m a t ht] at hcb
      have hcm := hrw.cell (j := a) (by omega)
      rw [show 8 * a + t - 8 * a = t from by omega] at hcm
      have hfz := hrw.frozen a
      obtain ⟨y, hy⟩ : ∃ y, (m a / 256 ^ t) % 256 = y := ⟨_, rfl⟩
      obtain ⟨z, hz⟩ : ∃ z, part (m a) t = z := ⟨_, rfl⟩
      rw [hy] at hcb
      rw [hz] at hcm
      have hyb : 0 ≤ y ∧ y ≤ 255 := by omega
      have h1 : ((8 * a + t : Nat) : Int) / 8 = (a : Int) := by omega
      have h2 : ((8 * a + t : Nat) : Int) % 8 = (t : Int) := by omega
      have h3 : (8 * (a : Int) + (t : Int)) / 8 = (a : Int) := by omega
      have h4 : (8 * (a : Int) + (t : Int)) % 8 = (t : Int) := by omega
      have HY : Hid ((m a / 256 ^ t) % 256 = y) := hy
      have HZ : Hid (part (m a) t = z) := hz
      have HR : Hid (Row wr w2.heap.size .u64 33 k (fun b => part (m b) (8 * a + t - 8 * b))) := hrw
      clear hy hz hrw
      have hak : a < k := by omega
      go_wp2
      go_region
      go_wp2
      go_roundw
      case rel =>
        refine ⟨8 * a + t + 1, by omega, by go_num, ?_, gb_new hgr (w2grown wr _ a _) (Nat.le_refl _)⟩
        refine (HR.out.store a _ _ ?_ ?_ :)
        · rw [show 8 * a + t + 1 - 8 * a = t + 1 from by omega, ← HZ.out, ← HY.out]
          exact (or_part (m a) t ht).symm
        · intro b hb hne
          unfold part
          by_cases hba : b < a
          · rw [show min 8 (8 * a + t + 1 - 8 * b) = 8 from by omega, show min 8 (8 * a + t - 8 * b) = 8 from by omega]
          · rw [show 8 * a + t + 1 - 8 * b = 0 from by omega, show 8 * a + t - 8 * b = 0 from by omega]
      case measure => simp [intOf]; omega
    · obtain rfl : T = 8 * k - i0 := by omega
      have hfin : Row wr w2.heap.size .u64 33 k m := hrw.congr (fun a ha => (part_full m hm k i0 hi0 HZ0.out a ha).symm)
      have B3 := B2.grown hgr
      have d1 := (hres2.grown hgr (by simp)).cell1
      have G3 := gb_trans G2 hgr
      clear hrw
      cases neg with
      | false =>
        go_wp2_with (go_at_call 29; refine (Sign_any q false m k _ B3 h0).mono ?_; rintro e w' ⟨rfl, rfl⟩)
        go_ret3
        exact ⟨_, _, rfl, hfin, G3⟩
      | true =>
        go_wp2_with (go_at_call 29; refine (Sign_any q true m k _ B3 h0).mono ?_; rintro e w' ⟨rfl, rfl⟩)
        go_ret3
        exact ⟨_, _, rfl, hfin, G3⟩
end Go.Proofs.Qxb6626481a
