import Derived.Test.Qxb6626481aSet
namespace Go.Proofs.Qxb6626481a
open Go.RowKit

/-- A store into an Amount's block leaves a big.Int as it was. -/
theorem Big.store {w : World} {p q : Nat} {neg : Bool} {m : Nat → Int} {k : Nat} {x : Int} {b : Value} (h : Big w p neg m k) (h0 : 0 < k) (hq : Pair w q 27 (.int .i64 x) b) (j : Nat) (v : Value) : Big (w.setCell ⟨q, j, none⟩ v) p neg m k := by
  obtain ⟨ao, cap, hp, hn⟩ := h
  have hpq : p ≠ q := by
    intro e; subst e
    have e0 := hp.cell0
    rw [hq.cell0] at e0
    simp at e0
  rcases hn with ⟨_, hk, _⟩ | ⟨g, N, f, rfl, hgq, hkN, hkc, hcap, hr, hf⟩
  · omega
  have hg : g ≠ q := by
    intro e; subst e
    have e0 := hr.cell (j := 0) (by omega)
    rw [hq.cell0] at e0
    simp at e0
  exact ⟨_, cap, hp.setCell_other hpq _, .inr ⟨g, N, f, rfl, hgq, hkN, hkc, hcap, hr.setCell_other hg _, hf⟩⟩

set_option maxHeartbeats 400000 in
theorem Amount_nil (w : World) :
    Calls Try.prog 7 #[.pointer none] w fun e w' => e = .returned (.agg #[.int .i64 0, .pointer none]) ∧ w.grownBy w' none := by
  go_enter Try.func7, Try.ntmps7
  go_wp2
  exact bodyPost_ret (v := .agg #[.int .i64 0, .pointer none]) (by simp [results, Try.results7, go_sem]) rfl ⟨rfl, gb_alloc _ _ _⟩

set_option maxHeartbeats 400000 in
theorem Amount_small (p : Nat) (neg : Bool) (m : Nat → Int) (k : Nat) (w : World) (h : Big w p neg m k) (hm : Words m) (hs : isI64 neg (low m k) k = true) :
    Calls Try.prog 7 #[.pointer (some ⟨p, 0, none⟩)] w fun e w' => e = .returned (.agg #[.int .i64 (i64Of neg (low m k)), .pointer none]) ∧ w.grownBy w' none := by
  have hg : ∀ o, Big (w.alloc o) p neg m k := fun o => h.grown (gb_alloc _ _ _)
  go_enter Try.func7, Try.ntmps7
  go_wp2_with (first | (go_at_call 13; refine (IsInt64_any p neg m k _ (hg _) hm).mono ?_; rintro e w' ⟨rfl, rfl⟩; rw [hs]) | (go_at_call 14; refine (Int64_any p neg m k _ (hg _)).mono ?_; rintro e w' ⟨rfl, rfl⟩))
  exact bodyPost_ret (v := .agg #[.int .i64 (i64Of neg (low m k)), .pointer none]) (by simp [results, Try.results7, go_sem]) rfl ⟨rfl, gb_alloc _ _ _⟩

set_option maxHeartbeats 400000 in
theorem Amount_big (p : Nat) (neg : Bool) (m : Nat → Int) (k : Nat) (w : World) (h : Big w p neg m k) (hm : Words m) (hs : isI64 neg (low m k) k = false) (h0 : 0 < k) (hl : k ≤ 131072) :
    Calls Try.prog 7 #[.pointer (some ⟨p, 0, none⟩)] w fun e w' => ∃ q, e = .returned (.agg #[.int .i64 0, .pointer (some ⟨q, 0, none⟩)]) ∧ w.heap.size ≤ q ∧ Big w' q neg m k ∧ w.grownBy w' none := by
  have hg : ∀ o, Big (w.alloc o) p neg m k := fun o => h.grown (gb_alloc _ _ _)
  go_enter Try.func7, Try.ntmps7
  go_wp2_with (first | (go_at_call 13; refine (IsInt64_any p neg m k _ (hg _) hm).mono ?_; rintro e w' ⟨rfl, rfl⟩; rw [hs]))
  have hlt : p < w.heap.size := by obtain ⟨_, _, hp, _⟩ := h; exact hp.lt
  have hz : ∀ o, (w.alloc o).heap.size = w.heap.size + 1 := fun o => by simp
  have hnew : Pair ((w.alloc (.cells #[.int .i64 0, .pointer none] 27)).alloc (.cells #[.bool false, .slice none 0 0] 38)) (w.heap.size + 1) 38 (.bool false) (.slice none 0 0) := by
    have := Pair.made (w.alloc (.cells #[.int .i64 0, .pointer none] 27)) 38 (.bool false) (.slice none 0 0)
    rwa [hz] at this
  have hres := (Pair.made w 27 (.int .i64 0) (.pointer none)).alloc (.cells #[.bool false, .slice none 0 0] 38)
  refine (Set_any (w.heap.size + 1) p neg m k _ hnew ((hg _).grown (gb_alloc _ _ _)) (by omega) h0 hl).mono ?_
  rintro e w1 ⟨rfl, hbig, hg1⟩
  have hr1 := hres.grown hg1 (by simp)
  have c0 := hr1.cell0
  have c1 := hr1.cell1
  have f0 := hr1.frozen 0
  have f1 := hr1.frozen 1
  have R1 : Hid (Pair w1 w.heap.size 27 (.int .i64 0) (.pointer none)) := hr1
  clear hr1 hres hnew
  go_wp2
  have r := (R1.out.set0 (.int .i64 0)).set1 (.pointer (some ⟨w.heap.size + 1, 0, none⟩))
  have r0 := r.cell0
  have r1 := r.cell1
  refine bodyPost_ret (v := .agg #[.int .i64 0, .pointer (some ⟨w.heap.size + 1, 0, none⟩)]) (by simp [results, Try.results7, go_sem, r0, r1]) rfl ⟨w.heap.size + 1, rfl, by omega, (hbig.store h0 R1.out 0 _).store h0 (R1.out.set0 _) 1 _, ?_⟩
  exact gb_new (gb_new (gb_new (gb_trans (gb_alloc _ _ _) (gb_alloc _ _ _)) hg1 (by omega)) (gb_set _ _ _ _) (Nat.le_refl _)) (gb_set _ _ _ _) (Nat.le_refl _)
end Go.Proofs.Qxb6626481a
