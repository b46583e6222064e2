import Derived.Test.Qxb6626481aCopy
import Derived.Deep.RegionWith
namespace Go.Proofs.Qxb6626481a
open Go.RowKit

set_option maxHeartbeats 1000000 in
/-- (*math/big.Int).Set of a new Int. -/
theorem Set_any (p q : Nat) (neg : Bool) (m : Nat → Int) (k : Nat) (w : World) (hp : Pair w p 38 (.bool false) (.slice none 0 0)) (h : Big w q neg m k) (hpq : p ≠ q) (h0 : 0 < k) (hl : k ≤ 131072) :
    Calls Try.prog 15 #[.pointer (some ⟨p, 0, none⟩), .pointer (some ⟨q, 0, none⟩)] w fun e w' =>
      e = .returned (.pointer (some ⟨p, 0, none⟩)) ∧ Big w' p neg m k ∧ w.grownBy w' (some p) := by
  obtain ⟨ao, cap, hq, hn⟩ := h
  rcases hn with ⟨_, h, _⟩ | ⟨g, N, f, rfl, hgq, hkN, hkc, hcap, hr, hf⟩
  · omega
  obtain ⟨j, hj, _, hjs, _⟩ := info_parts info38
  have hneq := neq_ptr_other (P := Try.prog) w (a := ⟨p, 0, none⟩) (b := ⟨q, 0, none⟩) Try.underlying24 hj (by simp [hjs]) (fun e => hpq (congrArg Addr.block e)) hp hq
  have c0 := hp.cell0
  have c1 := hp.cell1
  have d0 := hq.cell0
  have d1 := hq.cell1
  have HF : Hid (∀ j, j < k → f j = m j) := hf
  clear hf
  go_enter Try.func15, Try.ntmps15
  go_wp2
  go_region_with (go_at_call 26; refine (natset_any g k cap N f w.drew hr hkN h0 (by omega)).mono ?_; rintro e w1 ⟨c, hc1, hc2, rfl, hrow, hg⟩; have p1 := Pair.grown (w := w.drew) hp hg (by simp); have q1 := Pair.grown (w := w.drew) hq hg (by simp); have e0 := p1.cell0; have e1 := p1.cell1; have f1 := p1.frozen 1; have f0 := p1.frozen 0; have g0 := q1.cell0)
  all_goals
    have P1 : Hid (Pair w1 p 38 (.bool false) (.slice none 0 0)) := p1
    have hlt : p < w.heap.size := hp.lt
    have R1 : Hid (Row w1 w.heap.size .u64 53 c fun j => if j < k then f j else 0) := hrow
    have G1 : Hid (w.grownBy w1 none) := ⟨hg.os, hg.tape, hg.output, hg.size, hg.block⟩
    clear p1 q1 hrow hg
    go_wp2
    go_ret
    refine ⟨rfl, ⟨_, _, (P1.out.set1 _).set0 _, .inr ⟨w.heap.size, c, _, rfl, by omega, hc1, hc1, by omega, (R1.out.setCell_other (by simp; omega) _).setCell_other (by simp; omega) _, fun j hj => by simp [hj, HF.out j hj]⟩⟩, ?_⟩
    exact gb_trans (gb_trans (gb_weak G1.out _) (gb_set _ _ _ _)) (gb_set _ _ _ _)

set_option maxHeartbeats 400000 in
/-- (*math/big.Int).Abs of a new Int. -/
theorem Abs_any (p q : Nat) (neg : Bool) (m : Nat → Int) (k : Nat) (w : World) (hp : Pair w p 38 (.bool false) (.slice none 0 0)) (h : Big w q neg m k) (hpq : p ≠ q) (h0 : 0 < k) (hl : k ≤ 131072) :
    Calls Try.prog 27 #[.pointer (some ⟨p, 0, none⟩), .pointer (some ⟨q, 0, none⟩)] w fun e w' =>
      e = .returned (.pointer (some ⟨p, 0, none⟩)) ∧ Big w' p false m k ∧ w.grownBy w' (some p) := by
  go_enter Try.func27, Try.ntmps27
  go_wp2_with fail
  refine (Set_any p q neg m k _ hp h hpq h0 hl).mono ?_
  rintro e w1 ⟨rfl, ⟨ao, cap, hp1, hn1⟩, hg⟩
  have c0 := hp1.cell0
  have f0 := hp1.frozen 0
  have P1 : Hid (Pair w1 p 38 (.bool neg) (.slice ao k cap)) := hp1
  clear hp1
  go_wp2
  go_ret
  exact ⟨rfl, ⟨ao, cap, P1.out.set0 _, hn1.grown (gb_set w1 p 0 _) (.inr rfl)⟩, gb_trans hg (gb_set _ _ _ _)⟩
end Go.Proofs.Qxb6626481a
