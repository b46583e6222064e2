import Derived.Test.Qxb6626481aSetB
namespace Go.Proofs.Qxb6626481a
open Go.RowKit

/-- Block 'p' holds just the two cells 'a' and 'b'. -/
def Pair (w : World) (p : Nat) (e : TypeId) (a b : Value) : Prop := w.heap[p]? = some (.cells #[a, b] e (0, 0))

theorem Pair.cell0 {w : World} {p : Nat} {e : TypeId} {a b : Value} (h : Pair w p e a b) : w.cell? ⟨p, 0, none⟩ = some a := by rw [cell_of_row w p 0 _ e (0, 0) h]; rfl
theorem Pair.cell1 {w : World} {p : Nat} {e : TypeId} {a b : Value} (h : Pair w p e a b) : w.cell? ⟨p, 1, none⟩ = some b := by rw [cell_of_row w p 1 _ e (0, 0) h]; rfl
theorem Pair.frozen {w : World} {p : Nat} {e : TypeId} {a b : Value} (h : Pair w p e a b) (j : Nat) : w.frozen? ⟨p, j, none⟩ = false := frozen_of_row w p j _ e h
theorem Pair.lt {w : World} {p : Nat} {e : TypeId} {a b : Value} (h : Pair w p e a b) : p < w.heap.size := by
  by_cases hl : p < w.heap.size
  · exact hl
  · unfold Pair at h; simp [Array.getElem?_eq_none (by omega : w.heap.size ≤ p)] at h
theorem Pair.grown {w w' : World} {p : Nat} {e : TypeId} {a b : Value} {row : Option Nat} (h : Pair w p e a b) (hg : w.grownBy w' row) (hne : some p ≠ row) : Pair w' p e a b :=
  (hg.block p h.lt hne).trans h
theorem Pair.alloc {w : World} {p : Nat} {e : TypeId} {a b : Value} (h : Pair w p e a b) (o : Obj) : Pair (w.alloc o) p e a b := (Below.heap_alloc w o p h.lt).trans h
theorem Pair.set0 {w : World} {p : Nat} {e : TypeId} {a b : Value} (h : Pair w p e a b) (a' : Value) : Pair (w.setCell ⟨p, 0, none⟩ a') p e a' b := by
  unfold Pair; rw [heap_setCell_same w p 0 _ e a' h]; rfl
theorem Pair.set1 {w : World} {p : Nat} {e : TypeId} {a b : Value} (h : Pair w p e a b) (b' : Value) : Pair (w.setCell ⟨p, 1, none⟩ b') p e a b' := by
  unfold Pair; rw [heap_setCell_same w p 1 _ e b' h]; rfl
theorem Pair.setCell_other {w : World} {p : Nat} {e : TypeId} {a b : Value} (h : Pair w p e a b) {x : Addr} (hx : p ≠ x.block) (v : Value) : Pair (w.setCell x v) p e a b :=
  (heap_setCell_other w x p v hx).trans h
theorem Pair.made (w : World) (e : TypeId) (a b : Value) : Pair (w.alloc (.cells #[a, b] e)) w.heap.size e a b := by
  exact heap_alloc_new w _

/-- A nat's slice value: nil and empty, or a row of its own block whose first 'k' words are 'm'. -/
def Nat' (w : World) (p : Nat) (ao : Option Addr) (k cap : Nat) (m : Nat → Int) : Prop :=
  (ao = none ∧ k = 0 ∧ cap = 0) ∨ ∃ g N f, ao = some ⟨g, 0, none⟩ ∧ g ≠ p ∧ k ≤ N ∧ k ≤ cap ∧ cap ≤ 200000 ∧ Row w g .u64 53 N f ∧ ∀ j, j < k → f j = m j

/-- Block 'p' is a big.Int: its sign 'neg', its magnitude the 'k' words 'm'. -/
def Big (w : World) (p : Nat) (neg : Bool) (m : Nat → Int) (k : Nat) : Prop :=
  ∃ ao cap, Pair w p 38 (.bool neg) (.slice ao k cap) ∧ Nat' w p ao k cap m

theorem Nat'.grown {w w' : World} {p : Nat} {ao : Option Addr} {k cap : Nat} {m : Nat → Int} {row : Option Nat} (h : Nat' w p ao k cap m) (hg : w.grownBy w' row) (hrow : row = none ∨ row = some p) : Nat' w' p ao k cap m := by
  rcases h with h | ⟨g, N, f, h1, h2, h3, h4, h5, h6, h7⟩
  · exact .inl h
  · refine .inr ⟨g, N, f, h1, h2, h3, h4, h5, h6.grown hg ?_, h7⟩
    rcases hrow with e | e <;> rw [e] <;> simp
    exact h2

theorem Big.grown {w w' : World} {p : Nat} {neg : Bool} {m : Nat → Int} {k : Nat} (h : Big w p neg m k) (hg : w.grownBy w' none) : Big w' p neg m k := by
  obtain ⟨ao, cap, h1, h2⟩ := h
  exact ⟨ao, cap, h1.grown hg (by simp), h2.grown hg (.inl rfl)⟩

set_option maxHeartbeats 400000 in
/-- (*math/big.Int).SetBytes of a new Int. -/
theorem SetBytes_any (p gb n : Nat) (f m : Nat → Int) (w : World) (hp : Pair w p 38 (.bool false) (.slice none 0 0)) (hr : Row w gb .u8 5 (8 * n) f) (hf : ∀ j, 0 ≤ f j ∧ f j ≤ 255) (h0 : 0 < n) (hl : n ≤ 131072)
    (hm : ∀ k, k < n → m k = spell f (8 * (n - 1 - k))) :
    Calls Try.prog 11 #[.pointer (some ⟨p, 0, none⟩), .slice (some ⟨gb, 0, none⟩) (8 * n) (8 * n)] w fun e w' =>
      e = .returned (.pointer (some ⟨p, 0, none⟩)) ∧ (∃ k, IsNrm m n k ∧ Big w' p false m k) ∧ w.grownBy w' (some p) := by
  have c0 := hp.cell0
  have c1 := hp.cell1
  have HM : Hid (∀ k, k < n → m k = spell f (8 * (n - 1 - k))) := hm
  clear hm
  have hlt := hp.lt
  go_enter Try.func11, Try.ntmps11
  go_wp2_with fail
  refine (setBytes_any gb n _ f m _ hr hf h0 hl rfl HM.out).mono ?_
  rintro e w1 ⟨k, c, hk, hc1, hc2, rfl, hrow, hg⟩
  have p1 := hp.grown hg (by simp)
  have d0 := p1.cell0
  have d1 := p1.cell1
  have f0 := p1.frozen 0
  have f1 := p1.frozen 1
  have P1 : Hid (Pair w1 p 38 (.bool false) (.slice none 0 0)) := p1
  clear p1
  go_wp2_with fail
  go_ret
  refine ⟨rfl, ⟨k, hk, _, _, (P1.out.set1 _).set0 _, .inr ⟨w.heap.size, c, _, rfl, by omega, by have := hk.le; omega, by have := hk.le; omega, by omega, (hrow.setCell_other (by simp; omega) _).setCell_other (by simp; omega) _, fun j hj => by simp; have := hk.le; omega⟩⟩, ?_⟩
  exact gb_trans (gb_trans (gb_weak hg _) (gb_set _ _ _ _)) (gb_set _ _ _ _)

theorem SetBytes_nil (p g c : Nat) (m : Nat → Int) (w : World) (hp : Pair w p 38 (.bool false) (.slice none 0 0)) :
    Calls Try.prog 11 #[.pointer (some ⟨p, 0, none⟩), .slice (some ⟨g, 0, none⟩) 0 c] w fun e w' =>
      e = .returned (.pointer (some ⟨p, 0, none⟩)) ∧ Big w' p false m 0 ∧ w.grownBy w' (some p) := by
  have c0 := hp.cell0
  have c1 := hp.cell1
  have f0 := hp.frozen 0
  have f1 := hp.frozen 1
  go_enter Try.func11, Try.ntmps11
  go_wp2_with (go_at_call 24; refine (setBytes_nil _ _ _).mono ?_; rintro e w' ⟨rfl, rfl⟩)
  go_ret
  exact ⟨rfl, ⟨_, _, (hp.set1 _).set0 _, .inl ⟨rfl, rfl, rfl⟩⟩, gb_trans (gb_set _ _ _ _) (gb_set _ _ _ _)⟩
end Go.Proofs.Qxb6626481a
