import Derived.Test.Qxb6626481aChecked
import Derived.WalkKit
import Derived.Deep.QuietTactic
import Derived.BigQuiet
namespace Go.Proofs.Qxb6626481a
open Go.RowKit

/-- Block 'g' is a row of 'N' numbers of kind 'k', the j-th is 'f j'; nothing of it is frozen. -/
def Row (w : World) (g : Nat) (k : IntKind) (e : TypeId) (N : Nat) (f : Nat → Int) : Prop :=
  ∃ cs : Array Value, w.heap[g]? = some (.cells cs e (0, 0)) ∧ cs.size = N ∧ ∀ j, j < N → cs[j]? = some (.int k (f j))

theorem Row.cell {w : World} {g : Nat} {k : IntKind} {e : TypeId} {N : Nat} {f : Nat → Int} (h : Row w g k e N f) {j : Nat} (hj : j < N) : w.cell? ⟨g, j, none⟩ = some (.int k (f j)) := by
  obtain ⟨cs, hg, _, hc⟩ := h
  rw [cell_of_row w g j cs e (0, 0) hg]; exact hc j hj

theorem Row.frozen {w : World} {g : Nat} {k : IntKind} {e : TypeId} {N : Nat} {f : Nat → Int} (h : Row w g k e N f) (j : Nat) : w.frozen? ⟨g, j, none⟩ = false := by
  obtain ⟨cs, hg, _, _⟩ := h
  exact frozen_of_row w g j cs e hg

theorem Row.lt {w : World} {g : Nat} {k : IntKind} {e : TypeId} {N : Nat} {f : Nat → Int} (h : Row w g k e N f) : g < w.heap.size := by
  obtain ⟨cs, hg, _, _⟩ := h
  by_cases hl : g < w.heap.size
  · exact hl
  · simp [Array.getElem?_eq_none (by omega : w.heap.size ≤ g)] at hg

theorem Row.of_block {w w' : World} {g : Nat} {k : IntKind} {e : TypeId} {N : Nat} {f : Nat → Int} (h : Row w g k e N f) (hb : w'.heap[g]? = w.heap[g]?) : Row w' g k e N f := by
  obtain ⟨cs, hg, r⟩ := h
  exact ⟨cs, by rw [hb]; exact hg, r⟩

theorem Row.grown {w w' : World} {g : Nat} {k : IntKind} {e : TypeId} {N : Nat} {f : Nat → Int} {row : Option Nat} (h : Row w g k e N f) (hg : w.grownBy w' row) (hne : some g ≠ row) : Row w' g k e N f :=
  h.of_block (hg.block g h.lt hne)

theorem Row.alloc {w : World} {g : Nat} {k : IntKind} {e : TypeId} {N : Nat} {f : Nat → Int} (h : Row w g k e N f) (o : Obj) : Row (w.alloc o) g k e N f :=
  h.of_block (Below.heap_alloc w o g h.lt)

theorem Row.drewN {w : World} {g : Nat} {k : IntKind} {e : TypeId} {N : Nat} {f : Nat → Int} (h : Row w g k e N f) (n : Nat) : Row (w.drewN n) g k e N f := h

theorem Row.setCell_other {w : World} {g : Nat} {k : IntKind} {e : TypeId} {N : Nat} {f : Nat → Int} (h : Row w g k e N f) {a : Addr} (ha : g ≠ a.block) (v : Value) : Row (w.setCell a v) g k e N f :=
  h.of_block (heap_setCell_other w a g v ha)

theorem Row.store {w : World} {g : Nat} {k : IntKind} {e : TypeId} {N : Nat} {f : Nat → Int} (h : Row w g k e N f) (j : Nat) (x : Int) (f' : Nat → Int) (hj : f' j = x) (hf : ∀ i, i < N → i ≠ j → f' i = f i) :
    Row (w.setCell ⟨g, j, none⟩ (.int k x)) g k e N f' := by
  obtain ⟨cs, hg, hs, hc⟩ := h
  refine ⟨cs.setIfInBounds j (.int k x), heap_setCell_same w g j cs e _ hg, by simp [hs], fun i hi => ?_⟩
  by_cases hij : j = i
  · subst hij
    rw [Array.getElem?_setIfInBounds_self_of_lt (by omega), hj]
  · rw [Array.getElem?_setIfInBounds_ne hij, hc i hi, hf i hi (fun e => hij e.symm)]

theorem Row.congr {w : World} {g : Nat} {k : IntKind} {e : TypeId} {N : Nat} {f f' : Nat → Int} (h : Row w g k e N f) (hf : ∀ i, i < N → f' i = f i) : Row w g k e N f' := by
  obtain ⟨cs, hg, hs, hc⟩ := h
  exact ⟨cs, hg, hs, fun j hj => by rw [hc j hj, hf j hj]⟩

theorem Row.made (w : World) (k : IntKind) (e : TypeId) (N : Nat) : Row (w.alloc (.cells (madeCells #[.int k 0] N) e)) w.heap.size k e N (fun _ => 0) := by
  refine ⟨_, heap_alloc_new w _, size_madeCells _ _, fun j hj => ?_⟩
  have h := toList_madeCells_one (.int k 0) N
  rw [← Array.getElem?_toList, h]
  simp [hj]

/-! The frame: 'grownBy' (the kit's): new blocks, and writes to one block alone. -/
theorem gb_refl (w : World) (r : Option Nat) : w.grownBy w r := ⟨rfl, rfl, rfl, Nat.le_refl _, fun _ _ _ => rfl⟩
theorem gb_trans {a b c : World} {r : Option Nat} (h : a.grownBy b r) (k : b.grownBy c r) : a.grownBy c r :=
  ⟨k.os.trans h.os, k.tape.trans h.tape, k.output.trans h.output, Nat.le_trans h.size k.size, fun i hi hr => (k.block i (Nat.lt_of_lt_of_le hi h.size) hr).trans (h.block i hi hr)⟩
/-- A step that writes to a block that was not there at the beginning counts for nothing. -/
theorem gb_new {a b c : World} {r : Option Nat} {p : Nat} (h : a.grownBy b r) (k : b.grownBy c (some p)) (hp : a.heap.size ≤ p) : a.grownBy c r :=
  ⟨k.os.trans h.os, k.tape.trans h.tape, k.output.trans h.output, Nat.le_trans h.size k.size, fun i hi hr => (k.block i (Nat.lt_of_lt_of_le hi h.size) (by simp; omega)).trans (h.block i hi hr)⟩
theorem gb_weak {a b : World} (h : a.grownBy b none) (r : Option Nat) : a.grownBy b r :=
  ⟨h.os, h.tape, h.output, h.size, fun i hi _ => h.block i hi (by simp)⟩
theorem gb_step {a b c : World} {r : Option Nat} (h : a.grownBy b r) (k : b.grownBy c none) : a.grownBy c r := gb_trans h (gb_weak k r)
theorem gb_drewN (w : World) (n : Nat) (r : Option Nat) : w.grownBy (w.drewN n) r := ⟨rfl, rfl, rfl, Nat.le_refl _, fun _ _ _ => rfl⟩
theorem gb_alloc (w : World) (o : Obj) (r : Option Nat) : w.grownBy (w.alloc o) r := World.grownBy_alloc w o r
theorem gb_set (w : World) (g j : Nat) (v : Value) : w.grownBy (w.setCell ⟨g, j, none⟩ v) (some g) :=
  ⟨rfl, rfl, rfl, by simp, fun i _ hr => heap_setCell_other w _ i v (by simpa using hr)⟩
theorem gb_below {w w' : World} (h : w.grownBy w' none) : Below w.heap.size w w' := ⟨h.os, h.tape, h.output, h.size, fun k hk => h.block k hk (by simp)⟩

/-! The plain notions. -/
/-- 'k' is the length of the first 'n' words 'm' without the zero words at their upper end. -/
structure IsNrm (m : Nat → Int) (n k : Nat) : Prop where
  le : k ≤ n
  zero : ∀ j, k ≤ j → j < n → m j = 0
  top : 0 < k → m (k - 1) ≠ 0

theorem IsNrm.uniq {m : Nat → Int} {n k k' : Nat} (h : IsNrm m n k) (h' : IsNrm m n k') : k = k' := by
  rcases Nat.lt_trichotomy k k' with hlt | he | hlt
  · exact absurd (h.zero (k' - 1) (by omega) (by have := h'.le; omega)) (h'.top (by omega))
  · exact he
  · exact absurd (h'.zero (k - 1) (by omega) (by have := h.le; omega)) (h.top (by omega))

theorem IsNrm.congr {m m' : Nat → Int} {n k : Nat} (h : IsNrm m n k) (hm : ∀ j, j < n → m' j = m j) : IsNrm m' n k :=
  ⟨h.le, fun j h1 h2 => by rw [hm j h2]; exact h.zero j h1 h2, fun h0 => by rw [hm (k - 1) (by have := h.le; omega)]; exact h.top h0⟩

def Words (m : Nat → Int) : Prop := ∀ j, 0 ≤ m j ∧ m j ≤ 18446744073709551615
end Go.Proofs.Qxb6626481a
