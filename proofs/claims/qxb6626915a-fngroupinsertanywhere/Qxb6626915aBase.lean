import Derived.Test.Qxb6626915aChecked
import Derived.WalkKit
import Derived.WalkSpells
import Derived.Deep.QuietTactic
import Derived.BigQuiet
import Derived.BigRegion
namespace Go.Proofs.Qxb6626915a
open Go.RowKit

/-! The frame: 'grownBy' (the kit's): new blocks, and writes to one block alone. -/
theorem gb_refl (w : World) (r : Option Nat) : w.grownBy w r := ⟨rfl, rfl, rfl, Nat.le_refl _, fun _ _ _ => rfl⟩
theorem gb_trans {a b c : World} {r : Option Nat} (h : a.grownBy b r) (k : b.grownBy c r) : a.grownBy c r :=
  ⟨k.os.trans h.os, k.tape.trans h.tape, k.output.trans h.output, Nat.le_trans h.size k.size, fun i hi hr => (k.block i (Nat.lt_of_lt_of_le hi h.size) hr).trans (h.block i hi hr)⟩
/-- A step that writes to a block that was not there at the beginning counts for nothing. -/
theorem gb_new {a b c : World} {r : Option Nat} {p : Nat} (h : a.grownBy b r) (k : b.grownBy c (some p)) (hp : a.heap.size ≤ p) : a.grownBy c r :=
  ⟨k.os.trans h.os, k.tape.trans h.tape, k.output.trans h.output, Nat.le_trans h.size k.size, fun i hi hr => (k.block i (Nat.lt_of_lt_of_le hi h.size) (by simp; omega)).trans (h.block i hi hr)⟩
theorem gb_weak {a b : World} (h : a.grownBy b none) (r : Option Nat) : a.grownBy b r :=
  ⟨h.os, h.tape, h.output, h.size, fun i hi _ => h.block i hi (by simp)⟩
theorem gb_step {a b c : World} {r : Option Nat} (h : a.grownBy b r) (k : b.grownBy c none) : a.grownBy c r := gb_trans h (gb_weak k r)
theorem gb_drewN (w : World) (n : Nat) (r : Option Nat) : w.grownBy (w.drewN n) r := ⟨rfl, rfl, rfl, Nat.le_refl _, fun _ _ _ => rfl⟩
theorem gb_alloc (w : World) (o : Obj) (r : Option Nat) : w.grownBy (w.alloc o) r := World.grownBy_alloc w o r
theorem gb_set (w : World) (g j : Nat) (v : Value) : w.grownBy (w.setCell ⟨g, j, none⟩ v) (some g) :=
  ⟨rfl, rfl, rfl, by simp, fun i _ hr => heap_setCell_other w _ i v (by simpa using hr)⟩
theorem gb_below {w w' : World} (h : w.grownBy w' none) : Below w.heap.size w w' := ⟨h.os, h.tape, h.output, h.size, fun k hk => h.block k hk (by simp)⟩


/-- Go's '==' on strings, as the walk writes it. -/
theorem str_eq (a : ByteArray) : (a.toList == a.toList) = true := beq_self_eq_true _
theorem str_ne {a b : ByteArray} (h : a ≠ b) : (a.toList == b.toList) = false := by
  rw [beq_eq_false_iff_ne]
  intro e
  rw [ByteArray.toList_eq, ByteArray.toList_eq] at e
  apply h
  cases a; cases b
  simpa using e

/-- What a group says (G and discovery.Group have one form): its strings, and the 'n' pairs of its versions. -/
structure GD where
  kind : ByteArray
  api : ByteArray
  name : ByteArray
  n : Nat
  gv : Nat → ByteArray
  ver : Nat → ByteArray
  pgv : ByteArray
  pv : ByteArray

/-- The versions 'gv', 'ver' lie where the slice (ao, n) leads. -/
def VAt (w : World) (ao : Option Addr) (n : Nat) (gv ver : Nat → ByteArray) : Prop :=
  n = 0 ∨ ∃ b o, ao = some ⟨b, o, none⟩ ∧ ∀ j, j < n → w.cell? ⟨b, o + j * 2, none⟩ = some (.string (gv j)) ∧ w.cell? ⟨b, o + j * 2 + 1, none⟩ = some (.string (ver j))

theorem cell_grown {w w' : World} {a : Addr} {v : Value} (hg : w.grownBy w' none) (h : w.cell? a = some v) : w'.cell? a = some v := hg.cell h (by simp)

theorem VAt.grown {w w' : World} {ao : Option Addr} {n : Nat} {gv ver : Nat → ByteArray} (h : VAt w ao n gv ver) (hg : w.grownBy w' none) : VAt w' ao n gv ver := by
  rcases h with h | ⟨b, o, h1, h2⟩
  · exact .inl h
  · exact .inr ⟨b, o, h1, fun j hj => ⟨cell_grown hg (h2 j hj).1, cell_grown hg (h2 j hj).2⟩⟩

/-- The group 'g' lies in six cells from place 'p' of block 'b' on. -/
def Six (w : World) (b p : Nat) (g : GD) : Prop :=
  w.cell? ⟨b, p, none⟩ = some (.string g.kind) ∧ w.cell? ⟨b, p + 1, none⟩ = some (.string g.api) ∧ w.cell? ⟨b, p + 2, none⟩ = some (.string g.name) ∧
  (∃ ao cap, w.cell? ⟨b, p + 3, none⟩ = some (.slice ao g.n cap) ∧ VAt w ao g.n g.gv g.ver) ∧ w.cell? ⟨b, p + 4, none⟩ = some (.string g.pgv) ∧ w.cell? ⟨b, p + 5, none⟩ = some (.string g.pv)

theorem Six.grown {w w' : World} {b p : Nat} {g : GD} (h : Six w b p g) (hg : w.grownBy w' none) : Six w' b p g := by
  obtain ⟨h0, h1, h2, ⟨ao, cap, h3, hv⟩, h4, h5⟩ := h
  exact ⟨cell_grown hg h0, cell_grown hg h1, cell_grown hg h2, ⟨ao, cap, cell_grown hg h3, hv.grown hg⟩, cell_grown hg h4, cell_grown hg h5⟩

/-- The groups 'gs' lie where the slice (ao, n) leads. -/
def GsAt (w : World) (ao : Option Addr) (n : Nat) (gs : Nat → GD) : Prop := n = 0 ∨ ∃ b o, ao = some ⟨b, o, none⟩ ∧ ∀ i, i < n → Six w b (o + i * 6) (gs i)

theorem GsAt.grown {w w' : World} {ao : Option Addr} {n : Nat} {gs : Nat → GD} (h : GsAt w ao n gs) (hg : w.grownBy w' none) : GsAt w' ao n gs := by
  rcases h with h | ⟨b, o, h1, h2⟩
  · exact .inl h
  · exact .inr ⟨b, o, h1, fun i hi => (h2 i hi).grown hg⟩

/-- The versions lie in a row of the call's own. -/
def VNew (w : World) (ao : Option Addr) (n : Nat) (gv ver : Nat → ByteArray) : Prop :=
  n = 0 ∨ ∃ (b : Nat) (cs : Array Value), ao = some ⟨b, 0, none⟩ ∧ w.heap[b]? = some (.cells cs 36 (0, 0)) ∧ ∀ j, j < n → cs[j * 2]? = some (.string (gv j)) ∧ cs[j * 2 + 1]? = some (.string (ver j))

theorem lt_of_block {w : World} {b : Nat} {o : Obj} (h : w.heap[b]? = some o) : b < w.heap.size := (Array.getElem?_eq_some_iff.1 h).1

theorem VNew.at {w : World} {ao : Option Addr} {n : Nat} {gv ver : Nat → ByteArray} (h : VNew w ao n gv ver) : VAt w ao n gv ver := by
  rcases h with h | ⟨b, cs, h1, h2, h3⟩
  · exact .inl h
  · exact .inr ⟨b, 0, h1, fun j hj => ⟨by rw [Nat.zero_add, cell_of_row w b _ cs 36 (0, 0) h2]; exact (h3 j hj).1, by rw [Nat.zero_add, cell_of_row w b _ cs 36 (0, 0) h2]; exact (h3 j hj).2⟩⟩

/-- .. stays there while new blocks are made and a row of groups is written. -/
theorem VNew.kept {w w' : World} {ao : Option Addr} {n : Nat} {gv ver : Nat → ByteArray} {row : Option Nat} (h : VNew w ao n gv ver) (hg : w.grownBy w' row)
    (hrow : ∀ r, row = some r → ∃ cs fr, w.heap[r]? = some (.cells cs 38 fr)) : VNew w' ao n gv ver := by
  rcases h with h | ⟨b, cs, h1, h2, h3⟩
  · exact .inl h
  · refine .inr ⟨b, cs, h1, ?_, h3⟩
    rw [hg.block b (lt_of_block h2), h2]
    intro e
    obtain ⟨cs', fr, h4⟩ := hrow b e.symm
    rw [h2] at h4
    simp at h4

theorem VNew.grown {w w' : World} {ao : Option Addr} {n : Nat} {gv ver : Nat → ByteArray} (h : VNew w ao n gv ver) (hg : w.grownBy w' none) : VNew w' ao n gv ver := h.kept hg (fun r hr => by cases hr)

theorem six_cells {w : World} {b : Nat} {e : TypeId} {c0 c1 c2 c3 c4 c5 : Value} (h : w.heap[b]? = some (.cells #[c0, c1, c2, c3, c4, c5] e (0, 0))) :
    w.cell? ⟨b, 0, none⟩ = some c0 ∧ w.cell? ⟨b, 1, none⟩ = some c1 ∧ w.cell? ⟨b, 2, none⟩ = some c2 ∧ w.cell? ⟨b, 3, none⟩ = some c3 ∧ w.cell? ⟨b, 4, none⟩ = some c4 ∧ w.cell? ⟨b, 5, none⟩ = some c5 := by
  refine ⟨?_, ?_, ?_, ?_, ?_, ?_⟩ <;> rw [cell_of_row w b _ _ e (0, 0) h] <;> rfl

/-- A world in which the six cells from place 'p' of block 'b' on have been written. -/
def put6 (w : World) (b p : Nat) (x0 x1 x2 x3 x4 x5 : Value) : World :=
  (((((w.setCell ⟨b, p, none⟩ x0).setCell ⟨b, p + 1, none⟩ x1).setCell ⟨b, p + 2, none⟩ x2).setCell ⟨b, p + 3, none⟩ x3).setCell ⟨b, p + 4, none⟩ x4).setCell ⟨b, p + 5, none⟩ x5

theorem gb_put6 (w : World) (b p : Nat) (x0 x1 x2 x3 x4 x5 : Value) : w.grownBy (put6 w b p x0 x1 x2 x3 x4 x5) (some b) :=
  gb_trans (gb_trans (gb_trans (gb_trans (gb_trans (gb_set _ _ _ _) (gb_set _ _ _ _)) (gb_set _ _ _ _)) (gb_set _ _ _ _)) (gb_set _ _ _ _)) (gb_set _ _ _ _)

theorem heap_put6 (w : World) (b p : Nat) (x0 x1 x2 x3 x4 x5 : Value) {cs : Array Value} {e : TypeId} (h : w.heap[b]? = some (.cells cs e (0, 0))) :
    (put6 w b p x0 x1 x2 x3 x4 x5).heap[b]? = some (.cells ((((((cs.setIfInBounds p x0).setIfInBounds (p + 1) x1).setIfInBounds (p + 2) x2).setIfInBounds (p + 3) x3).setIfInBounds (p + 4) x4).setIfInBounds (p + 5) x5) e (0, 0)) :=
  heap_setCell_same _ b _ _ e _ (heap_setCell_same _ b _ _ e _ (heap_setCell_same _ b _ _ e _ (heap_setCell_same _ b _ _ e _ (heap_setCell_same _ b _ _ e _ (heap_setCell_same w b _ cs e _ h)))))

theorem heap_put6_whole (w : World) (b : Nat) (x0 x1 x2 x3 x4 x5 : Value) {c0 c1 c2 c3 c4 c5 : Value} {e : TypeId} (h : w.heap[b]? = some (.cells #[c0, c1, c2, c3, c4, c5] e (0, 0))) :
    (put6 w b 0 x0 x1 x2 x3 x4 x5).heap[b]? = some (.cells #[x0, x1, x2, x3, x4, x5] e (0, 0)) := by
  rw [heap_put6 w b 0 x0 x1 x2 x3 x4 x5 h]
  rfl

/-- A group's six cells. -/
def cells6 (g : GD) (ao : Option Addr) (cap : Nat) : List Value := [.string g.kind, .string g.api, .string g.name, .slice ao g.n cap, .string g.pgv, .string g.pv]

/-- The group 'g' lies at place 'p' of the cells 'xs', its versions in a row of their own. -/
def SixL (w : World) (xs : List Value) (p : Nat) (g : GD) : Prop := ∃ ao cap, VNew w ao g.n g.gv g.ver ∧ ∀ j, j < 6 → xs[p + j]? = (cells6 g ao cap)[j]?

theorem SixL.kept {w w' : World} {xs : List Value} {p : Nat} {g : GD} {row : Option Nat} (h : SixL w xs p g) (hg : w.grownBy w' row)
    (hrow : ∀ r, row = some r → ∃ cs fr, w.heap[r]? = some (.cells cs 38 fr)) : SixL w' xs p g := by
  obtain ⟨ao, cap, h1, h2⟩ := h
  exact ⟨ao, cap, h1.kept hg hrow, h2⟩

/-- The slice value 'v' of 'n' groups 'gs', in a row of the call's own. -/
def RowNew (w : World) (v : Value) (n : Nat) (gs : Nat → GD) : Prop :=
  ∃ so cap, v = .slice so n cap ∧ (n = 0 ∨ ∃ (b : Nat) (cs : Array Value), so = some ⟨b, 0, none⟩ ∧ w.heap[b]? = some (.cells cs 38 (0, 0)) ∧ ∀ i, i < n → SixL w cs.toList (i * 6) (gs i))

theorem RowNew.grown {w w' : World} {v : Value} {n : Nat} {gs : Nat → GD} (h : RowNew w v n gs) (hg : w.grownBy w' none) : RowNew w' v n gs := by
  obtain ⟨so, cap, h1, h2⟩ := h
  refine ⟨so, cap, h1, ?_⟩
  rcases h2 with h | ⟨b, cs, h3, h4, h5⟩
  · exact .inl h
  · exact .inr ⟨b, cs, h3, by rw [hg.block b (lt_of_block h4) (by simp)]; exact h4, fun i hi => (h5 i hi).kept hg (fun r hr => by cases hr)⟩
end Go.Proofs.Qxb6626915a
