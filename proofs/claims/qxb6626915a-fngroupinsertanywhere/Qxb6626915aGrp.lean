import Derived.Test.Qxb6626915aIdx
namespace Go.Proofs.Qxb6626915a
open Go.RowKit

def kindB : ByteArray := ⟨#[65, 80, 73, 71, 114, 111, 117, 112]⟩
def apiB : ByteArray := ⟨#[118, 49]⟩
def stamp (g : GD) : GD := { g with kind := kindB, api := apiB }
def zeroG : GD := ⟨⟨#[]⟩, ⟨#[]⟩, ⟨#[]⟩, 0, fun _ => ⟨#[]⟩, fun _ => ⟨#[]⟩, ⟨#[]⟩, ⟨#[]⟩⟩

/-- What an index of the groups 'gs' answers to 'name'. -/
def AnsIs (gs : Nat → GD) (n : Nat) (name : ByteArray) (g : GD) (ok : Bool) : Prop :=
  (∃ k, k < n ∧ (gs k).name = name ∧ (∀ i, i < k → (gs i).name ≠ name) ∧ ok = true ∧ g = stamp (gs k)) ∨ ((∀ i, i < n → (gs i).name ≠ name) ∧ ok = false ∧ g = zeroG)

/-- A group as a value. -/
def gval (g : GD) (vo : Option Addr) (vc : Nat) : Value := .agg #[.string g.kind, .string g.api, .string g.name, .slice vo g.n vc, .string g.pgv, .string g.pv]

theorem newIndex_any (so : Option Addr) (n cap : Nat) (w : World) :
    Calls Try.prog 11 #[.slice so n cap] w fun e w' => e = .returned (.pointer (some ⟨w.heap.size, 0, none⟩)) ∧ w' = w.alloc (.cells #[.slice so n cap, .map none] 50) := by
  go_enter Try.func11, Try.ntmps11
  go_wp2
  go_ret
  exact ⟨rfl, rfl⟩

set_option maxHeartbeats 1000000 in
/-- (*Index).Group. -/
theorem Group_any (xb : Nat) (v : Value) (n : Nat) (gs : Nat → GD) (name : ByteArray) (w : World) (hx : w.cell? ⟨xb, 0, none⟩ = some v) (hv : RowNew w v n gs) (hl : n ≤ 1000000) :
    Calls Try.prog 12 #[.pointer (some ⟨xb, 0, none⟩), .string name] w fun e w' =>
      ∃ g ok vo vc, e = .returned (.tuple #[gval g vo vc, .bool ok]) ∧ AnsIs gs n name g ok ∧ VNew w' vo g.n g.gv g.ver ∧ w.grownBy w' none := by
  have hxl : xb < w.heap.size := block_lt_of_cell hx
  obtain ⟨w2, hw2⟩ : ∃ w2, w2 = (w.alloc (.cells #[.string name] 9)).alloc (.cells #[.string ⟨#[]⟩, .string ⟨#[]⟩, .string ⟨#[]⟩, .slice none 0 0, .string ⟨#[]⟩, .string ⟨#[]⟩] 38) := ⟨_, rfl⟩
  have hN : w2.cell? ⟨w.heap.size, 0, none⟩ = some (.string name) := by
    rw [cell_of_row w2 w.heap.size 0 #[.string name] 9 (0, 0) (by rw [hw2, Below.heap_alloc _ _ _ (by simp), heap_alloc_new])]; rfl
  have hR : w2.heap[w.heap.size + 1]? = some (.cells #[.string ⟨#[]⟩, .string ⟨#[]⟩, .string ⟨#[]⟩, .slice none 0 0, .string ⟨#[]⟩, .string ⟨#[]⟩] 38 (0, 0)) := by
    rw [hw2]; exact heap_alloc2_new w _ _
  have hG : w.grownBy w2 none := by rw [hw2]; exact gb_trans (gb_alloc _ _ _) (gb_alloc _ _ _)
  have HW : Hid (w2 = _) := hw2
  clear hw2
  obtain ⟨so, cap, rfl, hv'⟩ := id hv
  clear hv'
  go_enter Try.func12, Try.ntmps12
  go_wp2_with fail
  rw [← HW.out]
  refine (IndexFunc_any _ n gs w.heap.size name _ (hv.grown hG) hN hl).mono ?_
  rintro e w3 ⟨r, rfl, hf, hg3⟩
  have G3 := gb_trans hG hg3
  have bR : w3.heap[w.heap.size + 1]? = _ := (hg3.block _ (lt_of_block hR) (by simp)).trans hR
  have hlt3 : w.heap.size + 1 < w3.heap.size := lt_of_block bR
  have hx3 := cell_grown G3 hx
  obtain ⟨b0, b1, b2, b3, b4, b5⟩ := six_cells bR
  have q0 := frozen_of_row w3 (w.heap.size + 1) 0 _ 38 bR
  have q1 := frozen_of_row w3 (w.heap.size + 1) 1 _ 38 bR
  have q2 := frozen_of_row w3 (w.heap.size + 1) 2 _ 38 bR
  have q3 := frozen_of_row w3 (w.heap.size + 1) 3 _ 38 bR
  have q4 := frozen_of_row w3 (w.heap.size + 1) 4 _ 38 bR
  have q5 := frozen_of_row w3 (w.heap.size + 1) 5 _ 38 bR
  clear hR hN
  rcases hf with ⟨k, hk, rfl, hkn, hmin⟩ | ⟨rfl, hno⟩
  · obtain ⟨b, cap', vo, vc, hso, c0, c1, c2, c3, c4, c5, hvn⟩ := (hv.grown G3).cells hk
    obtain ⟨rfl, rfl⟩ : so = some ⟨b, 0, none⟩ ∧ cap = cap' := by simp at hso; exact hso
    obtain ⟨g, hgk⟩ : ∃ g, gs k = g := ⟨_, rfl⟩
    rw [hgk] at c0 c1 c2 c3 c4 c5 hvn
    have HA : Hid (AnsIs gs n name (stamp g) true) := .inl ⟨k, hk, hkn, hmin, rfl, by rw [hgk]⟩
    have hb : b < w3.heap.size := block_lt_of_cell c0
    have HB := heap_put6_whole w3 (w.heap.size + 1) (.string ⟨#[65, 80, 73, 71, 114, 111, 117, 112]⟩) (.string ⟨#[118, 49]⟩) (.string g.name) (.slice vo g.n vc) (.string g.pgv) (.string g.pv) bR
    have G4 := gb_put6 w3 (w.heap.size + 1) 0 (.string ⟨#[65, 80, 73, 71, 114, 111, 117, 112]⟩) (.string ⟨#[118, 49]⟩) (.string g.name) (.slice vo g.n vc) (.string g.pgv) (.string g.pv)
    have V4 := hvn.kept G4 (fun r hr => by cases hr; exact ⟨_, _, bR⟩)
    have G5 := gb_new G3 G4 (by omega)
    have HR := six_cells HB
    clear hso hgk hkn hmin hvn HB G4 bR
    simp only [put6, Nat.zero_add] at HR G5 V4
    have HR' : Hid _ := HR
    have V6 : Hid (∀ o, VNew _ vo g.n g.gv g.ver) := fun o => V4.grown (gb_alloc _ o none)
    have G6 : Hid (∀ o, w.grownBy _ none) := fun o => gb_trans G5 (gb_alloc _ o none)
    clear V4 G5 HR
    go_wp2
    obtain ⟨r0, r1, r2, r3, r4, r5⟩ := HR'.out
    refine bodyPost_ret (v := .tuple #[.agg #[.string ⟨#[65, 80, 73, 71, 114, 111, 117, 112]⟩, .string ⟨#[118, 49]⟩, .string g.name, .slice vo g.n vc, .string g.pgv, .string g.pv], .bool true]) (by simp [results, Try.results12, go_sem, r0, r1, r2, r3, r4, r5, hlt3]) rfl ⟨stamp g, true, vo, vc, rfl, HA.out, V6.out _, G6.out _⟩
  · have HA : Hid (AnsIs gs n name zeroG false) := .inr ⟨hno, rfl, rfl⟩
    have HB := heap_put6_whole w3 (w.heap.size + 1) (.string ⟨#[]⟩) (.string ⟨#[]⟩) (.string ⟨#[]⟩) (.slice none 0 0) (.string ⟨#[]⟩) (.string ⟨#[]⟩) bR
    have G4 := gb_new G3 (gb_put6 w3 (w.heap.size + 1) 0 (.string ⟨#[]⟩) (.string ⟨#[]⟩) (.string ⟨#[]⟩) (.slice none 0 0) (.string ⟨#[]⟩) (.string ⟨#[]⟩)) (by omega)
    obtain ⟨r0, r1, r2, r3, r4, r5⟩ := six_cells HB
    clear hno HB bR
    simp only [put6, Nat.zero_add] at r0 r1 r2 r3 r4 r5 G4
    go_wp2
    refine bodyPost_ret (v := .tuple #[.agg #[.string ⟨#[]⟩, .string ⟨#[]⟩, .string ⟨#[]⟩, .slice none 0 0, .string ⟨#[]⟩, .string ⟨#[]⟩], .bool false]) (by simp [results, Try.results12, go_sem, r0, r1, r2, r3, r4, r5]) rfl ⟨zeroG, false, none, 0, rfl, HA.out, .inl rfl, G4⟩
end Go.Proofs.Qxb6626915a
