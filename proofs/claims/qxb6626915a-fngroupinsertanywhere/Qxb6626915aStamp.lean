import Derived.Test.Qxb6626915aGrp
namespace Go.Proofs.Qxb6626915a
open Go.RowKit

set_option maxHeartbeats 1000000 in
/-- stamped. -/
theorem stamped_any (g : GD) (ao : Option Addr) (cap : Nat) (w : World) (hv : VAt w ao g.n g.gv g.ver) (hl : g.n ≤ 1048576) :
    Calls Try.prog 16 #[.agg #[.string g.kind, .string g.api, .string g.name, .slice ao g.n cap, .string g.pgv, .string g.pv]] w fun e w' =>
      ∃ vo vc, e = .returned (.agg #[.string ⟨#[65, 80, 73, 71, 114, 111, 117, 112]⟩, .string ⟨#[118, 49]⟩, .string g.name, .slice vo g.n vc, .string g.pgv, .string g.pv]) ∧ VNew w' vo g.n g.gv g.ver ∧ w.grownBy w' none := by
  obtain ⟨w2, hw2⟩ : ∃ w2, w2 = (w.alloc (.cells #[.string g.kind, .string g.api, .string g.name, .slice ao g.n cap, .string g.pgv, .string g.pv] 27)).alloc (.cells #[.string ⟨#[]⟩, .string ⟨#[]⟩, .string ⟨#[]⟩, .slice none 0 0, .string ⟨#[]⟩, .string ⟨#[]⟩] 38) := ⟨_, rfl⟩
  have hR : w2.heap[w.heap.size + 1]? = some (.cells #[.string ⟨#[]⟩, .string ⟨#[]⟩, .string ⟨#[]⟩, .slice none 0 0, .string ⟨#[]⟩, .string ⟨#[]⟩] 38 (0, 0)) := by
    rw [hw2]; exact heap_alloc2_new w _ _
  have hG : w.grownBy w2 none := by rw [hw2]; exact gb_trans (gb_alloc _ _ _) (gb_alloc _ _ _)
  have HW : Hid (w2 = _) := hw2
  clear hw2
  go_enter Try.func16, Try.ntmps16
  go_wp2_with fail
  rw [← HW.out]
  refine (toGroup_any g ao cap _ (hv.grown hG) hl).mono ?_
  rintro e w3 ⟨vo, vc, rfl, hvn, hg3⟩
  have G3 := gb_trans hG hg3
  have bR : w3.heap[w.heap.size + 1]? = _ := (hg3.block _ (lt_of_block hR) (by simp)).trans hR
  have hlt3 : w.heap.size + 1 < w3.heap.size := lt_of_block bR
  obtain ⟨b0, b1, b2, b3, b4, b5⟩ := six_cells bR
  have q0 := frozen_of_row w3 (w.heap.size + 1) 0 _ 38 bR
  have q1 := frozen_of_row w3 (w.heap.size + 1) 1 _ 38 bR
  have q2 := frozen_of_row w3 (w.heap.size + 1) 2 _ 38 bR
  have q3 := frozen_of_row w3 (w.heap.size + 1) 3 _ 38 bR
  have q4 := frozen_of_row w3 (w.heap.size + 1) 4 _ 38 bR
  have q5 := frozen_of_row w3 (w.heap.size + 1) 5 _ 38 bR
  have HB := heap_put6_whole w3 (w.heap.size + 1) (.string ⟨#[65, 80, 73, 71, 114, 111, 117, 112]⟩) (.string ⟨#[118, 49]⟩) (.string g.name) (.slice vo g.n vc) (.string g.pgv) (.string g.pv) bR
  have G4 := gb_put6 w3 (w.heap.size + 1) 0 (.string ⟨#[65, 80, 73, 71, 114, 111, 117, 112]⟩) (.string ⟨#[118, 49]⟩) (.string g.name) (.slice vo g.n vc) (.string g.pgv) (.string g.pv)
  have V4 := hvn.kept G4 (fun r hr => by cases hr; exact ⟨_, _, bR⟩)
  have G5 := gb_new G3 G4 (by omega)
  have HR := six_cells HB
  clear hvn HB G4 bR hR
  simp only [put6, Nat.zero_add] at HR G5 V4
  have HR' : Hid _ := HR
  have V6 : Hid (∀ o, VNew _ vo g.n g.gv g.ver) := fun o => V4.grown (gb_alloc _ o none)
  have G6 : Hid (∀ o, w.grownBy _ none) := fun o => gb_trans G5 (gb_alloc _ o none)
  clear V4 G5 HR
  go_wp2
  obtain ⟨r0, r1, r2, r3, r4, r5⟩ := HR'.out
  refine bodyPost_ret (v := .agg #[.string ⟨#[65, 80, 73, 71, 114, 111, 117, 112]⟩, .string ⟨#[118, 49]⟩, .string g.name, .slice vo g.n vc, .string g.pgv, .string g.pv]) (by simp [results, Try.results16, go_sem, r0, r1, r2, r3, r4, r5, hlt3]) rfl ⟨vo, vc, rfl, V6.out _, G6.out _⟩
end Go.Proofs.Qxb6626915a
