import Derived.Test.Qxb6626915aToGs
namespace Go.Proofs.Qxb6626915a
open Go.RowKit

/-- 'r' is the first place of 'name' among the 'n' groups 'gs', or -1. -/
def FirstIs (gs : Nat → GD) (n : Nat) (name : ByteArray) (r : Int) : Prop :=
  (∃ k : Nat, k < n ∧ r = (k : Int) ∧ (gs k).name = name ∧ ∀ i, i < k → (gs i).name ≠ name) ∨ (r = -1 ∧ ∀ i, i < n → (gs i).name ≠ name)

/-- The six cells of an element of a new row. -/
theorem RowNew.cells {w : World} {v : Value} {n : Nat} {gs : Nat → GD} (h : RowNew w v n gs) {k : Nat} (hk : k < n) :
    ∃ b cap vo vc, v = .slice (some ⟨b, 0, none⟩) n cap ∧ w.cell? ⟨b, k * 6, none⟩ = some (.string (gs k).kind) ∧ w.cell? ⟨b, k * 6 + 1, none⟩ = some (.string (gs k).api) ∧ w.cell? ⟨b, k * 6 + 2, none⟩ = some (.string (gs k).name) ∧
      w.cell? ⟨b, k * 6 + 3, none⟩ = some (.slice vo (gs k).n vc) ∧ w.cell? ⟨b, k * 6 + 4, none⟩ = some (.string (gs k).pgv) ∧ w.cell? ⟨b, k * 6 + 5, none⟩ = some (.string (gs k).pv) ∧ VNew w vo (gs k).n (gs k).gv (gs k).ver := by
  obtain ⟨so, cap, rfl, h | ⟨b, cs, rfl, hb, hs⟩⟩ := h
  · omega
  · obtain ⟨vo, vc, hv, hx⟩ := hs k hk
    refine ⟨b, cap, vo, vc, rfl, ?_, ?_, ?_, ?_, ?_, ?_, hv⟩
    · rw [cell_of_row w b _ cs 38 (0, 0) hb, ← Array.getElem?_toList]; exact hx 0 (by omega)
    · rw [cell_of_row w b _ cs 38 (0, 0) hb, ← Array.getElem?_toList]; exact hx 1 (by omega)
    · rw [cell_of_row w b _ cs 38 (0, 0) hb, ← Array.getElem?_toList]; exact hx 2 (by omega)
    · rw [cell_of_row w b _ cs 38 (0, 0) hb, ← Array.getElem?_toList]; exact hx 3 (by omega)
    · rw [cell_of_row w b _ cs 38 (0, 0) hb, ← Array.getElem?_toList]; exact hx 4 (by omega)
    · rw [cell_of_row w b _ cs 38 (0, 0) hb, ← Array.getElem?_toList]; exact hx 5 (by omega)

set_option maxHeartbeats 400000 in
/-- The closure: 'g.Name == name'. -/
theorem closure_any (c0 c1 c3 c4 c5 : Value) (nm name : ByteArray) (nb : Nat) (w : World) (hn : w.cell? ⟨nb, 0, none⟩ = some (.string name)) :
    Calls Try.prog 19 #[.agg #[c0, c1, .string nm, c3, c4, c5], .pointer (some ⟨nb, 0, none⟩)] w fun e w' => e = .returned (.bool (nm.toList == name.toList)) ∧ w.grownBy w' none := by
  have hlt : nb < w.heap.size := block_lt_of_cell hn
  go_enter Try.func19, Try.ntmps19
  go_wp2
  go_ret
  exact ⟨rfl, gb_alloc _ _ _⟩

set_option maxHeartbeats 1000000 in
theorem IndexFunc_any (v : Value) (n : Nat) (gs : Nat → GD) (nb : Nat) (name : ByteArray) (w : World) (hv : RowNew w v n gs) (hn : w.cell? ⟨nb, 0, none⟩ = some (.string name)) (hl : n ≤ 1000000) :
    Calls Try.prog 18 #[v, .func (.func 19) #[] #[.pointer (some ⟨nb, 0, none⟩)]] w fun e w' => ∃ r : Int, e = .returned (.int .i64 r) ∧ FirstIs gs n name r ∧ w.grownBy w' none := by
  obtain ⟨so, cap, rfl, hv'⟩ := id hv
  clear hv'
  go_enter Try.func18, Try.ntmps18
  go_wp2_with fail
  go_loopw [5, 8] (fun _ i wr => ∃ k : Nat, k ≤ n ∧ i = .int .i64 k ∧ (∀ j, j < k → (gs j).name ≠ name) ∧ w.grownBy wr none) (fun _ i _ => n - (intOf i).toNat)
  case atStart => exact ⟨0, Nat.zero_le _, rfl, fun j hj => by omega, gb_refl _ _⟩
  case round =>
    obtain ⟨k, hk, rfl, hno, hg⟩ := hrel
    have HN : Hid (∀ j, j < k → (gs j).name ≠ name) := hno
    clear hno
    by_cases hlt : k < n
    · obtain ⟨b, cap', vo, vc, hso, c0, c1, c2, c3, c4, c5, hvn⟩ := (hv.grown hg).cells hlt
      obtain ⟨rfl, rfl⟩ : so = some ⟨b, 0, none⟩ ∧ cap = cap' := by simp at hso; exact hso
      have hnm := cell_grown hg hn
      obtain ⟨g, hgk⟩ : ∃ g, gs k = g := ⟨_, rfl⟩
      rw [hgk] at c0 c1 c2 c3 c4 c5
      have HK : Hid (gs k = g) := hgk
      clear hso hgk
      go_wp2_with fail
      refine (closure_any _ _ _ _ _ g.name name nb _ hnm).mono ?_
      rintro e w2 ⟨rfl, hg2⟩
      have G2 := gb_trans hg hg2
      clear c0 c1 c2 c3 c4 c5 hvn
      by_cases he : g.name = name
      · have hb : (g.name.toList == name.toList) = true := by rw [he]; exact str_eq name
        rw [hb]
        go_wp2
        go_ret
        exact ⟨_, rfl, .inl ⟨k, hlt, rfl, by rw [HK.out]; exact he, HN.out⟩, G2⟩
      · have hb : (g.name.toList == name.toList) = false := str_ne he
        rw [hb]
        go_wp2
        go_roundw
        case rel =>
          refine ⟨k + 1, by omega, by go_num, fun j hj => ?_, G2⟩
          by_cases e : j = k
          · rw [e, HK.out]; exact he
          · exact HN.out j (by omega)
        case measure => simp [intOf]; omega
    · have hkn : k = n := by omega
      subst hkn
      go_wp2
      go_ret
      exact ⟨_, rfl, .inr ⟨rfl, HN.out⟩, hg⟩
end Go.Proofs.Qxb6626915a
