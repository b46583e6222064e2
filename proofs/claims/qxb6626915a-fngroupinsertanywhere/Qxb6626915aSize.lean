import Derived.Test.Qxb6626915aBase
namespace Go.Proofs.Qxb6626915a
open Go.RowKit

/-- An int is handed back. -/
def IntRet (e : Ending) : Prop := ∃ t : Int, e = .returned (.int .i64 t)

theorem addLen_any (t n : Int) (w : World) : Calls Try.prog 6 #[.int .i64 t, .int .i64 n] w fun e w' => IntRet e ∧ w' = w := by
  by_cases h1 : 1048576 < t
  · go_enter Try.func6, Try.ntmps6
    go_wp2
    go_ret
    exact ⟨⟨_, rfl⟩, rfl⟩
  · have h1' : decide (1048576 < t) = false := decide_eq_false h1
    by_cases h2 : 1048576 < n
    · go_enter Try.func6, Try.ntmps6
      go_wp2
      go_ret
      exact ⟨⟨_, rfl⟩, rfl⟩
    · go_enter Try.func6, Try.ntmps6
      go_wp2
      go_ret
      exact ⟨⟨_, rfl⟩, rfl⟩

set_option maxHeartbeats 2000000 in
/-- sizeOfG hands back some int. -/
theorem sizeOfG_any (t : Int) (g : GD) (ao : Option Addr) (cap : Nat) (w : World) (hv : VAt w ao g.n g.gv g.ver) (hl : g.n ≤ 1048576) :
    Calls Try.prog 7 #[.int .i64 t, .agg #[.string g.kind, .string g.api, .string g.name, .slice ao g.n cap, .string g.pgv, .string g.pv]] w fun e w' => IntRet e ∧ w.grownBy w' none := by
  obtain ⟨kind, api, name, n, gv, ver, pgv, pv⟩ := g
  simp only at hv hl ⊢
  obtain ⟨w2, hw2⟩ : ∃ w2, w2 = w.alloc (.cells #[.string kind, .string api, .string name, .slice ao n cap, .string pgv, .string pv] 27) := ⟨_, rfl⟩
  have hA : w2.heap[w.heap.size]? = some (.cells #[.string kind, .string api, .string name, .slice ao n cap, .string pgv, .string pv] 27 (0, 0)) := by
    rw [hw2, heap_alloc_new]
  have hG : w.grownBy w2 none := by rw [hw2]; exact gb_alloc _ _ _
  have HW : Hid (w2 = _) := hw2
  clear hw2
  obtain ⟨a0, a1, a2, a3, a4, a5⟩ := six_cells hA
  have hn0 : decide (1048576 < (n : Int)) = false := decide_eq_false (by omega)
  go_enter Try.func7, Try.ntmps7
  go_wp2_with (go_at_call 6; refine (addLen_any _ _ _).mono ?_; rintro e w' ⟨⟨t', rfl⟩, rfl⟩)
  rw [← HW.out]
  clear hA
  go_loopw [0, 5] (fun t i wr => ∃ (q : Int) (k : Nat), t = .int .i64 q ∧ k ≤ n ∧ i = .int .i64 k ∧ wr = w2) (fun _ i _ => n - (intOf i).toNat)
  case atStart => exact ⟨_, 0, rfl, Nat.zero_le _, rfl, rfl⟩
  case round =>
    obtain ⟨q, k, rfl, hk, rfl, hwr⟩ := hrel
    subst hwr
    by_cases hlt : k < n
    · rcases hv with h | ⟨b, o, rfl, hcell⟩
      · omega
      have x0 := cell_grown hG (hcell k hlt).1
      have x1 := cell_grown hG (hcell k hlt).2
      clear hcell
      by_cases hq : 1048576 < q
      · go_wp2
        go_ret
        exact ⟨⟨_, rfl⟩, hG⟩
      · go_wp2_with (go_at_call 6; refine (addLen_any _ _ _).mono ?_; rintro e w' ⟨⟨t', rfl⟩, rfl⟩)
        go_roundw
        case rel => exact ⟨_, k + 1, rfl, by omega, by go_num, by first | rfl | trivial⟩
        case measure => simp [intOf]; omega
    · have hkn : k = n := by omega
      subst hkn
      go_wp2
      go_ret
      exact ⟨⟨_, rfl⟩, hG⟩

set_option maxHeartbeats 2000000 in
/-- sizeOfGroups hands back some int. -/
theorem sizeOfGroups_any (t : Int) (ao : Option Addr) (n cap : Nat) (gs : Nat → GD) (w : World) (hv : GsAt w ao n gs) (hl : n ≤ 65536) (hgs : ∀ i, i < n → (gs i).n ≤ 1048576) :
    Calls Try.prog 8 #[.int .i64 t, .slice ao n cap] w fun e w' => IntRet e ∧ w.grownBy w' none := by
  have hn0 : decide (1048576 < (n : Int)) = false := decide_eq_false (by omega)
  go_enter Try.func8, Try.ntmps8
  go_wp2_with (go_at_call 6; refine (addLen_any _ _ _).mono ?_; rintro e w' ⟨⟨t', rfl⟩, rfl⟩)
  go_loopw [0, 5] (fun t i wr => ∃ (q : Int) (k : Nat), t = .int .i64 q ∧ k ≤ n ∧ i = .int .i64 k ∧ World.grownBy w' wr none) (fun _ i _ => n - (intOf i).toNat)
  case atStart => exact ⟨_, 0, rfl, Nat.zero_le _, rfl, gb_refl _ _⟩
  case round =>
    obtain ⟨q, k, rfl, hk, rfl, hg⟩ := hrel
    by_cases hlt : k < n
    · rcases hv.grown hg with h | ⟨b, o, hao, hcell⟩
      · omega
      subst hao
      have hs := hcell k hlt
      have hnk := hgs k hlt
      obtain ⟨g, hgk⟩ : ∃ g, gs k = g := ⟨_, rfl⟩
      rw [hgk] at hs hnk
      obtain ⟨c0, c1, c2, ⟨vo, vc, c3, hvat⟩, c4, c5⟩ := hs
      clear hcell hgk
      by_cases hq : 1048576 < q
      · go_wp2
        go_ret
        exact ⟨⟨_, rfl⟩, hg⟩
      · go_wp2_with (go_at_call 7; refine (sizeOfG_any _ g _ _ _ hvat hnk).mono ?_; rintro e w2 ⟨⟨t', rfl⟩, hg2⟩)
        go_roundw
        case rel => exact ⟨_, k + 1, rfl, by omega, by go_num, gb_trans hg hg2⟩
        case measure => simp [intOf]; omega
    · have hkn : k = n := by omega
      subst hkn
      go_wp2
      go_ret
      exact ⟨⟨_, rfl⟩, hg⟩
end Go.Proofs.Qxb6626915a
