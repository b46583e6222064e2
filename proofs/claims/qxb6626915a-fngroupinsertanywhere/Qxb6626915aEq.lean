import Derived.Test.Qxb6626915aGrp
namespace Go.Proofs.Qxb6626915a
open Go.RowKit

set_option maxHeartbeats 1000000 in
/-- eqGroup of two groups that say the same. -/
theorem eqGroup_same (g : GD) (vo vo' : Option Addr) (vc vc' : Nat) (w : World) (h1 : VAt w vo g.n g.gv g.ver) (h2 : VAt w vo' g.n g.gv g.ver) (hl : g.n ≤ 1048576) :
    Calls Try.prog 15 #[gval g vo vc, gval g vo' vc'] w fun e w' => e = .returned (.bool true) ∧ w.grownBy w' none := by
  obtain ⟨kind, api, name, n, gv, ver, pgv, pv⟩ := g
  simp only [gval] at h1 h2 hl ⊢
  obtain ⟨w2, hw2⟩ : ∃ w2, w2 = (w.alloc (.cells #[.string kind, .string api, .string name, .slice vo n vc, .string pgv, .string pv] 38)).alloc (.cells #[.string kind, .string api, .string name, .slice vo' n vc', .string pgv, .string pv] 38) := ⟨_, rfl⟩
  have hA : w2.heap[w.heap.size]? = some (.cells #[.string kind, .string api, .string name, .slice vo n vc, .string pgv, .string pv] 38 (0, 0)) := by
    rw [hw2, Below.heap_alloc _ _ _ (by simp), heap_alloc_new]
  have hB : w2.heap[w.heap.size + 1]? = some (.cells #[.string kind, .string api, .string name, .slice vo' n vc', .string pgv, .string pv] 38 (0, 0)) := by
    rw [hw2]; exact heap_alloc2_new w _ _
  have hG : w.grownBy w2 none := by rw [hw2]; exact gb_trans (gb_alloc _ _ _) (gb_alloc _ _ _)
  have HW : Hid (w2 = _) := hw2
  clear hw2
  go_enter Try.func15, Try.ntmps15
  go_wp2_with fail
  rw [← HW.out]
  go_loopw [5] (fun i wr => ∃ k : Nat, k ≤ n ∧ i = .int .i64 k ∧ ∃ d, wr = w2.drewN d) (fun i _ => n - (intOf i).toNat)
  case atStart => exact ⟨0, Nat.zero_le _, rfl, 0, rfl⟩
  case round =>
    obtain ⟨k, hk, rfl, d, rfl⟩ := hrel
    obtain ⟨a0, a1, a2, a3, a4, a5⟩ := six_cells hA
    obtain ⟨b0, b1, b2, b3, b4, b5⟩ := six_cells hB
    by_cases hlt : k < n
    · rcases h1 with h | ⟨ba, oa, rfl, ca⟩
      · omega
      rcases h2 with h | ⟨bb, ob, rfl, cb⟩
      · omega
      have x0 := cell_grown hG (ca k hlt).1
      have x1 := cell_grown hG (ca k hlt).2
      have y0 := cell_grown hG (cb k hlt).1
      have y1 := cell_grown hG (cb k hlt).2
      have r3 : (k : Int) < (n : Int) := by omega
      clear ca cb hA hB
      go_wp2
      go_quiet (fail)
      go_wp2
      go_roundw
      case rel => exact ⟨k + 1, by omega, by go_num, _, rfl⟩
      case measure => simp [intOf]; omega
    · clear hA hB
      go_wp2
      go_ret
      exact ⟨rfl, gb_trans hG (gb_drewN _ _ _)⟩

set_option maxHeartbeats 400000 in
theorem sameAnswer_same (g : GD) (ok : Bool) (vo vo' : Option Addr) (vc vc' : Nat) (w : World) (h1 : VAt w vo g.n g.gv g.ver) (h2 : VAt w vo' g.n g.gv g.ver) (hl : g.n ≤ 1048576) :
    Calls Try.prog 14 #[gval g vo vc, .bool ok, gval g vo' vc', .bool ok] w fun e w' => e = .returned (.bool true) ∧ w.grownBy w' none := by
  have k1 := fun o o' => (h1.grown (gb_alloc w o none)).grown (gb_alloc _ o' none)
  have k2 := fun o o' => (h2.grown (gb_alloc w o none)).grown (gb_alloc _ o' none)
  have hc := fun w h1 h2 => eqGroup_same g vo vo' vc vc' w h1 h2 hl
  simp only [gval] at hc ⊢
  have HC : Hid (∀ w, VAt w vo g.n g.gv g.ver → VAt w vo' g.n g.gv g.ver → Calls Try.prog 15 #[.agg #[.string g.kind, .string g.api, .string g.name, .slice vo g.n vc, .string g.pgv, .string g.pv], .agg #[.string g.kind, .string g.api, .string g.name, .slice vo' g.n vc', .string g.pgv, .string g.pv]] w fun e w' => e = .returned (.bool true) ∧ w.grownBy w' none) := hc
  clear hc
  cases ok with
  | false =>
    go_enter Try.func14, Try.ntmps14
    go_wp2_with (go_at_call 15; refine (HC.out _ (k1 _ _) (k2 _ _)).mono ?_; rintro e w' ⟨rfl, hg⟩)
    go_ret
    exact ⟨rfl, gb_trans (gb_trans (gb_alloc _ _ _) (gb_alloc _ _ _)) hg⟩
  | true =>
    go_enter Try.func14, Try.ntmps14
    go_wp2_with (go_at_call 15; refine (HC.out _ (k1 _ _) (k2 _ _)).mono ?_; rintro e w' ⟨rfl, hg⟩)
    go_ret
    exact ⟨rfl, gb_trans (gb_trans (gb_alloc _ _ _) (gb_alloc _ _ _)) hg⟩

/-- 'b' says whether 'name' is among the first 'u' groups' names. -/
def InIs (gs : Nat → GD) (u : Nat) (name : ByteArray) (b : Bool) : Prop := b = true ↔ ∃ j, j < u ∧ (gs j).name = name

/-- What nameIn hands back. -/
def InRet (gs : Nat → GD) (u : Nat) (name : ByteArray) (e : Ending) : Prop := ∃ b, e = .returned (.bool b) ∧ InIs gs u name b

set_option maxHeartbeats 400000 in
/-- nameIn. -/
theorem nameIn_any (ao : Option Addr) (n cap : Nat) (gs : Nat → GD) (u : Nat) (name : ByteArray) (w : World) (hv : GsAt w ao n gs) (hu : u ≤ n) (hl : n ≤ 65536) :
    Calls Try.prog 13 #[.slice ao n cap, .int .i64 u, .string name] w fun e w' => InRet gs u name e ∧ w' = w := by
  go_enter Try.func13, Try.ntmps13
  go_wp2
  go_loop [7] (fun i => ∃ k : Nat, k ≤ u ∧ i = .int .i64 k ∧ ∀ j, j < k → (gs j).name ≠ name) (fun i => u - (intOf i).toNat)
  case atStart => exact ⟨0, Nat.zero_le _, rfl, fun j hj => by omega⟩
  case round =>
    obtain ⟨k, hk, rfl, hno⟩ := hrel
    have HN : Hid (∀ j, j < k → (gs j).name ≠ name) := hno
    clear hno
    by_cases hlt : k < u
    · rcases hv with h | ⟨b, o, rfl, hcell⟩
      · omega
      have c2 := (hcell k (by omega)).2.2.1
      obtain ⟨nm, hnm⟩ : ∃ nm, (gs k).name = nm := ⟨_, rfl⟩
      rw [hnm] at c2
      have HK : Hid ((gs k).name = nm) := hnm
      have hkn : k < n := by omega
      have hkn' : (k : Int) < (n : Int) := by omega
      clear hnm hcell
      by_cases he : nm = name
      · subst he
        go_wp2
        go_ret
        exact ⟨⟨true, rfl, ⟨fun _ => ⟨k, hlt, HK.out⟩, fun _ => rfl⟩⟩, rfl⟩
      · have hb := str_ne he
        go_wp2
        go_round
        case rel =>
          refine ⟨k + 1, by omega, by go_num, fun j hj => ?_⟩
          by_cases e : j = k
          · rw [e, HK.out]; exact he
          · exact HN.out j (by omega)
        case measure => simp [intOf]; omega
    · have hku : k = u := by omega
      subst hku
      go_wp2
      go_ret
      exact ⟨⟨false, rfl, ⟨fun h => (by cases h), fun ⟨j, h1, h2⟩ => absurd h2 (HN.out j h1)⟩⟩, rfl⟩
end Go.Proofs.Qxb6626915a
