import Derived.Test.Qxb6626915aZz
namespace Go.Proofs.Qxb6626915a
open Go.RowKit

set_option maxHeartbeats 8000000 in
set_option maxRecDepth 100000 in
theorem zzBytes5 (ao : Option Addr) (n cap : Nat) (gs : Nat → GD) (g0 : GD) (vo0 : Option Addr) (vc0 : Nat) (kk : Int) (name : ByteArray) (w : World) (hv0 : GsAt w ao n gs) (hg00 : VAt w vo0 g0.n g0.gv g0.ver) :
    Calls Try.prog 5 #[.slice ao n cap, .agg #[.string g0.kind, .string g0.api, .string g0.name, .slice vo0 g0.n vc0, .string g0.pgv, .string g0.pv], .int .i64 kk, .string name] w fun e w' => BoolRet ((∀ i, i < n → (gs i).n ≤ 1048576) ∧ g0.n ≤ 1048576) e ∧ w.grownBy w' none := by
  by_cases hn : 1048576 < (n : Int)
  · go_enter Try.func5, Try.ntmps5
    go_wp2
    go_ret
    exact ⟨boolRet_false _, gb_alloc _ _ _⟩
  have hn0 : decide (1048576 < (n : Int)) = false := decide_eq_false hn
  obtain ⟨Q, hQ⟩ : ∃ Q : Prop, Q = ((∀ i, i < n → (gs i).n ≤ 1048576) ∧ g0.n ≤ 1048576) := ⟨_, rfl⟩
  rw [← hQ]
  have HQ : Hid (Q = ((∀ i, i < n → (gs i).n ≤ 1048576) ∧ g0.n ≤ 1048576)) := hQ
  clear hQ
  obtain ⟨w2, hw2⟩ : ∃ w2, w2 = w.alloc (.cells #[.string g0.kind, .string g0.api, .string g0.name, .slice vo0 g0.n vc0, .string g0.pgv, .string g0.pv] 27) := ⟨_, rfl⟩
  have hA : w2.heap[w.heap.size]? = some (.cells #[.string g0.kind, .string g0.api, .string g0.name, .slice vo0 g0.n vc0, .string g0.pgv, .string g0.pv] 27 (0, 0)) := by
    rw [hw2, heap_alloc_new]
  have hG : w.grownBy w2 none := by rw [hw2]; exact gb_alloc _ _ _
  have hv := hv0.grown hG
  have hg0 := hg00.grown hG
  have HW : Hid (w2 = w.alloc (.cells #[.string g0.kind, .string g0.api, .string g0.name, .slice vo0 g0.n vc0, .string g0.pgv, .string g0.pv] 27)) := hw2
  clear hw2
  obtain ⟨a0, a1, a2, a3, a4, a5⟩ := six_cells hA
  clear hA hv0 hg00
  go_enter Try.func5, Try.ntmps5
  go_wp2
  rw [← HW.out]
  go_loop [9, 10, 11] (fun z i _ => ∃ (q : Int) (k : Nat), z = .int .i64 q ∧ 0 ≤ q ∧ q ≤ 1048576 ∧ k ≤ n ∧ i = .int .i64 k ∧ ∀ i, i < k → (gs i).n ≤ 1048576) (fun _ i _ => n - (intOf i).toNat)
  case atStart => exact ⟨_, 0, rfl, by omega, by omega, Nat.zero_le _, rfl, fun i hi => by omega⟩
  case round =>
    obtain ⟨q, k, rfl, hq0, hq1, hk, rfl, hall⟩ := hrel
    have HA : Hid (∀ i, i < k → (gs i).n ≤ 1048576) := hall
    clear hall
    by_cases hlt : k < n
    · rcases hv with h | ⟨b, o, rfl, hcell⟩
      · omega
      obtain ⟨c0, c1, c2, ⟨vo, vc, c3, hvat⟩, c4, c5⟩ := hcell k hlt
      obtain ⟨g, hgk⟩ : ∃ g, gs k = g := ⟨_, rfl⟩
      rw [hgk] at c0 c1 c2 c3 c4 c5 hvat
      have HK : Hid (gs k = g) := hgk
      clear hgk hcell
      go_wp2
      all_goals first | (go_ret; exact ⟨boolRet_false _, hG⟩) | skip
      go_loop [9, 11] (fun z j => ∃ (q' : Int) (t : Nat), z = .int .i64 q' ∧ 0 ≤ q' ∧ q' ≤ 1048576 ∧ t ≤ g.n ∧ j = .int .i64 t) (fun _ j => g.n - (intOf j).toNat)
      case atStart => exact ⟨_, 0, rfl, by omega, by omega, Nat.zero_le _, rfl⟩
      case round =>
        obtain ⟨q', t, rfl, hq0', hq1', ht, rfl⟩ := hrel
        by_cases htl : t < g.n
        · rcases hvat with h | ⟨vb, vo', rfl, hvc⟩
          · omega
          obtain ⟨x0, x1⟩ := hvc t htl
          obtain ⟨s0, hs0⟩ : ∃ s, g.gv t = s := ⟨_, rfl⟩
          obtain ⟨s1, hs1⟩ : ∃ s, g.ver t = s := ⟨_, rfl⟩
          rw [hs0] at x0
          rw [hs1] at x1
          clear hvc hs0 hs1
          go_wp2
          all_goals first | (go_ret; exact ⟨boolRet_false _, hG⟩) | skip
          go_round
          case rel => exact ⟨_, t + 1, rfl, by omega, by omega, by omega, by go_num⟩
          case measure => simp [intOf]; omega
        · go_wp2
          all_goals first | (go_ret; exact ⟨boolRet_false _, hG⟩) | skip
          go_round
          case rel =>
            refine ⟨_, k + 1, rfl, by omega, by omega, by omega, by go_num, fun i hi => ?_⟩
            by_cases e : i = k
            · rw [e, HK.out]; omega
            · exact HA.out i (by omega)
          case measure => simp [intOf]; omega
    · have hkn : k = n := by omega
      subst hkn
      have HA1 : Hid (∀ i, i < k → (gs i).n ≤ 1048576) := HA.out
      clear HA hv
      go_wp2
      all_goals first | (go_ret; exact ⟨boolRet_false _, hG⟩) | skip
      go_loop [9, 12] (fun z j => ∃ (q' : Int) (t : Nat), z = .int .i64 q' ∧ 0 ≤ q' ∧ q' ≤ 1048576 ∧ t ≤ g0.n ∧ j = .int .i64 t) (fun _ j => g0.n - (intOf j).toNat)
      case atStart => exact ⟨_, 0, rfl, by omega, by omega, Nat.zero_le _, rfl⟩
      case round =>
        obtain ⟨q', t, rfl, hq0', hq1', ht, rfl⟩ := hrel
        by_cases htl : t < g0.n
        · rcases hg0 with h | ⟨vb, vo', rfl, hvc⟩
          · omega
          obtain ⟨x0, x1⟩ := hvc t htl
          obtain ⟨s0, hs0⟩ : ∃ s, g0.gv t = s := ⟨_, rfl⟩
          obtain ⟨s1, hs1⟩ : ∃ s, g0.ver t = s := ⟨_, rfl⟩
          rw [hs0] at x0
          rw [hs1] at x1
          clear hvc hs0 hs1
          go_wp2
          all_goals first | (go_ret; exact ⟨boolRet_false _, hG⟩) | skip
          go_round
          case rel => exact ⟨_, t + 1, rfl, by omega, by omega, by omega, by go_num⟩
          case measure => simp [intOf]; omega
        · go_wp2
          all_goals first | (go_ret; exact ⟨boolRet_false _, hG⟩) | skip
          go_ret
          exact ⟨boolRet_true (by rw [HQ.out]; exact ⟨HA1.out, by omega⟩), hG⟩
end Go.Proofs.Qxb6626915a
