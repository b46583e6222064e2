import Derived.Test.Qxb6626915aBase
namespace Go.Proofs.Qxb6626915a
open Go.RowKit

/-- A bool is handed back; if it is true then P. -/
def BoolRet (P : Prop) (e : Ending) : Prop := ∃ b : Bool, e = .returned (.bool b) ∧ (b = true → P)

theorem boolRet_false (P : Prop) : BoolRet P (.returned (.bool false)) := ⟨false, rfl, fun h => by cases h⟩
theorem boolRet_true {P : Prop} (h : P) : BoolRet P (.returned (.bool true)) := ⟨true, rfl, fun _ => h⟩

set_option maxHeartbeats 8000000 in
set_option maxRecDepth 100000 in
theorem zzBytes17 (ao bo : Option Addr) (n n' cap cap' : Nat) (gs hs : Nat → GD) (name : ByteArray) (w : World) (hv : GsAt w ao n gs) (hv' : GsAt w bo n' hs) :
    Calls Try.prog 17 #[.slice ao n cap, .slice bo n' cap', .string name] w fun e w' => BoolRet ((∀ i, i < n → (gs i).n ≤ 1048576) ∧ (∀ i, i < n' → (hs i).n ≤ 1048576)) e ∧ w' = w := by
  by_cases hn : 1048576 < (n : Int)
  · go_enter Try.func17, Try.ntmps17
    go_wp2
    go_ret
    exact ⟨boolRet_false _, rfl⟩
  have hn0 : decide (1048576 < (n : Int)) = false := decide_eq_false hn
  obtain ⟨Q, hQ⟩ : ∃ Q : Prop, Q = ((∀ i, i < n → (gs i).n ≤ 1048576) ∧ (∀ i, i < n' → (hs i).n ≤ 1048576)) := ⟨_, rfl⟩
  rw [← hQ]
  have HQ : Hid (Q = ((∀ i, i < n → (gs i).n ≤ 1048576) ∧ (∀ i, i < n' → (hs i).n ≤ 1048576))) := hQ
  clear hQ
  go_enter Try.func17, Try.ntmps17
  go_wp2
  go_loop [7, 8, 9] (fun z i _ => ∃ (q : Int) (k : Nat), z = .int .i64 q ∧ 0 ≤ q ∧ q ≤ 1048576 ∧ k ≤ n ∧ i = .int .i64 k ∧ ∀ i, i < k → (gs i).n ≤ 1048576) (fun _ i _ => n - (intOf i).toNat)
  case atStart => exact ⟨_, 0, rfl, by omega, by omega, Nat.zero_le _, rfl, fun i hi => by omega⟩
  case round =>
    obtain ⟨q, k, rfl, hq0, hq1, hk, rfl, hall⟩ := hrel
    have HA : Hid (∀ i, i < k → (gs i).n ≤ 1048576) := hall
    clear hall
    by_cases hlt : k < n
    · rcases hv with h | ⟨b, o, rfl, hcell⟩
      · omega
      obtain ⟨c0, c1, c2, ⟨vo, vc, c3, hvat⟩, c4, c5⟩ := hcell k hlt
      obtain ⟨g, hgk⟩ : ∃ g, gs k = g := ⟨_, rfl⟩
      rw [hgk] at c0 c1 c2 c3 c4 c5 hvat
      have HK : Hid (gs k = g) := hgk
      clear hgk hcell
      go_wp2
      all_goals first | (go_ret; exact ⟨boolRet_false _, rfl⟩) | skip
      go_loop [7, 9] (fun z j => ∃ (q' : Int) (t : Nat), z = .int .i64 q' ∧ 0 ≤ q' ∧ q' ≤ 1048576 ∧ t ≤ g.n ∧ j = .int .i64 t) (fun _ j => g.n - (intOf j).toNat)
      case atStart => exact ⟨_, 0, rfl, by omega, by omega, Nat.zero_le _, rfl⟩
      case round =>
        obtain ⟨q', t, rfl, hq0', hq1', ht, rfl⟩ := hrel
        by_cases htl : t < g.n
        · rcases hvat with h | ⟨vb, vo', rfl, hvc⟩
          · omega
          obtain ⟨x0, x1⟩ := hvc t htl
          obtain ⟨s0, hs0⟩ : ∃ s, g.gv t = s := ⟨_, rfl⟩
          obtain ⟨s1, hs1⟩ : ∃ s, g.ver t = s := ⟨_, rfl⟩
          rw [hs0] at x0
          rw [hs1] at x1
          clear hvc hs0 hs1
          go_wp2
          all_goals first | (go_ret; exact ⟨boolRet_false _, rfl⟩) | skip
          go_round
          case rel => exact ⟨_, t + 1, rfl, by omega, by omega, by omega, by go_num⟩
          case measure => simp [intOf]; omega
        · go_wp2
          all_goals first | (go_ret; exact ⟨boolRet_false _, rfl⟩) | skip
          go_round
          case rel =>
            refine ⟨_, k + 1, rfl, by omega, by omega, by omega, by go_num, fun i hi => ?_⟩
            by_cases e : i = k
            · rw [e, HK.out]; omega
            · exact HA.out i (by omega)
          case measure => simp [intOf]; omega
    · have hkn : k = n := by omega
      subst hkn
      have HA1 : Hid (∀ i, i < k → (gs i).n ≤ 1048576) := HA.out
      clear HA hv
      by_cases hn' : 1048576 < (n' : Int)
      · go_wp2
        go_ret
        exact ⟨boolRet_false _, rfl⟩
      have hn0' : decide (1048576 < (n' : Int)) = false := decide_eq_false hn'
      by_cases hs' : 1048576 < q + (n' : Int)
      · go_wp2
        go_ret
        exact ⟨boolRet_false _, rfl⟩
      have hs0' : decide (1048576 < q + (n' : Int)) = false := decide_eq_false hs'
      go_wp2
      go_loop [7, 10, 11] (fun z i _ => ∃ (q2 : Int) (k2 : Nat), z = .int .i64 q2 ∧ 0 ≤ q2 ∧ q2 ≤ 1048576 ∧ k2 ≤ n' ∧ i = .int .i64 k2 ∧ ∀ i, i < k2 → (hs i).n ≤ 1048576) (fun _ i _ => n' - (intOf i).toNat)
      case atStart => exact ⟨_, 0, rfl, by omega, by omega, Nat.zero_le _, rfl, fun i hi => by omega⟩
      case round =>
        obtain ⟨q2, k2, rfl, hq0, hq1, hk, rfl, hall⟩ := hrel
        have HA : Hid (∀ i, i < k2 → (hs i).n ≤ 1048576) := hall
        clear hall
        by_cases hlt : k2 < n'
        · rcases hv' with h | ⟨b, o, rfl, hcell⟩
          · omega
          obtain ⟨c0, c1, c2, ⟨vo, vc, c3, hvat⟩, c4, c5⟩ := hcell k2 hlt
          obtain ⟨g, hgk⟩ : ∃ g, hs k2 = g := ⟨_, rfl⟩
          rw [hgk] at c0 c1 c2 c3 c4 c5 hvat
          have HK : Hid (hs k2 = g) := hgk
          clear hgk hcell
          go_wp2
          all_goals first | (go_ret; exact ⟨boolRet_false _, rfl⟩) | skip
          go_loop [7, 11] (fun z j => ∃ (q2' : Int) (t : Nat), z = .int .i64 q2' ∧ 0 ≤ q2' ∧ q2' ≤ 1048576 ∧ t ≤ g.n ∧ j = .int .i64 t) (fun _ j => g.n - (intOf j).toNat)
          case atStart => exact ⟨_, 0, rfl, by omega, by omega, Nat.zero_le _, rfl⟩
          case round =>
            obtain ⟨q2', t, rfl, hq0', hq1', ht, rfl⟩ := hrel
            by_cases htl : t < g.n
            · rcases hvat with h | ⟨vb, vo', rfl, hvc⟩
              · omega
              obtain ⟨x0, x1⟩ := hvc t htl
              obtain ⟨s0, hs0⟩ : ∃ s, g.gv t = s := ⟨_, rfl⟩
              obtain ⟨s1, hs1⟩ : ∃ s, g.ver t = s := ⟨_, rfl⟩
              rw [hs0] at x0
              rw [hs1] at x1
              clear hvc hs0 hs1
              go_wp2
              all_goals first | (go_ret; exact ⟨boolRet_false _, rfl⟩) | skip
              go_round
              case rel => exact ⟨_, t + 1, rfl, by omega, by omega, by omega, by go_num⟩
              case measure => simp [intOf]; omega
            · go_wp2
              all_goals first | (go_ret; exact ⟨boolRet_false _, rfl⟩) | skip
              go_round
              case rel =>
                refine ⟨_, k2 + 1, rfl, by omega, by omega, by omega, by go_num, fun i hi => ?_⟩
                by_cases e : i = k2
                · rw [e, HK.out]; omega
                · exact HA.out i (by omega)
              case measure => simp [intOf]; omega
        · have hkn : k2 = n' := by omega
          subst hkn
          go_wp2
          all_goals first | (go_ret; exact ⟨boolRet_false _, rfl⟩) | skip
          go_ret
          exact ⟨boolRet_true (by rw [HQ.out]; exact ⟨HA1.out, HA.out⟩), rfl⟩
end Go.Proofs.Qxb6626915a
