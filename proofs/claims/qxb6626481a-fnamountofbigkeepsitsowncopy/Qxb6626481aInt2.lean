import Derived.Test.Qxb6626481aInt
import Derived.LaidEqlPtr
namespace Go.Proofs.Qxb6626481a
open Go.RowKit

theorem neq_ptr_same {P : Program} (w : World) {tp te : TypeId} {j : TypeInfo} (a : Addr) (hp : P.underlying tp = some (.pointer te)) (hte : P.info? te = some j) :
    (binOp .neq tp (.pointer (some a)) (.pointer (some a))).run P w = .ok (.bool false) w := by
  have h : ∀ d : Nat, (Op.equalIn (d + 1) tp (.pointer (some a)) (.pointer (some a))).run P w = .ok true w := fun d => by
    simp [Op.equalIn, run_underlying hp, sizeOf, typeInfo, hte, run_sameAddr_same]
  simp only [binOp]
  simp [Op.equal, Op.maxDepth, h 9999]

theorem neq_ptr_other {P : Program} (w : World) {tp te : TypeId} {j : TypeInfo} {a b : Addr} {ca cb : Array Value} {ta tb : TypeId} (hp : P.underlying tp = some (.pointer te)) (hte : P.info? te = some j) (hsz : j.size ≠ 0)
    (hne : a ≠ b) (ha : w.heap[a.block]? = some (.cells ca ta (0, 0))) (hb : w.heap[b.block]? = some (.cells cb tb (0, 0))) :
    (binOp .neq tp (.pointer (some a)) (.pointer (some b))).run P w = .ok (.bool true) w := by
  have h : ∀ d : Nat, (Op.equalIn (d + 1) tp (.pointer (some a)) (.pointer (some b))).run P w = .ok false w := fun d => by
    simp [Op.equalIn, run_underlying hp, sizeOf, typeInfo, hte, hsz, run_sameAddr_other w hne ha hb]
  simp only [binOp]
  simp [Op.equal, Op.maxDepth, h 9999]

theorem info38 : (Try.prog.info? 38).map (fun i => (i.zero, i.size, i.bytes)) = some (some (.agg #[.bool false, .slice none 0 0]), 2, 32) := by kernel_rfl

/-- (*math/big.Int).Set of an Int to itself: nothing. -/
theorem Set_self (p : Nat) (w : World) :
    Calls Try.prog 15 #[.pointer (some ⟨p, 0, none⟩), .pointer (some ⟨p, 0, none⟩)] w fun e w' => e = .returned (.pointer (some ⟨p, 0, none⟩)) ∧ w' = w := by
  obtain ⟨j, hj, _, _, _⟩ := info_parts info38
  have hq := fun w : World => neq_ptr_same (P := Try.prog) w ⟨p, 0, none⟩ Try.underlying24 hj
  go_enter Try.func15, Try.ntmps15
  go_wp2
  go_ret
  exact ⟨rfl, rfl⟩

set_option maxHeartbeats 400000 in
/-- (*math/big.Int).Neg of an Int into itself. -/
theorem Neg_self (p : Nat) (neg : Bool) (m : Nat → Int) (k : Nat) (w : World) (h : Big w p neg m k) :
    Calls Try.prog 12 #[.pointer (some ⟨p, 0, none⟩), .pointer (some ⟨p, 0, none⟩)] w fun e w' =>
      e = .returned (.pointer (some ⟨p, 0, none⟩)) ∧ Big w' p (decide (0 < k) && !neg) m k ∧ w.grownBy w' (some p) := by
  obtain ⟨ao, cap, hp, hn⟩ := h
  have c0 := hp.cell0
  have c1 := hp.cell1
  have f0 := hp.frozen 0
  have fin : ∀ b : Bool, Big (w.setCell ⟨p, 0, none⟩ (.bool b)) p b m k ∧ w.grownBy (w.setCell ⟨p, 0, none⟩ (.bool b)) (some p) := fun b =>
    ⟨⟨ao, cap, hp.set0 _, hn.grown (gb_set w p 0 (.bool b)) (.inr rfl)⟩, gb_set _ _ _ _⟩
  have FIN : Hid (∀ b : Bool, Big (w.setCell ⟨p, 0, none⟩ (.bool b)) p b m k ∧ w.grownBy (w.setCell ⟨p, 0, none⟩ (.bool b)) (some p)) := fin
  clear fin hn hp
  by_cases h0 : 0 < k
  · have hz : Hid ((decide (0 < k) && !neg) = !neg) := by show (decide (0 < k) && !neg) = !neg; simp [h0]
    go_enter Try.func12, Try.ntmps12
    go_wp2_with (go_at_call 15; refine (Set_self _ _).mono ?_; rintro e w' ⟨rfl, rfl⟩)
    go_ret
    rw [hz.out]
    exact ⟨rfl, FIN.out _⟩
  · have hz : Hid ((decide (0 < k) && !neg) = false) := by show (decide (0 < k) && !neg) = false; simp [h0]
    have hk0 : k = 0 := by omega
    subst hk0
    go_enter Try.func12, Try.ntmps12
    go_wp2_with (go_at_call 15; refine (Set_self _ _).mono ?_; rintro e w' ⟨rfl, rfl⟩)
    go_ret
    rw [hz.out]
    exact ⟨rfl, FIN.out _⟩

/-- The low word of a magnitude. -/
def low (m : Nat → Int) (k : Nat) : Int := if k = 0 then 0 else m 0

/-- math/big.low64. -/
theorem low64_any (ao : Option Addr) (k cap p : Nat) (m : Nat → Int) (w : World) (h : Nat' w p ao k cap m) :
    Calls Try.prog 25 #[.slice ao k cap] w fun e w' => e = .returned (.int .u64 (low m k)) ∧ w' = w := by
  unfold low
  by_cases hk : k = 0
  · subst hk
    go_enter Try.func25, Try.ntmps25
    go_wp2
    go_ret
    exact ⟨rfl, rfl⟩
  · rcases h with ⟨_, h, _⟩ | ⟨g, N, f, rfl, _, hkN, _, hcap, hr, hf⟩
    · exact absurd h hk
    · have hc := hr.cell (j := 0) (by omega)
      rw [hf 0 (by omega)] at hc
      rw [if_neg hk]
      have hk1 : ((k : Int) == 0) = false := beq_eq_false_iff_ne.2 (by omega)
      have hk2 : 0 < k := by omega
      clear hf hr
      go_enter Try.func25, Try.ntmps25
      go_wp2
      go_ret
      exact ⟨rfl, rfl⟩

def isI64 (neg : Bool) (x : Int) (k : Nat) : Bool := decide (k ≤ 1) && (decide (x ≤ 9223372036854775807) || (neg && x == 9223372036854775808))

set_option maxHeartbeats 400000 in
/-- (*math/big.Int).IsInt64. -/
theorem IsInt64_any (p : Nat) (neg : Bool) (m : Nat → Int) (k : Nat) (w : World) (h : Big w p neg m k) (hm : Words m) :
    Calls Try.prog 13 #[.pointer (some ⟨p, 0, none⟩)] w fun e w' => e = .returned (.bool (isI64 neg (low m k) k)) ∧ w' = w := by
  obtain ⟨ao, cap, hp, hn⟩ := h
  have c0 := hp.cell0
  have c1 := hp.cell1
  have hb : 0 ≤ low m k ∧ low m k ≤ 18446744073709551615 := by unfold low; split; omega; exact hm 0
  obtain ⟨x, hx⟩ : ∃ x, low m k = x := ⟨_, rfl⟩
  rw [hx] at hb ⊢
  have HX : Hid (low m k = x) := hx
  clear hx
  by_cases hk : k ≤ 1
  · by_cases h1 : x ≤ 9223372036854775807
    · have hfin : Hid (isI64 neg x k = true) := by show isI64 neg x k = true; simp [isI64, hk, h1]
      go_enter Try.func13, Try.ntmps13
      go_wp2_with (go_at_call 25; refine (low64_any _ _ _ p m _ hn).mono ?_; rintro e w' ⟨rfl, rfl⟩; rw [HX.out])
      go_ret
      rw [hfin.out]
      exact ⟨rfl, rfl⟩
    · have hy0 : wrap64 x < 0 ∧ -9223372036854775808 ≤ wrap64 x ∧ (wrap64 x = -9223372036854775808 ↔ x = 9223372036854775808) := by unfold wrap64; omega
      obtain ⟨y, hy⟩ : ∃ y, wrap64 x = y := ⟨_, rfl⟩
      rw [hy] at hy0
      obtain ⟨hy1, hy2, hy3⟩ := hy0
      have hd : decide (0 ≤ y) = false := decide_eq_false (by omega)
      cases neg with
      | false =>
        have hfin : Hid (isI64 false x k = false) := by show isI64 false x k = false; simp [isI64, h1]
        clear hy3
        go_enter Try.func13, Try.ntmps13
        go_wp2_with (go_at_call 25; refine (low64_any _ _ _ p m _ hn).mono ?_; rintro e w' ⟨rfl, rfl⟩; rw [HX.out])
        go_ret
        rw [hfin.out]
        exact ⟨rfl, rfl⟩
      | true =>
        by_cases h3 : y = -9223372036854775808
        · have h4 : x = 9223372036854775808 := hy3.1 h3
          have hfin : Hid (isI64 true x k = true) := by show isI64 true x k = true; simp [isI64, hk, h4]
          subst h3
          have h7 : ((-9223372036854775808 : Int) == wrap64 9223372036854775808) = true := by rw [beq_iff_eq]; unfold wrap64; omega
          clear hy3 h4
          go_enter Try.func13, Try.ntmps13
          go_wp2_with (go_at_call 25; refine (low64_any _ _ _ p m _ hn).mono ?_; rintro e w' ⟨rfl, rfl⟩; rw [HX.out])
          go_ret
          rw [hfin.out]
          exact ⟨rfl, rfl⟩
        · have h4 : (x == 9223372036854775808) = false := beq_eq_false_iff_ne.2 (fun e => h3 (hy3.2 e))
          have hfin : Hid (isI64 true x k = false) := by show isI64 true x k = false; simp [isI64, h1, h4]
          have h5 : (y == -y) = false := beq_eq_false_iff_ne.2 (by omega)
          have h6 : -9223372036854775808 < y := by omega
          clear hy3 h4 h3
          go_enter Try.func13, Try.ntmps13
          go_wp2_with (go_at_call 25; refine (low64_any _ _ _ p m _ hn).mono ?_; rintro e w' ⟨rfl, rfl⟩; rw [HX.out])
          go_ret
          rw [hfin.out]
          exact ⟨rfl, rfl⟩
  · have hfin : Hid (isI64 neg x k = false) := by show isI64 neg x k = false; simp [isI64, hk]
    go_enter Try.func13, Try.ntmps13
    go_wp2
    go_ret
    rw [hfin.out]
    exact ⟨rfl, rfl⟩

/-- What (*math/big.Int).Int64 answers. -/
def i64Of (neg : Bool) (x : Int) : Int := if neg then wrap64 (-(wrap64 x)) else wrap64 x

set_option maxHeartbeats 400000 in
/-- (*math/big.Int).Int64. -/
theorem Int64_any (p : Nat) (neg : Bool) (m : Nat → Int) (k : Nat) (w : World) (h : Big w p neg m k) :
    Calls Try.prog 14 #[.pointer (some ⟨p, 0, none⟩)] w fun e w' => e = .returned (.int .i64 (i64Of neg (low m k))) ∧ w' = w := by
  obtain ⟨ao, cap, hp, hn⟩ := h
  have c0 := hp.cell0
  have c1 := hp.cell1
  obtain ⟨x, hx⟩ : ∃ x, low m k = x := ⟨_, rfl⟩
  rw [hx]
  have HX : Hid (low m k = x) := hx
  clear hx
  cases neg with
  | false =>
    have hfin : Hid (i64Of false x = wrap64 x) := by show i64Of false x = wrap64 x; simp [i64Of]
    go_enter Try.func14, Try.ntmps14
    go_wp2_with (go_at_call 25; refine (low64_any _ _ _ p m _ hn).mono ?_; rintro e w' ⟨rfl, rfl⟩; rw [HX.out])
    go_ret
    rw [hfin.out]
    exact ⟨rfl, rfl⟩
  | true =>
    have hfin : Hid (i64Of true x = wrap64 (-(wrap64 x))) := by show i64Of true x = wrap64 (-(wrap64 x)); simp [i64Of]
    go_enter Try.func14, Try.ntmps14
    go_wp2_with (go_at_call 25; refine (low64_any _ _ _ p m _ hn).mono ?_; rintro e w' ⟨rfl, rfl⟩; rw [HX.out])
    go_ret
    rw [hfin.out]
    exact ⟨rfl, rfl⟩

/-- (*math/big.Int).Sign. -/
theorem Sign_any (p : Nat) (neg : Bool) (m : Nat → Int) (k : Nat) (w : World) (h : Big w p neg m k) (h0 : 0 < k) :
    Calls Try.prog 29 #[.pointer (some ⟨p, 0, none⟩)] w fun e w' => e = .returned (.int .i64 (if neg then -1 else 1)) ∧ w' = w := by
  obtain ⟨ao, cap, hp, hn⟩ := h
  have c0 := hp.cell0
  have c1 := hp.cell1
  have hk1 : ((k : Int) == 0) = false := beq_eq_false_iff_ne.2 (by omega)
  cases neg with
  | false =>
    go_enter Try.func29, Try.ntmps29
    go_wp2
    go_ret
    exact ⟨rfl, rfl⟩
  | true =>
    go_enter Try.func29, Try.ntmps29
    go_wp2
    go_ret
    exact ⟨rfl, rfl⟩
end Go.Proofs.Qxb6626481a
