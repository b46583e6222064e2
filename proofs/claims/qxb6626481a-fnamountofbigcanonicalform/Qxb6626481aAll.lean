import Derived.Test.Qxb6626481aHoldsB
import Derived.OpenShut
namespace Go.Proofs.Qxb6626481a
open Go.RowKit

/-- The Amount (x, y) is the one form of the value (neg, the first k words of m); a big.Int that it holds lies from block B on. -/
def AmtIs (w : World) (B : Nat) (x : Int) (y : Option Addr) (neg : Bool) (m : Nat → Int) (k : Nat) : Prop :=
  (k = 0 ∧ x = 0 ∧ y = none) ∨ (k = 1 ∧ isI64 neg (m 0) 1 = true ∧ x = i64Of neg (m 0) ∧ y = none) ∨
  (0 < k ∧ isI64 neg (m 0) k = false ∧ x = 0 ∧ ∃ q, y = some ⟨q, 0, none⟩ ∧ B ≤ q ∧ Big w q neg m k)

theorem AmtIs.grown {w w' : World} {B : Nat} {x : Int} {y : Option Addr} {neg : Bool} {m : Nat → Int} {k : Nat} (h : AmtIs w B x y neg m k) (hg : w.grownBy w' none) : AmtIs w' B x y neg m k := by
  rcases h with h | h | ⟨h1, h2, h3, q, h4, h5, h6⟩
  · exact .inl h
  · exact .inr (.inl h)
  · exact .inr (.inr ⟨h1, h2, h3, q, h4, h5, h6.grown hg⟩)

/-- Another big.Int's block is written. -/
theorem Big.grown_other {w w' : World} {p q : Nat} {neg : Bool} {m : Nat → Int} {k : Nat} {b : Bool} {c : Value} (h : Big w q neg m k) (h0 : 0 < k) (hp : Pair w p 38 (.bool b) c) (hqp : q ≠ p) (hg : w.grownBy w' (some p)) : Big w' q neg m k := by
  obtain ⟨ao, cap, hq, hn⟩ := h
  rcases hn with ⟨_, hk, _⟩ | ⟨g, N, f, rfl, hgq, hkN, hkc, hcap, hr, hf⟩
  · omega
  have hgp : g ≠ p := by
    intro e; subst e
    have e0 := hr.cell (j := 0) (by omega)
    rw [hp.cell0] at e0
    simp at e0
  exact ⟨_, cap, hq.grown hg (by simpa using hqp), .inr ⟨g, N, f, rfl, hgq, hkN, hkc, hcap, hr.grown hg (by simpa using hgp), hf⟩⟩

theorem AmtIs.grown_other {w w' : World} {B p : Nat} {x : Int} {y : Option Addr} {neg : Bool} {m : Nat → Int} {k : Nat} {b : Bool} {c : Value} (h : AmtIs w B x y neg m k) (hp : Pair w p 38 (.bool b) c) (hpB : p < B) (hg : w.grownBy w' (some p)) : AmtIs w' B x y neg m k := by
  rcases h with h | h | ⟨h1, h2, h3, q, h4, h5, h6⟩
  · exact .inl h
  · exact .inr (.inl h)
  · exact .inr (.inr ⟨h1, h2, h3, q, h4, h5, h6.grown_other h1 hp (by omega) hg⟩)

theorem Src.grown_other {w w' : World} {ao : Option Addr} {n p : Nat} {m : Nat → Int} (h : Src w ao n m) (hne : ∀ g, ao = some ⟨g, 0, none⟩ → g ≠ p) (hg : w.grownBy w' (some p)) : Src w' ao n m := by
  rcases h with h | ⟨g, h1, h2⟩
  · exact .inl h
  · exact .inr ⟨g, h1, h2.grown hg (by simpa using hne g h1)⟩

theorem ZBig_all (neg : Bool) (ao : Option Addr) (n cap : Nat) (m : Nat → Int) (w : World) (hs : Src w ao n m) (hm : Words m) (hl : n ≤ 131072) :
    Calls Try.prog 6 #[.bool false, .bool neg, .slice ao n cap] w fun e w' =>
      ∃ p k, e = .returned (.pointer (some ⟨p, 0, none⟩)) ∧ IsNrm m n k ∧ Big w' p (decide (0 < k) && neg) m k ∧ w.grownBy w' none ∧ w.heap.size ≤ p := by
  by_cases h0 : n = 0
  · subst h0
    refine (ZBig_zero neg ao cap m w).mono ?_
    rintro e w' ⟨p, rfl, hb, hg, hp⟩
    exact ⟨p, 0, rfl, ⟨Nat.le_refl _, fun j _ h => by omega, fun h => by omega⟩, by simpa using hb, hg, hp⟩
  · rcases hs with ⟨_, h⟩ | ⟨g, rfl, hr⟩
    · exact absurd h h0
    · exact ZBig_any neg g n cap m w hr hm (by omega) hl

theorem Amount_all (p : Nat) (neg : Bool) (m : Nat → Int) (k : Nat) (w : World) (h : Big w p (decide (0 < k) && neg) m k) (hm : Words m) (hl : k ≤ 131072) :
    Calls Try.prog 7 #[.pointer (some ⟨p, 0, none⟩)] w fun e w' => ∃ x y, e = .returned (.agg #[.int .i64 x, .pointer y]) ∧ AmtIs w' w.heap.size x y neg m k ∧ w.grownBy w' none := by
  by_cases h0 : k = 0
  · subst h0
    simp at h
    refine (Amount_small p false m 0 w h hm (by simp [isI64, low])).mono ?_
    rintro e w' ⟨rfl, hg⟩
    exact ⟨_, _, rfl, .inl ⟨rfl, by simp [i64Of, low, wrap64], rfl⟩, hg⟩
  · have hd : (decide (0 < k) && neg) = neg := by simp; omega
    rw [hd] at h
    have hlow : low m k = m 0 := by simp [low, h0]
    cases hi : isI64 neg (m 0) k with
    | true =>
      have hk1 : k = 1 := by
        simp only [isI64, Bool.and_eq_true, decide_eq_true_eq] at hi
        omega
      refine (Amount_small p neg m k w h hm (by rw [hlow]; exact hi)).mono ?_
      rintro e w' ⟨rfl, hg⟩
      subst hk1
      exact ⟨_, _, rfl, .inr (.inl ⟨rfl, hi, by rw [hlow], rfl⟩), hg⟩
    | false =>
      refine (Amount_big p neg m k w h hm (by rw [hlow]; exact hi) (by omega) hl).mono ?_
      rintro e w' ⟨q, rfl, hq, hb, hg⟩
      exact ⟨_, _, rfl, .inr (.inr ⟨by omega, hi, rfl, q, rfl, hq, hb⟩), hg⟩

theorem holds_all (B : Nat) (x : Int) (y : Option Addr) (neg : Bool) (ao : Option Addr) (n cap k : Nat) (m : Nat → Int) (w : World) (ha : AmtIs w B x y neg m k) (hs : Src w ao n m) (hm : Words m) (hk : IsNrm m n k) (hl : n ≤ 131072) :
    Calls Try.prog 8 #[.agg #[.int .i64 x, .pointer y], .bool false, .bool neg, .slice ao n cap] w fun e w' => e = .returned (.bool true) ∧ w.grownBy w' none := by
  rcases ha with ⟨rfl, rfl, rfl⟩ | ⟨rfl, h1, rfl, rfl⟩ | ⟨h1, h2, rfl, q, rfl, _, hb⟩
  · exact holds_zero false neg ao n cap 0 m w hs hk hl (.inr rfl)
  · exact holds_one neg ao n cap m w hs hm hk hl h1
  · exact holds_big neg q ao n cap k m w hs hm hk hl h1 h2 hb

theorem nrm_exists (m : Nat → Int) (n : Nat) : ∃ k, IsNrm m n k := by
  induction n with
  | zero => exact ⟨0, Nat.le_refl _, fun j _ h => by omega, fun h => by omega⟩
  | succ n ih =>
    by_cases h : m n = 0
    · obtain ⟨k, hk⟩ := ih
      refine ⟨k, by have := hk.le; omega, fun j h1 h2 => ?_, hk.top⟩
      by_cases e : j = n
      · rw [e]; exact h
      · exact hk.zero j h1 (by omega)
    · exact ⟨n + 1, Nat.le_refl _, fun j h1 h2 => by omega, fun _ => h⟩

theorem zzBytes3 (a0 a1 : Bool) (ao : Option Addr) (n cap : Nat) (w : World) (hl : n ≤ 1048576) :
    Calls Try.prog 5 #[.bool a0, .bool a1, .slice ao n cap] w fun e w' => e = .returned (.bool true) ∧ w' = w := by
  go_enter Try.func5, Try.ntmps5
  go_wp2
  go_ret
  exact ⟨rfl, rfl⟩

theorem zzBytes4 (a1 : Bool) (ao : Option Addr) (n cap : Nat) (w : World) (hl : n ≤ 1048576) :
    Calls Try.prog 9 #[.bool a1, .slice ao n cap] w fun e w' => e = .returned (.bool true) ∧ w' = w := by
  go_enter Try.func9, Try.ntmps9
  go_wp2
  go_ret
  exact ⟨rfl, rfl⟩

theorem words_of (zs : List Int) (hz : ∀ n ∈ zs, (Lit.int .u64 n).wf = true) : Words (fun j => zs.getD j 0) := by
  intro j
  show 0 ≤ zs.getD j 0 ∧ zs.getD j 0 ≤ 18446744073709551615
  by_cases hj : j < zs.length
  · have h := bounds_u64 (hz (zs.getD j 0) (by rw [List.getD_eq_getElem?_getD, List.getElem?_eq_getElem hj]; exact List.getElem_mem hj))
    exact h
  · rw [List.getD_eq_getElem?_getD, List.getElem?_eq_none (by omega)]
    decide

/-- The law's own copy of the magnitude: 'make' and 'copy'. -/
theorem copy_mag (zs : List Int) (x : Addr) (n cap : Nat) (w : World) (hn : n ≤ zs.length) (hcell : ∀ i, i < zs.length → w.cell? (x.add i) = some (.int .u64 (zs.getD i 0))) :
    ∃ w1, (Builtin.copy_ #[22, 22] 3 #[.slice (some ⟨w.heap.size, 0, none⟩) n n, .slice (some x) n cap]).run Try.prog (w.alloc (.cells (madeCells #[.int .u64 0] n) 33)) = .ok (.int .i64 n) w1 ∧
      Row w1 w.heap.size .u64 33 n (fun j => zs.getD j 0) ∧ w.grownBy w1 none := by
  obtain ⟨w1, hcopy, hrow, hg1⟩ := run_copy_ints (P := Try.prog) (w.alloc (.cells (madeCells #[.int .u64 0] n) 33)) 22 22 3 33 Try.underlying22 size33 w.heap.size n n cap n .u64 33 (fun _ => 0) (fun j => zs.getD j 0) x
    (Row.made w .u64 33 n) (Nat.le_refl _) (fun j hj => by
      have := hcell j (by omega)
      rw [World.cell?_alloc_lt _ _ _ (block_lt_of_cell this)]
      exact this)
  exact ⟨w1, hcopy, hrow.congr (fun j hj => by simp [hj]), gb_new (gb_alloc _ _ _) hg1 (Nat.le_refl _)⟩
end Go.Proofs.Qxb6626481a
