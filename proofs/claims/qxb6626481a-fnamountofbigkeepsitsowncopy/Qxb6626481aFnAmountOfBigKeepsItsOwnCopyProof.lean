import Derived.Test.Qxb6626481aRows
import Derived.WalkKit
import Derived.ProofKit
import Derived.OpenShut
import Derived.ShutString
import Derived.ChangeOld
import Derived.Below
import Derived.WalkSpells
import Derived.Test.Qxb6626481aAll
namespace Go.Proofs.Qxb6626481a.fnAmountOfBigKeepsItsOwnCopy
open Go.ChangeShapes Go.WideShapes Go.ChangeAt Go.RowKit
open Go.ChangeMaps (open_string shut_string)
set_option linter.unusedVariables false

theorem own : ownKnob Try.prog.godebug = none := by kernel_rfl
theorem laidOut : laidOutB Try.prog = true := by kernel_rfl

/-- WHAT THE WALK IS TOLD OF A SLICE OF INTEGERS THAT CAME IN: it is nil; or it leads to a row of 'cap' cells, the numbers 'zs' (the first 'len' are its elements, the rest its spare room), each fitting its kind. -/
def IsRow (k : IntKind) (w : World) (a : Option Addr) (len cap : Nat) (zs : List Int) : Prop :=
  (a = none ∧ len = 0 ∧ cap = 0 ∧ zs = []) ∨
  ∃ x, a = some x ∧ len ≤ cap ∧ cap ≤ maxLen ∧ zs.length = cap ∧ (∀ i, i < zs.length → w.cell? (x.add i) = some (.int k (zs.getD i 0))) ∧ ∀ n ∈ zs, (Lit.int k n).wf = true

set_option maxHeartbeats 400000 in
/-- ZZneg. -/
theorem zzneg (p : Nat) (neg : Bool) (m : Nat → Int) (k : Nat) (w : World) (h : Big w p (decide (0 < k) && neg) m k) :
    Calls Try.prog 10 #[.pointer (some ⟨p, 0, none⟩)] w fun e w' => e = .returned (.tuple #[]) ∧ Big w' p (decide (0 < k) && !neg) m k ∧ w.grownBy w' (some p) := by
  go_enter Try.func10, Try.ntmps10
  go_wp2_with fail
  refine (Neg_self p _ m k _ h).mono ?_
  rintro e w1 ⟨rfl, hb, hg⟩
  have hd : (decide (0 < k) && !(decide (0 < k) && neg)) = (decide (0 < k) && !neg) := by cases decide (0 < k) <;> cases neg <;> rfl
  rw [hd] at hb
  go_wp2
  go_end0
  exact ⟨rfl, hb, hg⟩

/-! ### STEP 1: THE WALK: the Go text returns true, AND WRITES NOTHING THAT WAS THERE: 'Below w.heap.size w w'' (Derived/Below.lean: '.refl', '.alloc', '.drew', '.setCell' at a new block, '.trans'). Open each 'IsRow' by 'rcases' AHEAD of 'go_enter'; part every test ahead of the walk. -/
theorem walk (a0 : Bool) (a1 : Option Addr) (len1 cap1 : Nat) (z1 : List Int) (w : World) (w1 : IsRow .u64 w a1 len1 cap1 z1) :
    Calls Try.prog 4 #[.bool a0, .slice a1 len1 cap1] w fun e w' => e = .returned (.bool true) ∧ Below w.heap.size w w' := by
  by_cases hbig : 131072 < len1
  · have hr : len1 ≤ maxLen := by
      rcases w1 with ⟨_, h, _⟩ | ⟨x, _, h1, h2, _⟩
      · omega
      · omega
    unfold maxLen at hr
    by_cases hb2 : 1048576 < len1
    · go_enter Try.func4, Try.ntmps4
      go_wp2
      go_ret
      exact ⟨rfl, Below.refl _ _⟩
    · go_enter Try.func4, Try.ntmps4
      go_wp2
      go_ret
      exact ⟨rfl, Below.refl _ _⟩
  · rcases w1 with ⟨rfl, rfl, rfl, rfl⟩ | ⟨x, rfl, hl, hm, hz, hcell, hwz⟩
    · have hnil := fun w : World => run_neq_slice_nil_any (P := Try.prog) w 22 33 none 0 0 0 0 Try.underlying22
      go_enter Try.func4, Try.ntmps4
      go_wp2_with (go_at_call 9; refine (zzBytes4 _ _ _ _ _ (by omega)).mono ?_; rintro e w' ⟨rfl, rfl⟩)
      have hs : Src w' none 0 (fun _ => 0) := .inl ⟨rfl, rfl⟩
      have hW : Words (fun _ => 0) := fun _ => ⟨Int.le_refl 0, (by decide : (0 : Int) ≤ 18446744073709551615)⟩
      have hG := gb_refl w' none
      have hlt : ∀ p, w'.heap.size ≤ p → ∀ g, (none : Option Addr) = some ⟨g, 0, none⟩ → g ≠ p := fun p _ g h => by cases h
      obtain ⟨m, hm⟩ : ∃ m : Nat → Int, (fun _ => 0) = m := ⟨_, rfl⟩
      rw [hm] at hs hW
      clear hm
      refine (ZBig_all a0 _ _ _ m _ hs hW (by omega)).mono ?_
      rintro e w2 ⟨p, k, rfl, hk, hb, hg2, hp⟩
      have hNP := hlt p hp
      have S2 := hs.grown hg2
      have G2 := gb_trans hG hg2
      clear hlt
      have hp2 : p < w2.heap.size := by obtain ⟨_, _, h, _⟩ := hb; exact h.lt
      have hpw : w'.heap.size ≤ p := Nat.le_trans hG.size hp
      go_wp2_with fail
      refine (Amount_all p a0 m k _ hb hW (by have := hk.le; omega)).mono ?_
      rintro e w3 ⟨x3, y3, rfl, ha, hg3⟩
      have hsz3 := hg3.size
      have S3 := (S2.grown hg3).grown (gb_alloc w3 (.cells #[.int .i64 x3, .pointer y3] 27) none)
      have B3 := (hb.grown hg3).grown (gb_alloc w3 (.cells #[.int .i64 x3, .pointer y3] 27) none)
      have A3 := ha.grown (gb_alloc w3 (.cells #[.int .i64 x3, .pointer y3] 27) none)
      have P3 := Pair.made w3 27 (.int .i64 x3) (.pointer y3)
      have G3 := gb_trans (gb_trans G2 hg3) (gb_alloc w3 (.cells #[.int .i64 x3, .pointer y3] 27) none)
      go_wp2_with fail
      refine (zzneg p a0 m k _ B3).mono ?_
      rintro e w4 ⟨rfl, B4, hg4⟩
      have G4 := gb_new G3 hg4 hpw
      have S4 : Src w4 _ _ m := S3.grown_other hNP hg4
      have A4 : AmtIs w4 w2.heap.size x3 y3 a0 m k := by
        obtain ⟨_, _, hpp, _⟩ := B3
        exact A3.grown_other hpp hp2 hg4
      have P4 : Pair w4 w3.heap.size 27 (.int .i64 x3) (.pointer y3) := P3.grown hg4 (by simp; omega)
      clear S3 B3 A3 P3 G3 hg4 ha hb hg3 hg2 S2
      go_wp2_with fail
      refine (Amount_all p (!a0) m k _ B4 hW (by have := hk.le; omega)).mono ?_
      rintro e w5 ⟨x5, y5, rfl, ha5, hg5⟩
      have P5 := P4.grown hg5 (by simp)
      have c0 := P5.cell0
      have c1 := P5.cell1
      have hl5 := P5.lt
      have S5 := (S4.grown hg5).grown (gb_alloc w5 (.cells #[.int .i64 x5, .pointer y5] 27) none)
      have A5 := (A4.grown hg5).grown (gb_alloc w5 (.cells #[.int .i64 x5, .pointer y5] 27) none)
      have D5 := ha5.grown (gb_alloc w5 (.cells #[.int .i64 x5, .pointer y5] 27) none)
      have Q5 := Pair.made w5 27 (.int .i64 x5) (.pointer y5)
      have G5 := gb_trans (gb_trans G4 hg5) (gb_alloc w5 (.cells #[.int .i64 x5, .pointer y5] 27) none)
      clear S4 A4 P4 G4 P5 ha5 hg5
      go_wp2_with fail
      refine (holds_all _ x3 y3 a0 _ _ _ k m _ A5 S5 hW hk (by omega)).mono ?_
      rintro e w6 ⟨rfl, hg6⟩
      have Q6 := Q5.grown hg6 (by simp)
      have d0 := Q6.cell0
      have d1 := Q6.cell1
      have S6 := S5.grown hg6
      have D6 := D5.grown hg6
      have G6 := gb_trans G5 hg6
      clear S5 D5 Q5 Q6 G5 hg6 A5 c0 c1
      go_wp2_with fail
      refine (holds_all _ x5 y5 (!a0) _ _ _ k m _ D6 S6 hW hk (by omega)).mono ?_
      rintro e w7 ⟨rfl, hg7⟩
      go_wp2
      go_ret
      exact ⟨rfl, gb_below (gb_trans G6 hg7)⟩
    · have hmk := fun w : World => make_words (len1 : Int) len1 rfl (by omega) w
      obtain ⟨w1, hcopy, hrow, hg1⟩ := copy_mag z1 x len1 cap1 w (by omega) hcell
      have hnil := fun w : World => run_neq_slice_nil_any (P := Try.prog) w 22 33 (some x) len1 cap1 0 0 Try.underlying22
      have hW := words_of z1 hwz
      obtain ⟨m, hmz⟩ : ∃ m : Nat → Int, (fun j => z1.getD j 0) = m := ⟨_, rfl⟩
      rw [hmz] at hrow hW
      clear hmz hcell hwz
      go_enter Try.func4, Try.ntmps4
      go_wp2_with (go_at_call 9; refine (zzBytes4 _ _ _ _ _ (by omega)).mono ?_; rintro e w' ⟨rfl, rfl⟩)
      have hs : Src w1 (some ⟨w'.heap.size, 0, none⟩) len1 m := .inr ⟨_, rfl, hrow⟩
      have hG := hg1
      have hlt : ∀ p, w1.heap.size ≤ p → ∀ g, some (⟨w'.heap.size, 0, none⟩ : Addr) = some ⟨g, 0, none⟩ → g ≠ p := fun p hp g h => by
        have := hrow.lt
        simp at h
        omega
      clear hcopy hg1 hrow
      refine (ZBig_all a0 _ _ _ m _ hs hW (by omega)).mono ?_
      rintro e w2 ⟨p, k, rfl, hk, hb, hg2, hp⟩
      have hNP := hlt p hp
      have S2 := hs.grown hg2
      have G2 := gb_trans hG hg2
      clear hlt
      have hp2 : p < w2.heap.size := by obtain ⟨_, _, h, _⟩ := hb; exact h.lt
      have hpw : w'.heap.size ≤ p := Nat.le_trans hG.size hp
      go_wp2_with fail
      refine (Amount_all p a0 m k _ hb hW (by have := hk.le; omega)).mono ?_
      rintro e w3 ⟨x3, y3, rfl, ha, hg3⟩
      have hsz3 := hg3.size
      have S3 := (S2.grown hg3).grown (gb_alloc w3 (.cells #[.int .i64 x3, .pointer y3] 27) none)
      have B3 := (hb.grown hg3).grown (gb_alloc w3 (.cells #[.int .i64 x3, .pointer y3] 27) none)
      have A3 := ha.grown (gb_alloc w3 (.cells #[.int .i64 x3, .pointer y3] 27) none)
      have P3 := Pair.made w3 27 (.int .i64 x3) (.pointer y3)
      have G3 := gb_trans (gb_trans G2 hg3) (gb_alloc w3 (.cells #[.int .i64 x3, .pointer y3] 27) none)
      go_wp2_with fail
      refine (zzneg p a0 m k _ B3).mono ?_
      rintro e w4 ⟨rfl, B4, hg4⟩
      have G4 := gb_new G3 hg4 hpw
      have S4 : Src w4 _ _ m := S3.grown_other hNP hg4
      have A4 : AmtIs w4 w2.heap.size x3 y3 a0 m k := by
        obtain ⟨_, _, hpp, _⟩ := B3
        exact A3.grown_other hpp hp2 hg4
      have P4 : Pair w4 w3.heap.size 27 (.int .i64 x3) (.pointer y3) := P3.grown hg4 (by simp; omega)
      clear S3 B3 A3 P3 G3 hg4 ha hb hg3 hg2 S2
      go_wp2_with fail
      refine (Amount_all p (!a0) m k _ B4 hW (by have := hk.le; omega)).mono ?_
      rintro e w5 ⟨x5, y5, rfl, ha5, hg5⟩
      have P5 := P4.grown hg5 (by simp)
      have c0 := P5.cell0
      have c1 := P5.cell1
      have hl5 := P5.lt
      have S5 := (S4.grown hg5).grown (gb_alloc w5 (.cells #[.int .i64 x5, .pointer y5] 27) none)
      have A5 := (A4.grown hg5).grown (gb_alloc w5 (.cells #[.int .i64 x5, .pointer y5] 27) none)
      have D5 := ha5.grown (gb_alloc w5 (.cells #[.int .i64 x5, .pointer y5] 27) none)
      have Q5 := Pair.made w5 27 (.int .i64 x5) (.pointer y5)
      have G5 := gb_trans (gb_trans G4 hg5) (gb_alloc w5 (.cells #[.int .i64 x5, .pointer y5] 27) none)
      clear S4 A4 P4 G4 P5 ha5 hg5
      go_wp2_with fail
      refine (holds_all _ x3 y3 a0 _ _ _ k m _ A5 S5 hW hk (by omega)).mono ?_
      rintro e w6 ⟨rfl, hg6⟩
      have Q6 := Q5.grown hg6 (by simp)
      have d0 := Q6.cell0
      have d1 := Q6.cell1
      have S6 := S5.grown hg6
      have D6 := D5.grown hg6
      have G6 := gb_trans G5 hg6
      clear S5 D5 Q5 Q6 G5 hg6 A5 c0 c1
      go_wp2_with fail
      refine (holds_all _ x5 y5 (!a0) _ _ _ k m _ D6 S6 hW hk (by omega)).mono ?_
      rintro e w7 ⟨rfl, hg7⟩
      go_wp2
      go_ret
      exact ⟨rfl, gb_below (gb_trans G6 hg7)⟩

/-! ### THE ROW's STEP: WRITTEN OUT: LEAVE IT -/
set_option maxRecDepth 100000 in
theorem lifted (os : Os) (started : os.Started) (H : Type) (enc : TypeId × Value → H) :
    ReturnsInHanded {} Try.checked os 4 .any (Rows.fnAmountOfBigKeepsItsOwnCopySpec.pre6 enc Try.prog Try.f4 Rows.fnAmountOfBigKeepsItsOwnCopyRow.domain false) (Rows.fnAmountOfBigKeepsItsOwnCopySpec.post enc Try.prog Try.f4 false true false false) := by
  refine returnsInHanded_of_change (C := Try.checked) own started (by kernel_rfl) Try.func4
    (ChangeSpec.witness6 (enc := enc) (C := Try.checked) false ⟨#[], #[.bool false, .slice none 0 0], []⟩ 8 (by kernel_rfl) (by kernel_rfl) (by kernel_rfl) (by kernel_rfl)) ?_
  intro W base args ds gs before hval0 hW hcnd _
  have hval : ∀ (j : Nat) t v, Try.f4.params[j]? = some t → args[j]? = some v → Value.okWide Try.prog W .any base t v := hval0
  have hW' := hW
  obtain ⟨p, q, hA0, hV, rfl, hfz, hnd⟩ := hW
  have hA : DataW.TrodAll enc Try.prog W 0 (fun _ => true) true Try.f4.params.toList args.toList ds p := hA0
  rw [Try.params4] at hA hval
  obtain ⟨v0, vs0, d0, ds0, p0, q0, hargs, rfl, rfl, h0, r0⟩ := trodAll_cons hA
  obtain ⟨v1, vs1, d1, ds1, p1, q1, rfl, rfl, rfl, h1, r1⟩ := trodAll_cons r0
  obtain ⟨rfl, rfl, rfl⟩ := trodAll_nil r1
  obtain rfl : args = #[v0, v1] := by cases args; simp_all
  obtain ⟨rfl, rfl⟩ := trodVars_none hV
  obtain ⟨a0, rfl, rfl, rfl⟩ := open_bool Try.underlying4 (hval 0 4 v0 rfl rfl) h0
  obtain ⟨a1, len1, cap1, rfl⟩ := okWide_slice Try.underlying22 (hval 1 22 v1 rfl rfl)
  have k1 := h1
  have lt1 : ∀ x ∈ p1, x.block < W.heap.size := by obtain ⟨m, hm⟩ := k1; exact DataW.trod_lt m _ _ _ hm
  obtain ⟨z1, w1⟩ : ∃ zs, IsRow .u64 W a1 len1 cap1 zs := by
    obtain ⟨fuel, hf⟩ := h1
    rcases open_ints Try.underlying22 Try.underlying33 (by kernel_rfl) hf with ⟨hcs, _⟩ | ⟨x, l, c, zs, hcs, _, hl, hm, hz, _, hcell, hwz⟩
    · simp [Value.cells] at hcs
      obtain ⟨rfl, rfl, rfl⟩ := hcs
      exact ⟨[], .inl ⟨rfl, rfl, rfl, rfl⟩⟩
    · simp [Value.cells] at hcs
      obtain ⟨rfl, rfl, rfl⟩ := hcs
      exact ⟨zs, .inr ⟨_, rfl, hl, hm, by simpa using hz, hcell, hwz⟩⟩
  clear hA0 hval0
  refine (walk a0 a1 len1 cap1 z1 W w1).mono fun e W' ⟨he, bel⟩ => ?_
  subst he
  exact ⟨_, rfl, _, _, _, [], _, [], hW', trodAll_mk1 (shut_bool Try.underlying4 _), (trodAll_cons_mk (shut_bool Try.underlying4 _) (trodAll_cons_mk (Below.trod laidOut (by kernel_rfl) (of_decide_eq_true (by kernel_rfl)) k1 bel lt1) trodAll_mk0)), rfl, bel.frame _, fun h => by cases h⟩

theorem over : Rows.fnAmountOfBigKeepsItsOwnCopyRow.holds Try.pinned (OpenSpec.ofChange Rows.fnAmountOfBigKeepsItsOwnCopySpec) :=
  OpenClaim.holds_of_wide 4 Try.f4 rfl rfl rfl rfl rfl rfl rfl ⟨rfl, rfl, rfl, rfl, rfl⟩ rfl rfl rfl rfl rfl (by kernel_rfl) Try.func4 (by kernel_rfl)
    (of_decide_eq_true (by kernel_rfl)) (by unfold Func.isWrapper; first | (rw [if_pos (by decide +kernel)]; kernel_rfl) | (rw [if_neg (by decide +kernel)]; exact ⟨rfl, rfl⟩))
    (fun os started H enc _ => lifted os started H enc)

/-- The statement. -/
theorem proved : Rows.FnAmountOfBigKeepsItsOwnCopySaid := over
end Go.Proofs.Qxb6626481a.fnAmountOfBigKeepsItsOwnCopy

namespace Go.Proofs.Qxb6626481a
theorem fnAmountOfBigKeepsItsOwnCopyProved : Rows.FnAmountOfBigKeepsItsOwnCopySaid := fnAmountOfBigKeepsItsOwnCopy.proved
end Go.Proofs.Qxb6626481a
