import Derived.Test.Qxb6626481aRows
import Derived.WalkKit
import Derived.ProofKit
import Derived.OpenShut
import Derived.ShutString
import Derived.ChangeOld
import Derived.Below
import Derived.WalkSpells
import Derived.Test.Qxb6626481aAll
namespace Go.Proofs.Qxb6626481a.fnAmountOfBigCanonicalForm
open Go.ChangeShapes Go.WideShapes Go.ChangeAt Go.RowKit
open Go.ChangeMaps (open_string shut_string)
set_option linter.unusedVariables false

theorem own : ownKnob Try.prog.godebug = none := by kernel_rfl
theorem laidOut : laidOutB Try.prog = true := by kernel_rfl

/-- WHAT THE WALK IS TOLD OF A SLICE OF INTEGERS THAT CAME IN: it is nil; or it leads to a row of 'cap' cells, the numbers 'zs' (the first 'len' are its elements, the rest its spare room), each fitting its kind. -/
def IsRow (k : IntKind) (w : World) (a : Option Addr) (len cap : Nat) (zs : List Int) : Prop :=
  (a = none ∧ len = 0 ∧ cap = 0 ∧ zs = []) ∨
  ∃ x, a = some x ∧ len ≤ cap ∧ cap ≤ maxLen ∧ zs.length = cap ∧ (∀ i, i < zs.length → w.cell? (x.add i) = some (.int k (zs.getD i 0))) ∧ ∀ n ∈ zs, (Lit.int k n).wf = true

/-! ### STEP 1: THE WALK: the Go text returns true, AND WRITES NOTHING THAT WAS THERE: 'Below w.heap.size w w'' (Derived/Below.lean: '.refl', '.alloc', '.drew', '.setCell' at a new block, '.trans'). Open each 'IsRow' by 'rcases' AHEAD of 'go_enter'; part every test ahead of the walk. -/
theorem walk (a0 : Bool) (a1 : Bool) (a2 : Option Addr) (len2 cap2 : Nat) (z2 : List Int) (w : World) (w2 : IsRow .u64 w a2 len2 cap2 z2) :
    Calls Try.prog 3 #[.bool a0, .bool a1, .slice a2 len2 cap2] w fun e w' => e = .returned (.bool true) ∧ Below w.heap.size w w' := by
  by_cases hbig : 131072 < len2
  · have hr : len2 ≤ maxLen := by
      rcases w2 with ⟨_, h, _⟩ | ⟨x, _, h1, h2, _⟩
      · omega
      · omega
    unfold maxLen at hr
    by_cases hb2 : 1048576 < len2
    · go_enter Try.func3, Try.ntmps3
      go_wp2
      go_ret
      exact ⟨rfl, Below.refl _ _⟩
    · go_enter Try.func3, Try.ntmps3
      go_wp2
      go_ret
      exact ⟨rfl, Below.refl _ _⟩
  · rcases w2 with ⟨rfl, rfl, rfl, rfl⟩ | ⟨x, rfl, hl, hm, hz, hcell, hwz⟩
    · have hnil := fun w : World => run_neq_slice_nil_any (P := Try.prog) w 22 33 none 0 0 0 0 Try.underlying22
      go_enter Try.func3, Try.ntmps3
      go_wp2_with (go_at_call 5; refine (zzBytes3 _ _ _ _ _ _ (by omega)).mono ?_; rintro e w' ⟨rfl, rfl⟩)
      have hs : Src w' none 0 (fun _ => 0) := .inl ⟨rfl, rfl⟩
      have hW : Words (fun _ => 0) := fun _ => ⟨Int.le_refl 0, (by decide : (0 : Int) ≤ 18446744073709551615)⟩
      have hG := gb_refl w' none
      obtain ⟨m, hm⟩ : ∃ m : Nat → Int, (fun _ => 0) = m := ⟨_, rfl⟩
      rw [hm] at hs hW
      clear hm
      cases a0 with
      | true =>
        obtain ⟨k, hk⟩ := nrm_exists m 0
        refine (ZBig_nil _ _ _ _ _).mono ?_
        rintro e w2 ⟨rfl, rfl⟩
        go_wp2_with fail
        refine (Amount_nil _).mono ?_
        rintro e w3 ⟨rfl, hg3⟩
        have S3 := hs.grown hg3
        go_wp2_with fail
        refine (holds_zero true a1 _ _ _ k m _ (S3.grown (gb_alloc _ _ _)) hk (by omega) (.inl rfl)).mono ?_
        rintro e w4 ⟨rfl, hg4⟩
        go_wp2
        go_ret
        exact ⟨rfl, gb_below (gb_trans (gb_trans (gb_trans hG hg3) (gb_alloc _ _ _)) hg4)⟩
      | false =>
        refine (ZBig_all a1 _ _ _ m _ hs hW (by omega)).mono ?_
        rintro e w2 ⟨p, k, rfl, hk, hb, hg2, hp⟩
        have S2 := hs.grown hg2
        go_wp2_with fail
        refine (Amount_all p a1 m k _ hb hW (by have := hk.le; omega)).mono ?_
        rintro e w3 ⟨x, y, rfl, ha, hg3⟩
        have S3 := S2.grown hg3
        go_wp2_with fail
        refine (holds_all _ x y a1 _ _ _ k m _ (ha.grown (gb_alloc _ _ _)) (S3.grown (gb_alloc _ _ _)) hW hk (by omega)).mono ?_
        rintro e w4 ⟨rfl, hg4⟩
        go_wp2
        go_ret
        exact ⟨rfl, gb_below (gb_trans (gb_trans (gb_trans (gb_trans hG hg2) hg3) (gb_alloc _ _ _)) hg4)⟩
    · have hmk := fun w : World => make_words (len2 : Int) len2 rfl (by omega) w
      obtain ⟨w1, hcopy, hrow, hg1⟩ := copy_mag z2 x len2 cap2 w (by omega) hcell
      have hnil := fun w : World => run_neq_slice_nil_any (P := Try.prog) w 22 33 (some x) len2 cap2 0 0 Try.underlying22
      have hW := words_of z2 hwz
      obtain ⟨m, hmz⟩ : ∃ m : Nat → Int, (fun j => z2.getD j 0) = m := ⟨_, rfl⟩
      rw [hmz] at hrow hW
      clear hmz hcell hwz
      go_enter Try.func3, Try.ntmps3
      go_wp2_with (go_at_call 5; refine (zzBytes3 _ _ _ _ _ _ (by omega)).mono ?_; rintro e w' ⟨rfl, rfl⟩)
      have hs : Src w1 (some ⟨w'.heap.size, 0, none⟩) len2 m := .inr ⟨_, rfl, hrow⟩
      have hG := hg1
      clear hcopy hg1 hrow
      cases a0 with
      | true =>
        obtain ⟨k, hk⟩ := nrm_exists m len2
        refine (ZBig_nil _ _ _ _ _).mono ?_
        rintro e w2 ⟨rfl, rfl⟩
        go_wp2_with fail
        refine (Amount_nil _).mono ?_
        rintro e w3 ⟨rfl, hg3⟩
        have S3 := hs.grown hg3
        go_wp2_with fail
        refine (holds_zero true a1 _ _ _ k m _ (S3.grown (gb_alloc _ _ _)) hk (by omega) (.inl rfl)).mono ?_
        rintro e w4 ⟨rfl, hg4⟩
        go_wp2
        go_ret
        exact ⟨rfl, gb_below (gb_trans (gb_trans (gb_trans hG hg3) (gb_alloc _ _ _)) hg4)⟩
      | false =>
        refine (ZBig_all a1 _ _ _ m _ hs hW (by omega)).mono ?_
        rintro e w2 ⟨p, k, rfl, hk, hb, hg2, hp⟩
        have S2 := hs.grown hg2
        go_wp2_with fail
        refine (Amount_all p a1 m k _ hb hW (by have := hk.le; omega)).mono ?_
        rintro e w3 ⟨x, y, rfl, ha, hg3⟩
        have S3 := S2.grown hg3
        go_wp2_with fail
        refine (holds_all _ x y a1 _ _ _ k m _ (ha.grown (gb_alloc _ _ _)) (S3.grown (gb_alloc _ _ _)) hW hk (by omega)).mono ?_
        rintro e w4 ⟨rfl, hg4⟩
        go_wp2
        go_ret
        exact ⟨rfl, gb_below (gb_trans (gb_trans (gb_trans (gb_trans hG hg2) hg3) (gb_alloc _ _ _)) hg4)⟩

/-! ### THE ROW's STEP: WRITTEN OUT: LEAVE IT -/
set_option maxRecDepth 100000 in
theorem lifted (os : Os) (started : os.Started) (H : Type) (enc : TypeId × Value → H) :
    ReturnsInHanded {} Try.checked os 3 .any (Rows.fnAmountOfBigCanonicalFormSpec.pre6 enc Try.prog Try.f3 Rows.fnAmountOfBigCanonicalFormRow.domain false) (Rows.fnAmountOfBigCanonicalFormSpec.post enc Try.prog Try.f3 false true false false) := by
  refine returnsInHanded_of_change (C := Try.checked) own started (by kernel_rfl) Try.func3
    (ChangeSpec.witness6 (enc := enc) (C := Try.checked) false ⟨#[], #[.bool false, .bool false, .slice none 0 0], []⟩ 8 (by kernel_rfl) (by kernel_rfl) (by kernel_rfl) (by kernel_rfl)) ?_
  intro W base args ds gs before hval0 hW hcnd _
  have hval : ∀ (j : Nat) t v, Try.f3.params[j]? = some t → args[j]? = some v → Value.okWide Try.prog W .any base t v := hval0
  have hW' := hW
  obtain ⟨p, q, hA0, hV, rfl, hfz, hnd⟩ := hW
  have hA : DataW.TrodAll enc Try.prog W 0 (fun _ => true) true Try.f3.params.toList args.toList ds p := hA0
  rw [Try.params3] at hA hval
  obtain ⟨v0, vs0, d0, ds0, p0, q0, hargs, rfl, rfl, h0, r0⟩ := trodAll_cons hA
  obtain ⟨v1, vs1, d1, ds1, p1, q1, rfl, rfl, rfl, h1, r1⟩ := trodAll_cons r0
  obtain ⟨v2, vs2, d2, ds2, p2, q2, rfl, rfl, rfl, h2, r2⟩ := trodAll_cons r1
  obtain ⟨rfl, rfl, rfl⟩ := trodAll_nil r2
  obtain rfl : args = #[v0, v1, v2] := by cases args; simp_all
  obtain ⟨rfl, rfl⟩ := trodVars_none hV
  obtain ⟨a0, rfl, rfl, rfl⟩ := open_bool Try.underlying4 (hval 0 4 v0 rfl rfl) h0
  obtain ⟨a1, rfl, rfl, rfl⟩ := open_bool Try.underlying4 (hval 1 4 v1 rfl rfl) h1
  obtain ⟨a2, len2, cap2, rfl⟩ := okWide_slice Try.underlying22 (hval 2 22 v2 rfl rfl)
  have k2 := h2
  have lt2 : ∀ x ∈ p2, x.block < W.heap.size := by obtain ⟨m, hm⟩ := k2; exact DataW.trod_lt m _ _ _ hm
  obtain ⟨z2, w2⟩ : ∃ zs, IsRow .u64 W a2 len2 cap2 zs := by
    obtain ⟨fuel, hf⟩ := h2
    rcases open_ints Try.underlying22 Try.underlying33 (by kernel_rfl) hf with ⟨hcs, _⟩ | ⟨x, l, c, zs, hcs, _, hl, hm, hz, _, hcell, hwz⟩
    · simp [Value.cells] at hcs
      obtain ⟨rfl, rfl, rfl⟩ := hcs
      exact ⟨[], .inl ⟨rfl, rfl, rfl, rfl⟩⟩
    · simp [Value.cells] at hcs
      obtain ⟨rfl, rfl, rfl⟩ := hcs
      exact ⟨zs, .inr ⟨_, rfl, hl, hm, by simpa using hz, hcell, hwz⟩⟩
  clear hA0 hval0
  refine (walk a0 a1 a2 len2 cap2 z2 W w2).mono fun e W' ⟨he, bel⟩ => ?_
  subst he
  exact ⟨_, rfl, _, _, _, [], _, [], hW', trodAll_mk1 (shut_bool Try.underlying4 _), (trodAll_cons_mk (shut_bool Try.underlying4 _) (trodAll_cons_mk (shut_bool Try.underlying4 _) (trodAll_cons_mk (Below.trod laidOut (by kernel_rfl) (of_decide_eq_true (by kernel_rfl)) k2 bel lt2) trodAll_mk0))), rfl, bel.frame _, fun h => by cases h⟩

theorem over : Rows.fnAmountOfBigCanonicalFormRow.holds Try.pinned (OpenSpec.ofChange Rows.fnAmountOfBigCanonicalFormSpec) :=
  OpenClaim.holds_of_wide 3 Try.f3 rfl rfl rfl rfl rfl rfl rfl ⟨rfl, rfl, rfl, rfl, rfl⟩ rfl rfl rfl rfl rfl (by kernel_rfl) Try.func3 (by kernel_rfl)
    (of_decide_eq_true (by kernel_rfl)) (by unfold Func.isWrapper; first | (rw [if_pos (by decide +kernel)]; kernel_rfl) | (rw [if_neg (by decide +kernel)]; exact ⟨rfl, rfl⟩))
    (fun os started H enc _ => lifted os started H enc)

/-- The statement. -/
theorem proved : Rows.FnAmountOfBigCanonicalFormSaid := over
end Go.Proofs.Qxb6626481a.fnAmountOfBigCanonicalForm

namespace Go.Proofs.Qxb6626481a
theorem fnAmountOfBigCanonicalFormProved : Rows.FnAmountOfBigCanonicalFormSaid := fnAmountOfBigCanonicalForm.proved
end Go.Proofs.Qxb6626481a
