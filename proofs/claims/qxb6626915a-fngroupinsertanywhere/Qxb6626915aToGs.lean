import Derived.Test.Qxb6626915aToG
namespace Go.Proofs.Qxb6626915a
open Go.RowKit

theorem info38 : (Try.prog.info? 38).map (fun i => (i.zero, i.size, i.bytes)) = some (some (.agg #[.string ByteArray.empty, .string ByteArray.empty, .string ByteArray.empty, .slice none 0 0, .string ByteArray.empty, .string ByteArray.empty]), 6, 104) := by kernel_rfl

/-- A row of groups' cells of zero values. -/
def zero6 (n : Nat) : Array Value := madeCells #[.string ByteArray.empty, .string ByteArray.empty, .string ByteArray.empty, .slice none 0 0, .string ByteArray.empty, .string ByteArray.empty] (n * 6)

/-- 'make([]discovery.Group, n)'. -/
theorem make_groups (n : Nat) (hl : n ≤ 2000000) (w : World) :
    (Instr.makeSlice 32 (.int .i64 n) (.int .i64 n)).run Try.prog w = .ok (.slice (some ⟨w.heap.size, 0, none⟩) n n) (w.alloc (.cells (zero6 n) 38)) := by
  obtain ⟨i0, hi, hz0, hz1, hz2⟩ := info_parts info38
  have h := run_make (P := Try.prog) w 32 38 i0 _ Try.underlying32 hi hz0 .i64 .i64 n n (by omega) (by omega) (by rw [hz2]; omega) (by omega)
  simpa only [hz1, Value.cells, Int.toNat_natCast, zero6] using h

/-- A row of 'N' groups of which the first 'k' are filled. -/
def RowPart (w : World) (b N k : Nat) (gs : Nat → GD) : Prop :=
  ∃ cs : Array Value, w.heap[b]? = some (.cells cs 38 (0, 0)) ∧ cs.size = N * 6 ∧ ∀ i, i < k → SixL w cs.toList (i * 6) (gs i)

theorem RowPart.made (w : World) (N : Nat) (gs : Nat → GD) : RowPart (w.alloc (.cells (zero6 N) 38)) w.heap.size N 0 gs :=
  ⟨_, heap_alloc_new w _, size_madeCells _ _, fun j hj => by omega⟩
theorem RowPart.grown {w w' : World} {b N k : Nat} {gs : Nat → GD} (h : RowPart w b N k gs) (hg : w.grownBy w' none) : RowPart w' b N k gs := by
  obtain ⟨cs, h1, h2, h3⟩ := h
  exact ⟨cs, by rw [hg.block b (lt_of_block h1) (by simp)]; exact h1, h2, fun i hi => (h3 i hi).kept hg (fun r hr => by cases hr)⟩
theorem RowPart.has {w : World} {b N k : Nat} {gs : Nat → GD} (h : RowPart w b N k gs) {i : Nat} (hi : i < N * 6) : ∃ v, w.cell? ⟨b, i, none⟩ = some v := by
  obtain ⟨cs, h1, h2, _⟩ := h
  exact ⟨cs[i]'(by omega), by rw [cell_of_row w b i cs 38 (0, 0) h1]; simp [h2, hi]⟩
theorem RowPart.frozen {w : World} {b N k : Nat} {gs : Nat → GD} (h : RowPart w b N k gs) (i : Nat) : w.frozen? ⟨b, i, none⟩ = false := by
  obtain ⟨cs, h1, _⟩ := h
  exact frozen_of_row w b i cs 38 h1
theorem RowPart.step {w : World} {b N k : Nat} {gs : Nat → GD} (h : RowPart w b N k gs) (hk : k < N) {ao : Option Addr} {cap : Nat} (hv : VNew w ao (gs k).n (gs k).gv (gs k).ver) :
    RowPart (put6 w b (k * 6) (.string (gs k).kind) (.string (gs k).api) (.string (gs k).name) (.slice ao (gs k).n cap) (.string (gs k).pgv) (.string (gs k).pv)) b N (k + 1) gs := by
  obtain ⟨cs, h1, h2, h3⟩ := h
  have hg := gb_put6 w b (k * 6) (.string (gs k).kind) (.string (gs k).api) (.string (gs k).name) (.slice ao (gs k).n cap) (.string (gs k).pgv) (.string (gs k).pv)
  have hrow : ∀ r, some b = some r → ∃ cs fr, w.heap[r]? = some (.cells cs 38 fr) := fun r hr => by cases hr; exact ⟨_, _, h1⟩
  refine ⟨_, heap_put6 w b (k * 6) _ _ _ _ _ _ h1, by simp [h2], fun i hi => ?_⟩
  by_cases e : i = k
  · subst e
    refine ⟨ao, cap, hv.kept hg hrow, fun j hj => ?_⟩
    rw [Array.getElem?_toList]
    rcases (by omega : j = 0 ∨ j = 1 ∨ j = 2 ∨ j = 3 ∨ j = 4 ∨ j = 5) with rfl | rfl | rfl | rfl | rfl | rfl <;>
      simp [Array.getElem?_setIfInBounds, cells6, h2] <;> omega
  · obtain ⟨ao', cap', hv', hx⟩ := h3 i (by omega)
    refine ⟨ao', cap', hv'.kept hg hrow, fun j hj => ?_⟩
    rw [← hx j hj, Array.getElem?_toList, Array.getElem?_toList]
    rw [Array.getElem?_setIfInBounds_ne (by omega), Array.getElem?_setIfInBounds_ne (by omega), Array.getElem?_setIfInBounds_ne (by omega), Array.getElem?_setIfInBounds_ne (by omega), Array.getElem?_setIfInBounds_ne (by omega), Array.getElem?_setIfInBounds_ne (by omega)]
theorem RowPart.rownew {w : World} {b N : Nat} {gs : Nat → GD} (h : RowPart w b N N gs) (cap : Nat) : RowNew w (.slice (some ⟨b, 0, none⟩) N cap) N gs := by
  obtain ⟨cs, h1, _, h3⟩ := h
  exact ⟨_, _, rfl, .inr ⟨b, cs, rfl, h1, h3⟩⟩

set_option maxHeartbeats 1000000 in
/-- toGroups. -/
theorem toGroups_any (ao : Option Addr) (n cap : Nat) (gs : Nat → GD) (w : World) (hv : GsAt w ao n gs) (hl : n ≤ 65536) (hgs : ∀ i, i < n → (gs i).n ≤ 1048576) :
    Calls Try.prog 9 #[.slice ao n cap] w fun e w' => ∃ v, e = .returned v ∧ RowNew w' v n gs ∧ w.grownBy w' none := by
  cases ao with
  | none =>
    have hn : n = 0 := by rcases hv with h | ⟨b, o, h, _⟩; exact h; cases h
    subst hn
    have hnil := fun w : World => Lib.run_eql_slice_nil (P := Try.prog) w 22 27 none 0 cap 0 0 Try.underlying22
    go_enter Try.func9, Try.ntmps9
    go_wp2
    go_ret
    exact ⟨_, rfl, ⟨_, _, rfl, .inl rfl⟩, gb_refl _ _⟩
  | some a =>
    have hnil := fun w : World => Lib.run_eql_slice_nil (P := Try.prog) w 22 27 (some a) n cap 0 0 Try.underlying22
    have hmk := fun w : World => make_groups n (by omega) w
    obtain ⟨w1, hw1⟩ : ∃ w1, w1 = w.alloc (.cells (zero6 n) 38) := ⟨_, rfl⟩
    have hP : RowPart w1 w.heap.size n 0 gs := by rw [hw1]; exact RowPart.made w n gs
    have hG : w.grownBy w1 none := by rw [hw1]; exact gb_alloc _ _ _
    have HW : Hid (w1 = _) := hw1
    clear hw1
    go_enter Try.func9, Try.ntmps9
    go_wp2_with fail
    rw [← HW.out]
    go_loopw [4] (fun i wr => ∃ k : Nat, k ≤ n ∧ i = .int .i64 k ∧ RowPart wr w.heap.size n k gs ∧ w.grownBy wr none) (fun i _ => n - (intOf i).toNat)
    case atStart => exact ⟨0, Nat.zero_le _, rfl, hP, hG⟩
    case round =>
      obtain ⟨k, hk, rfl, hp, hg⟩ := hrel
      by_cases hlt : k < n
      · have hv1 := hv.grown hg
        rcases hv1 with h | ⟨b, o, hao, hcell⟩
        · omega
        obtain rfl := Option.some.inj hao
        have hs := hcell k hlt
        have hnk := hgs k hlt
        obtain ⟨g, hgk⟩ : ∃ g, gs k = g := ⟨_, rfl⟩
        rw [hgk] at hs hnk
        obtain ⟨c0, c1, c2, ⟨vo, vc, c3, hvat⟩, c4, c5⟩ := hs
        have HP : Hid (RowPart wr w.heap.size n k gs) := hp
        have HK : Hid (gs k = g) := hgk
        clear hp hcell hgk hP
        go_wp2_with fail
        refine (toGroup_any g vo vc _ hvat hnk).mono ?_
        rintro e w2 ⟨ao', cap', rfl, hvn, hg2⟩
        have hp2 := HP.out.grown hg2
        have f0 := hp2.frozen (k * 6)
        have f1 := hp2.frozen (k * 6 + 1)
        have f2 := hp2.frozen (k * 6 + 2)
        have f3 := hp2.frozen (k * 6 + 3)
        have f4 := hp2.frozen (k * 6 + 4)
        have f5 := hp2.frozen (k * 6 + 5)
        obtain ⟨x0, e0⟩ := hp2.has (i := k * 6) (by omega)
        obtain ⟨x1, e1⟩ := hp2.has (i := k * 6 + 1) (by omega)
        obtain ⟨x2, e2⟩ := hp2.has (i := k * 6 + 2) (by omega)
        obtain ⟨x3, e3⟩ := hp2.has (i := k * 6 + 3) (by omega)
        obtain ⟨x4, e4⟩ := hp2.has (i := k * 6 + 4) (by omega)
        obtain ⟨x5, e5⟩ := hp2.has (i := k * 6 + 5) (by omega)
        have HS : RowPart (put6 w2 w.heap.size (k * 6) (.string g.kind) (.string g.api) (.string g.name) (.slice ao' g.n cap') (.string g.pgv) (.string g.pv)) w.heap.size n (k + 1) gs := by
          have := hp2.step hlt (ao := ao') (cap := cap') (by rw [HK.out]; exact hvn)
          rwa [HK.out] at this
        have HG : w.grownBy (put6 w2 w.heap.size (k * 6) (.string g.kind) (.string g.api) (.string g.name) (.slice ao' g.n cap') (.string g.pgv) (.string g.pv)) none := gb_new (gb_trans hg hg2) (gb_put6 _ _ _ _ _ _ _ _ _) (Nat.le_refl _)
        have HS' := HS
        have HG' := HG
        simp only [put6] at HS' HG'
        clear HS HG hp2 c0 c1 c2 c3 c4 c5 hvat
        go_wp2
        go_roundw
        case rel => exact ⟨k + 1, by omega, by go_num, HS', HG'⟩
        case measure => simp [intOf]; omega
      · have hkn : k = n := by omega
        subst hkn
        have HP := hp.rownew k
        clear hp hP
        go_wp2
        go_ret
        exact ⟨_, rfl, HP, hg⟩
end Go.Proofs.Qxb6626915a
