import Derived.Test.Qxb6626915aBase
namespace Go.Proofs.Qxb6626915a
open Go.RowKit

theorem info36 : (Try.prog.info? 36).map (fun i => (i.zero, i.size, i.bytes)) = some (some (.agg #[.string ByteArray.empty, .string ByteArray.empty]), 2, 32) := by kernel_rfl

/-- 'make([]discovery.GroupVersion, n)'. -/
theorem make_vers (n : Nat) (hl : n ≤ 2000000) (w : World) :
    (Instr.makeSlice 34 (.int .i64 n) (.int .i64 n)).run Try.prog w = .ok (.slice (some ⟨w.heap.size, 0, none⟩) n n) (w.alloc (.cells (madeCells #[.string ByteArray.empty, .string ByteArray.empty] (n * 2)) 36)) := by
  obtain ⟨i0, hi, hz0, hz1, hz2⟩ := info_parts info36
  have h := run_make (P := Try.prog) w 34 36 i0 _ Try.underlying34 hi hz0 .i64 .i64 n n (by omega) (by omega) (by rw [hz2]; omega) (by omega)
  simpa only [hz1, Value.cells, Int.toNat_natCast] using h

/-- A row of pairs of which the first 'k' are filled. -/
def Pairs (w : World) (b N k : Nat) (gv ver : Nat → ByteArray) : Prop :=
  ∃ cs : Array Value, w.heap[b]? = some (.cells cs 36 (0, 0)) ∧ cs.size = N * 2 ∧ ∀ j, j < k → cs[j * 2]? = some (.string (gv j)) ∧ cs[j * 2 + 1]? = some (.string (ver j))

theorem Pairs.has {w : World} {b N k : Nat} {gv ver : Nat → ByteArray} (h : Pairs w b N k gv ver) {i : Nat} (hi : i < N * 2) : ∃ v, w.cell? ⟨b, i, none⟩ = some v := by
  obtain ⟨cs, h1, h2, _⟩ := h
  exact ⟨cs[i]'(by omega), by rw [cell_of_row w b i cs 36 (0, 0) h1]; simp [h2, hi]⟩
theorem Pairs.frozen {w : World} {b N k : Nat} {gv ver : Nat → ByteArray} (h : Pairs w b N k gv ver) (i : Nat) : w.frozen? ⟨b, i, none⟩ = false := by
  obtain ⟨cs, h1, _⟩ := h
  exact frozen_of_row w b i cs 36 h1
theorem Pairs.step {w : World} {b N k : Nat} {gv ver : Nat → ByteArray} (h : Pairs w b N k gv ver) (hk : k < N) :
    Pairs ((w.setCell ⟨b, k * 2, none⟩ (.string (gv k))).setCell ⟨b, k * 2 + 1, none⟩ (.string (ver k))) b N (k + 1) gv ver := by
  obtain ⟨cs, h1, h2, h3⟩ := h
  refine ⟨_, heap_setCell_same _ b _ _ 36 _ (heap_setCell_same w b _ cs 36 _ h1), by simp [h2], fun j hj => ?_⟩
  by_cases e : j = k
  · subst e
    constructor
    · rw [Array.getElem?_setIfInBounds_ne (by omega), Array.getElem?_setIfInBounds_self_of_lt (by omega)]
    · rw [Array.getElem?_setIfInBounds_self_of_lt (by simp; omega)]
  · have := h3 j (by omega)
    constructor
    · rw [Array.getElem?_setIfInBounds_ne (by omega), Array.getElem?_setIfInBounds_ne (by omega)]; exact this.1
    · rw [Array.getElem?_setIfInBounds_ne (by omega), Array.getElem?_setIfInBounds_ne (by omega)]; exact this.2
theorem Pairs.made (w : World) (N : Nat) (gv ver : Nat → ByteArray) (z : Array Value) : Pairs (w.alloc (.cells (madeCells z (N * 2)) 36)) w.heap.size N 0 gv ver :=
  ⟨_, heap_alloc_new w _, size_madeCells _ _, fun j hj => by omega⟩
theorem Pairs.vnew {w : World} {b N : Nat} {gv ver : Nat → ByteArray} (h : Pairs w b N N gv ver) : VNew w (some ⟨b, 0, none⟩) N gv ver := by
  obtain ⟨cs, h1, _, h3⟩ := h
  exact .inr ⟨b, cs, rfl, h1, h3⟩

set_option maxHeartbeats 1000000 in
/-- toGroup. -/
theorem toGroup_any (g : GD) (ao : Option Addr) (cap : Nat) (w : World) (hv : VAt w ao g.n g.gv g.ver) (hl : g.n ≤ 1048576) :
    Calls Try.prog 10 #[.agg #[.string g.kind, .string g.api, .string g.name, .slice ao g.n cap, .string g.pgv, .string g.pv]] w fun e w' =>
      ∃ ao' cap', e = .returned (.agg #[.string g.kind, .string g.api, .string g.name, .slice ao' g.n cap', .string g.pgv, .string g.pv]) ∧ VNew w' ao' g.n g.gv g.ver ∧ w.grownBy w' none := by
  obtain ⟨kind, api, name, n, gv, ver, pgv, pv⟩ := g
  simp only at hv hl ⊢
  cases ao with
  | none =>
    have hn : n = 0 := by rcases hv with h | ⟨b, o, h, _⟩; exact h; cases h
    subst hn
    have hnil := fun w : World => run_neq_slice_nil_any (P := Try.prog) w 23 25 none 0 cap 0 0 Try.underlying23
    go_enter Try.func10, Try.ntmps10
    go_wp2
    exact bodyPost_ret (v := .agg #[.string kind, .string api, .string name, .slice none 0 0, .string pgv, .string pv]) (by simp [results, Try.results10, go_sem]) rfl ⟨none, 0, rfl, .inl rfl, gb_trans (gb_alloc _ _ _) (gb_alloc _ _ _)⟩
  | some a =>
    have hnil := fun w : World => run_neq_slice_nil_any (P := Try.prog) w 23 25 (some a) n cap 0 0 Try.underlying23
    have hmk := fun w : World => make_vers n (by omega) w
    obtain ⟨w3, hw3⟩ : ∃ w3, w3 = ((w.alloc (.cells #[.string kind, .string api, .string name, .slice (some a) n cap, .string pgv, .string pv] 27)).alloc
      (.cells #[.string ⟨#[]⟩, .string ⟨#[]⟩, .string ⟨#[]⟩, .slice none 0 0, .string ⟨#[]⟩, .string ⟨#[]⟩] 38)).alloc (.cells (madeCells #[.string ByteArray.empty, .string ByteArray.empty] (n * 2)) 36) := ⟨_, rfl⟩
    have hA : w3.heap[w.heap.size]? = some (.cells #[.string kind, .string api, .string name, .slice (some a) n cap, .string pgv, .string pv] 27 (0, 0)) := by
      rw [hw3, Below.heap_alloc _ _ _ (by simp; omega), Below.heap_alloc _ _ _ (by simp), heap_alloc_new]
    have hB : w3.heap[w.heap.size + 1]? = some (.cells #[.string ⟨#[]⟩, .string ⟨#[]⟩, .string ⟨#[]⟩, .slice none 0 0, .string ⟨#[]⟩, .string ⟨#[]⟩] 38 (0, 0)) := by
      rw [hw3, Below.heap_alloc _ _ _ (by simp)]
      exact heap_alloc2_new w _ _
    have hP : Pairs w3 (w.heap.size + 2) n 0 gv ver := by
      rw [hw3]
      have := Pairs.made ((w.alloc (.cells #[.string kind, .string api, .string name, .slice (some a) n cap, .string pgv, .string pv] 27)).alloc (.cells #[.string ⟨#[]⟩, .string ⟨#[]⟩, .string ⟨#[]⟩, .slice none 0 0, .string ⟨#[]⟩, .string ⟨#[]⟩] 38)) n gv ver #[.string ByteArray.empty, .string ByteArray.empty]
      simpa using this
    have hG : w.grownBy w3 none := by rw [hw3]; exact gb_trans (gb_trans (gb_alloc _ _ _) (gb_alloc _ _ _)) (gb_alloc _ _ _)
    have HW : Hid (w3 = _) := hw3
    clear hw3
    go_enter Try.func10, Try.ntmps10
    go_wp2_with fail
    rw [← HW.out]
    go_loopw [4] (fun i wr => ∃ k : Nat, k ≤ n ∧ i = .int .i64 k ∧ Pairs wr (w.heap.size + 2) n k gv ver ∧ w3.grownBy wr (some (w.heap.size + 2))) (fun i _ => n - (intOf i).toNat)
    case atStart => exact ⟨0, Nat.zero_le _, rfl, hP, gb_refl _ _⟩
    case round =>
      obtain ⟨k, hk, rfl, hp, hg⟩ := hrel
      have bA : wr.heap[w.heap.size]? = _ := (hg.block _ (lt_of_block hA) (by simp)).trans hA
      have bB : wr.heap[w.heap.size + 1]? = _ := (hg.block _ (lt_of_block hB) (by simp)).trans hB
      obtain ⟨a0, a1, a2, a3, a4, a5⟩ := six_cells bA
      by_cases hlt : k < n
      · rcases hv with h | ⟨b, o, hao, hcell⟩
        · omega
        obtain rfl := Option.some.inj hao
        have hb : b < w.heap.size := block_lt_of_cell (hcell k hlt).1
        have v0 := (hG.cell (hcell k hlt).1 (by simp))
        have v1 := (hG.cell (hcell k hlt).2 (by simp))
        have v0' := hg.cell v0 (by simp; omega)
        have v1' := hg.cell v1 (by simp; omega)
        have f0 := hp.frozen (k * 2)
        have f1 := hp.frozen (k * 2 + 1)
        obtain ⟨x0, e0⟩ := hp.has (i := k * 2) (by omega)
        obtain ⟨x1, e1⟩ := hp.has (i := k * 2 + 1) (by omega)
        have HP : Hid (Pairs wr (w.heap.size + 2) n k gv ver) := hp
        have HC : Hid (∀ j, j < n → w.cell? ⟨b, o + j * 2, none⟩ = some (.string (gv j)) ∧ w.cell? ⟨b, o + j * 2 + 1, none⟩ = some (.string (ver j))) := hcell
        clear hp hcell v0 v1 bA bB hA hB hP
        go_wp2
        go_region
        go_wp2
        go_roundw
        case rel =>
          refine ⟨k + 1, by omega, by go_num, (HP.out.step hlt :), ?_⟩
          exact gb_trans (gb_trans hg (gb_set wr _ _ _)) (gb_trans (gb_set _ _ _ _) (gb_drewN _ 1 _))
        case measure => simp [intOf]; omega
      · have hkn : k = n := by omega
        subst hkn
        obtain ⟨b0, b1, b2, b3, b4, b5⟩ := six_cells bB
        have q0 := frozen_of_row wr (w.heap.size + 1) 0 _ 38 bB
        have q1 := frozen_of_row wr (w.heap.size + 1) 1 _ 38 bB
        have q2 := frozen_of_row wr (w.heap.size + 1) 2 _ 38 bB
        have q3 := frozen_of_row wr (w.heap.size + 1) 3 _ 38 bB
        have q4 := frozen_of_row wr (w.heap.size + 1) 4 _ 38 bB
        have q5 := frozen_of_row wr (w.heap.size + 1) 5 _ 38 bB
        have HB := heap_put6_whole wr (w.heap.size + 1) (.string kind) (.string api) (.string name) (.slice (some ⟨w.heap.size + 2, 0, none⟩) k k) (.string pgv) (.string pv) bB
        have HP : Hid (Pairs wr (w.heap.size + 2) k k gv ver) := hp
        obtain ⟨r0, r1, r2, r3, r4, r5⟩ := six_cells HB
        have G4 := gb_new (gb_new hG hg (by omega)) (gb_put6 wr (w.heap.size + 1) 0 (.string kind) (.string api) (.string name) (.slice (some ⟨w.heap.size + 2, 0, none⟩) k k) (.string pgv) (.string pv)) (by omega)
        have V4 := (HP.out.vnew).kept (gb_put6 wr (w.heap.size + 1) 0 (.string kind) (.string api) (.string name) (.slice (some ⟨w.heap.size + 2, 0, none⟩) k k) (.string pgv) (.string pv)) (fun r hr => by cases hr; exact ⟨_, _, bB⟩)
        clear hp bA bB hA hB hP HB
        simp only [put6, Nat.zero_add] at r0 r1 r2 r3 r4 r5 G4 V4
        go_wp2
        refine bodyPost_ret (v := .agg #[.string kind, .string api, .string name, .slice (some ⟨w.heap.size + 2, 0, none⟩) k k, .string pgv, .string pv]) (by simp [results, Try.results10, go_sem, r0, r1, r2, r3, r4, r5]) rfl ⟨_, _, rfl, V4, G4⟩
end Go.Proofs.Qxb6626915a
