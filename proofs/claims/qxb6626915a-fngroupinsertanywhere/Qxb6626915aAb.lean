import Derived.Test.Qxb6626915aEq
import Derived.Test.Qxb6626915aSize
namespace Go.Proofs.Qxb6626915a
open Go.RowKit

/-- The slice 'v', built by append in rows from block 'B' on, holds the groups 'gs' 0 .. 'k' - 1. -/
def AbIs (w : World) (B : Nat) (v : Value) (k : Nat) (gs : Nat → GD) : Prop := ∃ xs, w.ownsRow B 38 6 v k xs ∧ ∀ i, i < k → SixL w xs (i * 6) (gs i)

theorem AbIs.row {w : World} {B : Nat} {v : Value} {k : Nat} {gs : Nat → GD} (h : AbIs w B v k gs) : ∀ r, v.ownBlock = some r → ∃ cs fr, w.heap[r]? = some (.cells cs 38 fr) := by
  obtain ⟨xs, h1, _⟩ := h
  intro r hr
  rcases h1.2 with ⟨rfl, _⟩ | ⟨g, cap, cur, rfl, _, hg, _⟩
  · simp [Value.ownBlock] at hr
  · simp [Value.ownBlock] at hr
    subst hr
    exact ⟨_, _, hg⟩

theorem AbIs.grown {w w' : World} {B : Nat} {v : Value} {k : Nat} {gs : Nat → GD} (h : AbIs w B v k gs) (hg : w.grownBy w' none) : AbIs w' B v k gs := by
  obtain ⟨xs, h1, h2⟩ := h
  exact ⟨xs, h1.kept hg (by cases hv : v.ownBlock <;> simp), fun i hi => (h2 i hi).kept hg (fun r hr => by cases hr)⟩

theorem AbIs.congr {w : World} {B : Nat} {v : Value} {k : Nat} {gs hs : Nat → GD} (h : AbIs w B v k gs) (he : ∀ i, i < k → hs i = gs i) : AbIs w B v k hs := by
  obtain ⟨xs, h1, h2⟩ := h
  exact ⟨xs, h1, fun i hi => by rw [he i hi]; exact h2 i hi⟩

theorem AbIs.form {w : World} {B : Nat} {v : Value} {k : Nat} {gs : Nat → GD} (h : AbIs w B v k gs) : ∃ so cap, v = .slice so k cap := by
  obtain ⟨xs, h1, _⟩ := h
  rcases h1.2 with ⟨rfl, h0⟩ | ⟨g, cap, cur, rfl, _⟩
  · exact ⟨none, 0, by rw [h0]⟩
  · exact ⟨_, _, rfl⟩

theorem AbIs.rownew {w : World} {B : Nat} {v : Value} {k : Nat} {gs : Nat → GD} (h : AbIs w B v k gs) : RowNew w v k gs := by
  obtain ⟨xs, h1, h2⟩ := h
  rcases h1.2 with ⟨rfl, h0⟩ | ⟨g, cap, cur, rfl, _, hg, _, _, _, ht⟩
  · subst h0
    exact ⟨none, 0, rfl, .inl rfl⟩
  · refine ⟨_, cap, rfl, .inr ⟨g, cur, rfl, hg, fun i hi => ?_⟩⟩
    obtain ⟨ao, c, hv, hx⟩ := h2 i hi
    refine ⟨ao, c, hv, fun j hj => ?_⟩
    rw [← hx j hj, ← ht, List.getElem?_take_of_lt (by omega)]

/-- 'make([]discovery.Group, 0, x)'. -/
theorem make_ab (x : Int) (c : Nat) (hx : x = c) (hl : c ≤ 2000000) (w : World) (gs : Nat → GD) :
    ∃ w', (Instr.makeSlice 32 (.int .i64 0) (.int .i64 x)).run Try.prog w = .ok (.slice (some ⟨w.heap.size, 0, none⟩) 0 c) w' ∧ AbIs w' w.heap.size (.slice (some ⟨w.heap.size, 0, none⟩) 0 c) 0 gs ∧ w.grownBy w' none := by
  subst hx
  obtain ⟨i0, hi, hz0, hz1, hz2⟩ := info_parts info38
  obtain ⟨w', h1, h2, h3⟩ := run_make_own (P := Try.prog) w w.heap.size 32 38 i0 _ 6 Try.underlying32 hi hz0 hz1 .i64 .i64 c (by rw [hz2]; omega) (by unfold maxLen; omega) (Nat.le_refl _)
  exact ⟨w', h1, ⟨[], h2, fun i hi => by omega⟩, h3⟩

/-- A step of the walk: an append whose run is known. -/
theorem wpList_ab {ops : Array Oper} {rest : List Oper} {o : Oper} {a : Act} {Q : Exit → Act → World → Prop} {W : World} (hgd : o.guard = none) (s x : Operand) (ho : o.op = .call { callee := .builtin .append, args := #[s, x], argTypes := #[32, 32] })
    (v vx v' : Value) (w' : World) (hs : a.eval s = v) (hx : a.eval x = vx) (hrun : ∀ ty, (Builtin.append_ #[32, 32] ty #[v, vx]).run Try.prog W = .ok v' w') (h : wpList Try.prog ops Q rest (a.put o.dst v') w') : wpList Try.prog ops Q (o :: rest) a W := by
  refine wpList_plain hgd fun K hK => ?_
  unfold Oper.wp execOp
  simp only [ho, resolve, invoke, builtin, Sem.run_bind, Sem.run_pure, Result.andThen_ok, List.map_toArray, List.map_cons, List.map_nil, hs, hx, hrun]
  exact hK _ _ h

/-- 'ab = append(ab, g)'. -/
theorem AbIs.append {w : World} {B : Nat} {v : Value} {k : Nat} {gs : Nat → GD} (h : AbIs w B v k gs) (hB : B ≤ w.heap.size) (hk : k ≤ 1000000) {ao : Option Addr} {cap : Nat} (hv : VNew w ao (gs k).n (gs k).gv (gs k).ver) :
    ∃ v' w', (∀ ty, (Builtin.append_ #[32, 32] ty #[v, .slice (some ⟨w.heap.size, 0, none⟩) 1 1]).run Try.prog (w.alloc (.cells #[.string (gs k).kind, .string (gs k).api, .string (gs k).name, .slice ao (gs k).n cap, .string (gs k).pgv, .string (gs k).pv] 38)) = .ok v' w') ∧
      AbIs w' B v' (k + 1) gs ∧ w.heap.size ≤ w'.heap.size ∧ ∀ w0 : World, w0.heap.size ≤ B → w0.grownBy w none → w0.grownBy w' none := by
  obtain ⟨i0, hi, hz0, hz1, hz2⟩ := info_parts info38
  have hA := h.grown (gb_alloc w (.cells #[.string (gs k).kind, .string (gs k).api, .string (gs k).name, .slice ao (gs k).n cap, .string (gs k).pgv, .string (gs k).pv] 38) none)
  have hVA := hv.grown (gb_alloc w (.cells #[.string (gs k).kind, .string (gs k).api, .string (gs k).name, .slice ao (gs k).n cap, .string (gs k).pgv, .string (gs k).pv] 38) none)
  have hrow := hA.row
  obtain ⟨xs, h1, h2⟩ := hA
  obtain ⟨v', w', hr, hown, hg, _⟩ := run_append_own (P := Try.prog) (w.alloc (.cells #[.string (gs k).kind, .string (gs k).api, .string (gs k).name, .slice ao (gs k).n cap, .string (gs k).pgv, .string (gs k).pv] 38)) B 32 32 38 i0 _ 6 104 Try.underlying32 hi hz0 hz1 hz2 rfl (by decide) v k xs h1
    ⟨w.heap.size, 0, none⟩ 1 1 (cells6 (gs k) ao cap) rfl (by
      intro j u hu
      have hj : j < 6 := by
        by_cases hj : j < 6
        · exact hj
        · rw [List.getElem?_eq_none (by simp [cells6]; omega)] at hu; cases hu
      rw [show (⟨w.heap.size, 0, none⟩ : Addr).add j = ⟨w.heap.size, j, none⟩ from by unfold Addr.add; split <;> simp_all]
      rw [cell_of_row _ _ _ _ 38 (0, 0) (heap_alloc_new w _), ← hu]
      rcases (by omega : j = 0 ∨ j = 1 ∨ j = 2 ∨ j = 3 ∨ j = 4 ∨ j = 5) with rfl | rfl | rfl | rfl | rfl | rfl <;> rfl) (by
      intro u hu
      simp [cells6] at hu
      rcases hu with rfl | rfl | rfl | rfl | rfl | rfl <;> rfl) (by unfold maxLen; omega) (by omega) (by simp; omega)
  refine ⟨v', w', fun _ => hr, ⟨_, hown, fun i hi => ?_⟩, by have := hg.size; simp at this; omega, fun w0 h0 hg0 => ?_⟩
  · have hlen : xs.length = k * 6 := h1.1
    by_cases e : i = k
    · subst e
      refine ⟨ao, cap, hVA.kept hg hrow, fun j hj => ?_⟩
      rw [List.getElem?_append_right (by omega), show i * 6 + j - xs.length = j from by omega]
    · obtain ⟨ao', cap', hv', hx⟩ := h2 i (by omega)
      refine ⟨ao', cap', hv'.kept hg hrow, fun j hj => ?_⟩
      rw [List.getElem?_append_left (by omega)]
      exact hx j hj
  · have hgg := gb_trans hg0 (gb_alloc w (.cells #[.string (gs k).kind, .string (gs k).api, .string (gs k).name, .slice ao (gs k).n cap, .string (gs k).pgv, .string (gs k).pv] 38) none)
    cases hb : v.ownBlock with
    | none => rw [hb] at hg; exact gb_trans hgg hg
    | some r =>
      rw [hb] at hg
      exact gb_new hgg hg (Nat.le_trans h0 (h1.lt r hb).1)

/-- Block 'xb' is an index of the 'n' groups 'gs'. -/
def IdxAt (w : World) (xb n : Nat) (gs : Nat → GD) : Prop := ∃ v, w.cell? ⟨xb, 0, none⟩ = some v ∧ RowNew w v n gs

theorem IdxAt.grown {w w' : World} {xb n : Nat} {gs : Nat → GD} (h : IdxAt w xb n gs) (hg : w.grownBy w' none) : IdxAt w' xb n gs := by
  obtain ⟨v, h1, h2⟩ := h
  exact ⟨v, cell_grown hg h1, h2.grown hg⟩

theorem newIdx (v : Value) (n : Nat) (gs : Nat → GD) (w : World) (h : RowNew w v n gs) :
    Calls Try.prog 11 #[v] w fun e w' => e = .returned (.pointer (some ⟨w.heap.size, 0, none⟩)) ∧ IdxAt w' w.heap.size n gs ∧ w.grownBy w' none := by
  obtain ⟨so, cap, rfl, h2⟩ := id h
  refine (newIndex_any so n cap w).mono ?_
  rintro e w' ⟨rfl, rfl⟩
  refine ⟨rfl, ⟨_, ?_, h.grown (gb_alloc _ _ _)⟩, gb_alloc _ _ _⟩
  rw [cell_of_row _ _ _ _ 50 (0, 0) (heap_alloc_new w _)]
  rfl

theorem idxGroup (xb n : Nat) (gs : Nat → GD) (name : ByteArray) (w : World) (h : IdxAt w xb n gs) (hl : n ≤ 1000000) :
    Calls Try.prog 12 #[.pointer (some ⟨xb, 0, none⟩), .string name] w fun e w' =>
      ∃ g ok vo vc, e = .returned (.tuple #[.agg #[.string g.kind, .string g.api, .string g.name, .slice vo g.n vc, .string g.pgv, .string g.pv], .bool ok]) ∧ AnsIs gs n name g ok ∧ VNew w' vo g.n g.gv g.ver ∧ w.grownBy w' none := by
  obtain ⟨v, h1, h2⟩ := h
  exact Group_any xb v n gs name w h1 h2 hl

/-! The plain law: what an index answers. -/
theorem ans_uniq {gs : Nat → GD} {n : Nat} {name : ByteArray} {g g' : GD} {ok ok' : Bool} (h : AnsIs gs n name g ok) (h' : AnsIs gs n name g' ok') : g = g' ∧ ok = ok' := by
  rcases h with ⟨k, hk, he, hm, rfl, rfl⟩ | ⟨hno, rfl, rfl⟩
  · rcases h' with ⟨k', hk', he', hm', rfl, rfl⟩ | ⟨hno', rfl, rfl⟩
    · rcases Nat.lt_trichotomy k k' with hlt | rfl | hlt
      · exact absurd he (hm' k hlt)
      · exact ⟨rfl, rfl⟩
      · exact absurd he' (hm k' hlt)
    · exact absurd he (hno' k hk)
  · rcases h' with ⟨k', hk', he', hm', rfl, rfl⟩ | ⟨hno', rfl, rfl⟩
    · exact absurd he' (hno k' hk')
    · exact ⟨rfl, rfl⟩

theorem ans_in {gs : Nat → GD} {n : Nat} {name : ByteArray} {g : GD} {ok b : Bool} (h : AnsIs gs n name g ok) (hb : InIs gs n name b) : ok = b := by
  rcases h with ⟨k, hk, he, hm, rfl, rfl⟩ | ⟨hno, rfl, rfl⟩
  · exact (hb.2 ⟨k, hk, he⟩).symm
  · cases b with
    | false => rfl
    | true =>
      obtain ⟨j, h1, h2⟩ := hb.1 rfl
      exact absurd h2 (hno j h1)

theorem ans_n {gs : Nat → GD} {n : Nat} {name : ByteArray} {g : GD} {ok : Bool} (h : AnsIs gs n name g ok) (hn : ∀ i, i < n → (gs i).n ≤ 1048576) : g.n ≤ 1048576 := by
  rcases h with ⟨k, hk, he, hm, rfl, rfl⟩ | ⟨hno, rfl, rfl⟩
  · exact hn k hk
  · exact Nat.zero_le _

theorem ans_zero {gs : Nat → GD} {n : Nat} {name : ByteArray} {g : GD} (h : AnsIs gs n name g false) : g = zeroG := by
  rcases h with ⟨k, hk, he, hm, h, rfl⟩ | ⟨hno, _, rfl⟩
  · cases h
  · rfl

theorem ans_some {gs : Nat → GD} {n : Nat} {name : ByteArray} {g : GD} (h : AnsIs gs n name g true) : g.kind = kindB ∧ g.api = apiB ∧ g.name = name := by
  rcases h with ⟨k, hk, he, hm, h, rfl⟩ | ⟨hno, h, rfl⟩
  · exact ⟨rfl, rfl, he⟩
  · cases h
end Go.Proofs.Qxb6626915a
