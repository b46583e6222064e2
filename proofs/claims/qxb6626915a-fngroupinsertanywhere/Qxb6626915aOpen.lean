import Derived.Test.Qxb6626915aGrp
import Derived.ProofKit
import Derived.Deep.Slices
import Derived.Deep.SlicePairs
namespace Go.Proofs.Qxb6626915a
open Go.RowKit Go.WideShapes Go.ChangeShapes

section
variable {H : Type} {enc : TypeId × Value → H} {w : World} {spare : Nat → Bool} {held : Bool}

theorem cells27 : Try.prog.cellsOf 27 = 6 := by kernel_rfl
theorem cells25 : Try.prog.cellsOf 25 = 2 := by kernel_rfl
theorem cells9 : Try.prog.cellsOf 9 = 1 := by kernel_rfl
theorem cells23 : Try.prog.cellsOf 23 = 1 := by kernel_rfl

/-- An address at which a cell lies is a plain one. -/
theorem plain_of_cell {a : Addr} {v : Value} (h : w.cell? (a.add 0) = some v) : ∃ b o, a = ⟨b, o, none⟩ := by
  obtain ⟨b, o, sp⟩ := a
  have hsp := World.cell?_spot h
  exact ⟨b, o, by rw [show sp = none from by simpa [Addr.add] using hsp]⟩

/-- The versions of a group that came in. -/
theorem open_versions {fuel : Nat} {c : Value} {x : DataW H × List MemPlace} (h : DataW.trod enc Try.prog w 0 spare held fuel 23 [c] = some x) : ∃ ao n cap gv ver, c = .slice ao n cap ∧ VAt w ao n gv ver := by
  rcases Go.Deep.open_slice_pairs Try.underlying23 Try.underlying25 cells25 rfl rfl cells9 cells9 h with ⟨hc, _⟩ | ⟨a, len, cap, m, n, V0, V1, D0, D1, P0, P1, hc, _, hl, _, hm, _, hx⟩
  · simp only [List.cons.injEq, and_true] at hc
    exact ⟨none, 0, 0, fun _ => ByteArray.empty, fun _ => ByteArray.empty, hc, .inl rfl⟩
  · simp only [List.cons.injEq, and_true] at hc
    have hlm : len ≤ m := by rw [hm]; split <;> omega
    have hstr : ∀ i, i < len → ∃ q : ByteArray × ByteArray, w.cell? (a.add (i * 2)) = some (.string q.1) ∧ w.cell? (a.add (i * 2 + 1)) = some (.string q.2) := by
      intro i hi
      obtain ⟨e0, e1, t0, t1⟩ := hx i (by omega)
      obtain ⟨s0, hs0, _⟩ := DataW.trod_string Try.underlying9 t0
      obtain ⟨s1, hs1, _⟩ := DataW.trod_string Try.underlying9 t1
      simp only [List.cons.injEq, and_true] at hs0 hs1
      exact ⟨(s0, s1), by rw [e0, hs0], by rw [e1, hs1]⟩
    obtain ⟨q, hq⟩ := Go.Deep.choose_lt hstr
    refine ⟨some a, len, cap, fun i => (q i).1, fun i => (q i).2, hc, ?_⟩
    by_cases h0 : len = 0
    · exact .inl h0
    · obtain ⟨b, o, rfl⟩ := plain_of_cell (by simpa using (hq 0 (by omega)).1)
      refine .inr ⟨b, o, rfl, fun j hj => ?_⟩
      have := hq j hj
      rw [add_plain, add_plain] at this
      exact this

/-- A group's six cells that came in. -/
theorem open_six {fuel : Nat} {cs : List Value} {x : DataW H × List MemPlace} (h : DataW.trod enc Try.prog w 0 spare held fuel 27 cs = some x) :
    ∃ (g : GD) (ao : Option Addr) (cap : Nat), cs = [.string g.kind, .string g.api, .string g.name, .slice ao g.n cap, .string g.pgv, .string g.pv] ∧ VAt w ao g.n g.gv g.ver := by
  obtain ⟨xs, k, _, _, hlen, hxl, hf⟩ := DataW.trod_struct Try.underlying27 h
  rw [cells27] at hlen
  match xs, hxl, cs, hlen with
  | [y0, y1, y2, y3, y4], _, [c0, c1, c2, c3, c4, c5], _ =>
    have g0 := hf 0 _ rfl
    have g1 := hf 1 _ rfl
    have g2 := hf 2 _ rfl
    have g3 := hf 3 _ rfl
    have g4 := hf 4 _ rfl
    simp [cells9, cells23, cells25] at g0 g1 g2 g3 g4
    obtain ⟨s0, hs0, _⟩ := DataW.trod_string Try.underlying9 g0
    obtain ⟨s1, hs1, _⟩ := DataW.trod_string Try.underlying9 g1
    obtain ⟨s2, hs2, _⟩ := DataW.trod_string Try.underlying9 g2
    obtain ⟨ao, n, cap, gv, ver, hc3, hv⟩ := open_versions g3
    obtain ⟨xs', k', _, _, _, hxl', hf'⟩ := DataW.trod_struct Try.underlying25 g4
    match xs', hxl' with
    | [z0, z1], _ =>
      have e0 := hf' 0 _ rfl
      have e1 := hf' 1 _ rfl
      simp [cells9] at e0 e1
      obtain ⟨s4, hs4, _⟩ := DataW.trod_string Try.underlying9 e0
      obtain ⟨s5, hs5, _⟩ := DataW.trod_string Try.underlying9 e1
      simp only [List.cons.injEq, and_true] at hs0 hs1 hs2 hs4 hs5
      exact ⟨⟨s0, s1, s2, n, gv, ver, s4, s5⟩, ao, cap, by rw [hs0, hs1, hs2, hc3, hs4, hs5], hv⟩

/-- A slice of groups that came in. -/
theorem open_groups {ao : Option Addr} {n cap : Nat} {d : DataW H} {p : List MemPlace} (h : DataW.Trod enc Try.prog w 0 spare held 22 (.slice ao n cap) d p) : ∃ gs, GsAt w ao n gs := by
  obtain ⟨fuel, hf⟩ := h
  haveI : Inhabited GD := ⟨zeroG⟩
  rcases Go.Deep.open_slice Try.underlying22 hf with ⟨hc, _⟩ | ⟨a, len, cap', m, k, D, Pl, hc, _, hl, _, hm, _, hx⟩
  · simp [Value.cells] at hc
    exact ⟨fun _ => zeroG, .inl hc.2.1⟩
  · simp [Value.cells] at hc
    obtain ⟨rfl, rfl, rfl⟩ := hc
    have hlm : n ≤ m := by rw [hm]; split <;> omega
    by_cases h0 : n = 0
    · exact ⟨fun _ => zeroG, .inl h0⟩
    · have hpl : ∃ b o, a = ⟨b, o, none⟩ := by
        obtain ⟨cs', h1, h2⟩ := hx 0 (by omega)
        rw [cells27] at h1
        obtain ⟨_, hlen, hcell⟩ := World.cells?_some h1
        have e := hcell 0 (by omega)
        rw [Go.Deep.add_add, List.getElem?_eq_getElem (by omega), Nat.zero_mul] at e
        exact plain_of_cell e
      obtain ⟨b, o, rfl⟩ := hpl
      have hg : ∀ i, i < n → ∃ g, Six w b (o + i * 6) g := by
        intro i hi
        obtain ⟨cs', h1, h2⟩ := hx i (by omega)
        rw [cells27, add_plain] at h1
        obtain ⟨_, _, hcell⟩ := World.cells?_some h1
        obtain ⟨g, ao, cap, rfl, hv⟩ := open_six h2
        have e0 := hcell 0 (by omega)
        have e1 := hcell 1 (by omega)
        have e2 := hcell 2 (by omega)
        have e3 := hcell 3 (by omega)
        have e4 := hcell 4 (by omega)
        have e5 := hcell 5 (by omega)
        rw [add_plain] at e0 e1 e2 e3 e4 e5
        exact ⟨g, e0, e1, e2, ⟨ao, cap, e3, hv⟩, e4, e5⟩
      obtain ⟨gs, hgs⟩ := Go.Deep.choose_lt hg
      exact ⟨gs, .inr ⟨b, o, rfl, hgs⟩⟩
end
end Go.Proofs.Qxb6626915a
