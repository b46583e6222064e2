import Derived.Test.Qxb6626915aOpen
namespace Go.Proofs.Qxb6626915a
open Go.RowKit Go.WideShapes Go.ChangeShapes

/-- A group that came in by value. -/
theorem open_gval {H : Type} {enc : TypeId × Value → H} {w : World} {spare : Nat → Bool} {held : Bool} {r : Reach} {b0 : Nat} {v : Value} {d : DataW H} {p : List MemPlace}
    (hv : Value.okWide Try.prog w r b0 27 v) (h : DataW.Trod enc Try.prog w 0 spare held 27 v d p) :
    ∃ (g : GD) (ao : Option Addr) (cap : Nat), v = .agg #[.string g.kind, .string g.api, .string g.name, .slice ao g.n cap, .string g.pgv, .string g.pv] ∧ VAt w ao g.n g.gv g.ver := by
  obtain ⟨cs, rfl, _⟩ := okWide_struct Try.underlying27 hv
  obtain ⟨fuel, hf⟩ := h
  obtain ⟨g, ao, cap, hcs, hva⟩ := open_six hf
  refine ⟨g, ao, cap, ?_, hva⟩
  have e : cs.toList = [.string g.kind, .string g.api, .string g.name, .slice ao g.n cap, .string g.pgv, .string g.pv] := hcs
  rw [← Array.toArray_toList (xs := cs), e]
end Go.Proofs.Qxb6626915a
