/- A slice of types that came in and has no address has no room. -/
import Derived.Test.YtphfjojdiilneaaGreatDoorOpn
set_option linter.unusedVariables false
set_option linter.unusedSimpArgs false
namespace Go.Proofs.YtphfjojdiilneaaGreatDoor
open Go.ChangeShapes Go.WideShapes Go.ChangeAt Go.RowKit
set_option maxRecDepth 100000 in
theorem open_tys_nil {H : Type} {enc : TypeId × Value → H} {W : World} {v : Value} {base : Nat} {d : DataW H} {p : List MemPlace} (hok : Value.okWide Tryz.prog W .any base 22 v) (h : DataW.Trod enc Tryz.prog W 0 (fun _ => true) true 22 v d p) :
    ∀ n cap, v = .slice none n cap → cap = 0 := by
  intro n cap e
  subst e
  obtain ⟨fuel, hf⟩ := h
  rcases DataW.trod_slice Tryz.underlying22 hf with ⟨e, _⟩ | ⟨a, len, cap', elems, rest, m, _, e, _⟩
  · simp [Value.cells] at e
    exact e.2
  · simp [Value.cells] at e
end Go.Proofs.YtphfjojdiilneaaGreatDoor
