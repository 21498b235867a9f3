/- Walks and plain laws, one behind the other (OpenCap); their conditions stand at each. -/
import Derived.Test.YtoegfdndoeiolaaDoorQ7

/- Plain law: a slice that is an argument has at least its length as its capacity. No condition. -/
namespace Go.Proofs.YtoegfdndoeiolaaDoor
open Go.ChangeShapes Go.WideShapes Go.ChangeAt Go.WideMaps Go.WideElems Go.RowKit

section
variable {H : Type} {enc : TypeId × Value → H} {P : Program} {W : World}
theorem open_cap {t e : TypeId} {k : IntKind} {A : Option Addr} {n c : Nat} {d : DataW H} {p : List MemPlace} (ht : P.underlying t = some (.slice e)) (he : P.underlying e = some (.int k)) (hc : P.cellsOf e = 1)
    (h : DataW.Trod enc P W 0 (fun _ => true) true t (.slice A n c) d p) : n ≤ c ∧ c ≤ 9223372036854775807 := by
  obtain ⟨fuel, hf⟩ := h
  rcases open_ints ht he hc hf with ⟨hcs, hx⟩ | ⟨a, len', cap', zs, hcs, _, hl, hm, _⟩
  · simp [Value.cells] at hcs
    obtain ⟨rfl, rfl, rfl⟩ := hcs
    omega
  · simp [Value.cells] at hcs
    obtain ⟨rfl, rfl, rfl⟩ := hcs
    unfold maxLen at hm
    omega
end
end Go.Proofs.YtoegfdndoeiolaaDoor
