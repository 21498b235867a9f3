/- Walks and plain laws, one behind the other (Laid); their conditions stand at each. -/
import Derived.Test.YtoegfdndoeiolaaDoorRows
import Derived.Test.YtoegfdndoeiolaaDoorQ7
import Derived.Stop.LaidErr
import Derived.LaidLaws
import Derived.LaidMore

/- Plain law: what the listed variables hold: each an error. No condition. -/
namespace Go.Proofs.YtoegfdndoeiolaaDoor
open Go.ChangeShapes Go.WideShapes Go.ChangeAt Go.RowKit

theorem cellsES : Tryd.prog.cellsOf 168 = 1 := by kernel_rfl
theorem cellsStr : Tryd.prog.cellsOf 9 = 1 := by kernel_rfl
theorem starES : "*" ++ "errors.errorString" = "*errors.errorString" := by decide
theorem rowES (u : TypeId) (h : Tryd.prog.typeName? 3 u = some "*errors.errorString") : u = 152 :=
  typeName_ptr_named (nm := "errors.errorString") (by rw [starES]; kernel_rfl) (by kernel_rfl) (by decide) u (by rw [starES]; exact h)
theorem err_cell {n : String} {g : Nat} {text : List UInt8} {r : List (String × DataW Unit)} {W : World} (h : laidMet Tryd.prog ((n, .iface "*errors.errorString" (.ptr (.agg [.lit (.string text)]))) :: r) W)
    (hg : Tryd.prog.globalNamed n = some g) (ht : (Tryd.prog.globals[g]?).map (·.type) = some 53) : ∃ a, W.cell? ⟨g, 0, none⟩ = some (.iface 152 (.pointer (some a))) := by
  obtain ⟨a, s, hv, _, _, _⟩ := laid_sentinel h hg ht Tryd.underlying53 rowES Tryd.underlying152 Tryd.underlying168 rfl rfl Tryd.underlying9 cellsES cellsStr
  exact ⟨a, by simpa using World.var?_cell hg hv 0⟩
theorem gTooShort : Tryd.prog.globalNamed "loop.example/pub-sketchedcounts/pub/hyperloglog.ErrorTooShort" = some 1 := by kernel_rfl
theorem gInvalidData : Tryd.prog.globalNamed "loop.example/pub-sketchedcounts/pub/hyperloglog.ErrorInvalidData" = some 3 := by kernel_rfl
theorem gInvalidVersion : Tryd.prog.globalNamed "loop.example/pub-sketchedcounts/pub/hyperloglog.ErrorInvalidVersion" = some 2 := by kernel_rfl
theorem gInvalidPrecision : Tryd.prog.globalNamed "loop.example/pub-sketchedcounts/pub/hyperloglog.ErrorInvalidPrecision" = some 4 := by kernel_rfl
theorem gMismatch : Tryd.prog.globalNamed "loop.example/pub-sketchedcounts/pub/hyperloglog.ErrorPrecisionMismatch" = some 0 := by kernel_rfl
theorem tTooShort : (Tryd.prog.globals[1]?).map (·.type) = some 53 := by kernel_rfl
theorem tInvalidData : (Tryd.prog.globals[3]?).map (·.type) = some 53 := by kernel_rfl
theorem tInvalidVersion : (Tryd.prog.globals[2]?).map (·.type) = some 53 := by kernel_rfl
theorem tInvalidPrecision : (Tryd.prog.globals[4]?).map (·.type) = some 53 := by kernel_rfl
theorem tMismatch : (Tryd.prog.globals[0]?).map (·.type) = some 53 := by kernel_rfl
theorem readErr : Tryd.prog.readableRec 53 = true ∧ 53 < Tryd.prog.types.size := ⟨by kernel_rfl, of_decide_eq_true (by kernel_rfl)⟩
theorem readVar {n : String} {g0 : Nat} (hg0 : Tryd.prog.globalNamed n = some g0) (ht0 : (Tryd.prog.globals[g0]?).map (·.type) = some 53) :
    ∀ g t, Tryd.prog.globalNamed n = some g → (Tryd.prog.globals[g]?).map (·.type) = some t → Tryd.prog.readableRec t = true ∧ t < Tryd.prog.types.size := by
  intro g t hg ht
  obtain rfl := Option.some.inj (hg0.symm.trans hg)
  obtain rfl := Option.some.inj (ht0.symm.trans ht)
  exact readErr

section
variable {H : Type} {enc : TypeId × Value → H} {P : Program} {W : World} {sp : Nat → Bool} {gs : List (DataW H)} {ps : List MemPlace}
theorem trodVars_length : ∀ (ns : List String) (gs : List (DataW H)) (ps : List MemPlace), DataW.TrodVars enc P W sp ns gs ps → gs.length = ns.length
  | [], [], _, _ => rfl
  | _ :: ns, _ :: gs, _, h => by
    obtain ⟨g, t, cs, fuel, p, q, _, _, _, _, hr, _⟩ := h
    have := trodVars_length ns gs q hr
    simp [this]
  | [], _ :: _, _, h => h.elim
  | _ :: _, [], _, h => h.elim
theorem trodVars_1 {a : String} (h : DataW.TrodVars enc P W sp [a] gs ps) : ∃ x, gs = [x] := by
  have := trodVars_length _ _ _ h
  match gs, this with
  | [x], _ => exact ⟨x, rfl⟩
theorem trodVars_2 {a b : String} (h : DataW.TrodVars enc P W sp [a, b] gs ps) : ∃ x y, gs = [x, y] := by
  have := trodVars_length _ _ _ h
  match gs, this with
  | [x, y], _ => exact ⟨x, y, rfl⟩
theorem trodVars_4 {a b c d : String} (h : DataW.TrodVars enc P W sp [a, b, c, d] gs ps) : ∃ x y z u, gs = [x, y, z, u] := by
  have := trodVars_length _ _ _ h
  match gs, this with
  | [x, y, z, u], _ => exact ⟨x, y, z, u, rfl⟩
end
end Go.Proofs.YtoegfdndoeiolaaDoor
