/- Walks: a sketch is made. Condition: the variable of the error holds an error. -/
import Derived.Test.YtoegfdndoeiolaaDoorSorted
namespace Go.Proofs.YtoegfdndoeiolaaDoor
open Go.RowKit

/-- The variable of the error of a wrong number of bits holds an error. -/
def ErrP (w : World) : Prop := ∃ a, w.cell? ⟨4, 0, none⟩ = some (.iface 152 (.pointer (some a)))
theorem ErrP.only {S : Nat → Prop} {w w' : World} (h : ErrP w) (ho : Only S w w') (h1 : ¬ S 4) : ErrP w' := by
  obtain ⟨a, ha⟩ := h
  exact ⟨a, (ho.cell (World.block_lt_of_cell? w _ ha) h1).trans ha⟩

theorem checkPrecision_ok (p : Nat) (w : World) (h1 : 4 ≤ p) (h2 : p ≤ 18) :
    Calls Tryd.prog 54 #[.int .u8 p] w fun e w' => e = .returned .nilIface ∧ w = w' := by
  go_enter Tryd.func54, Tryd.ntmps54
  go_wp2
  go_ret
  exact ⟨rfl, rfl⟩
theorem checkPrecision_bad (p : Nat) (w : World) (h : p < 4 ∨ 18 < p) (he : ErrP w) :
    Calls Tryd.prog 54 #[.int .u8 p] w fun e w' => Fails e ∧ w = w' := by
  obtain ⟨a, ha⟩ := he
  rcases h with h | h
  · go_enter Tryd.func54, Tryd.ntmps54
    go_wp2
    go_ret
    exact ⟨⟨a, rfl⟩, rfl⟩
  · go_enter Tryd.func54, Tryd.ntmps54
    go_wp2
    go_ret
    exact ⟨⟨a, rfl⟩, rfl⟩

theorem run_float (P : Program) (op : BinOp) (h : op = .quo ∨ op = .add) (t : TypeId) (a b : Nat) (W : World) : ∃ c n, (binOp op t (.float .f64 a) (.float .f64 b)).run P W = .ok (.float .f64 c) (W.drewN n) := by
  rcases h with rfl | rfl
  · cases hr : FloatKind.f64.format.div a b with
    | some r => exact ⟨r, 0, by simp [binOp, Op.floatArith, hr]; rfl⟩
    | none =>
      simp [binOp, Op.floatArith, hr]
      split
      · exact ⟨0, 0, rfl⟩
      · exact ⟨_, 1, rfl⟩
  · cases hr : FloatKind.f64.format.add a b with
    | some r => exact ⟨r, 0, by simp [binOp, Op.floatArith, hr]; rfl⟩
    | none =>
      simp [binOp, Op.floatArith, hr]
      split
      · exact ⟨0, 0, rfl⟩
      · exact ⟨_, 1, rfl⟩

theorem alpha_any (x : Nat) (w : World) :
    Calls Tryd.prog 55 #[.float .f64 x] w fun e w' => (∃ v, e = .returned (.float .f64 v)) ∧ ∃ n, w' = w.drewN n := by
  obtain ⟨c1, n1, e1⟩ := run_float Tryd.prog .quo (.inl rfl) 68 4607538203170579677 x w
  obtain ⟨c2, n2, e2⟩ := run_float Tryd.prog .add (.inr rfl) 68 4607182418800017408 c1 (w.drewN n1)
  obtain ⟨c3, n3, e3⟩ := run_float Tryd.prog .quo (.inl rfl) 68 4604672112367721094 c2 (w.drewN (n1 + n2))
  go_enter Tryd.func55, Tryd.ntmps55
  go_wp2
  · go_ret
    exact ⟨⟨_, rfl⟩, 0, rfl⟩
  · go_ret
    exact ⟨⟨_, rfl⟩, 0, rfl⟩
  · go_ret
    exact ⟨⟨_, rfl⟩, 0, rfl⟩
  · go_ret
    exact ⟨⟨_, rfl⟩, _, rfl⟩
end Go.Proofs.YtoegfdndoeiolaaDoor
