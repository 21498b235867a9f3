/- Walks: the thin functions over a hash's sparse form. Conditions: the numbers are of their kinds, 4 to 18 bits. -/
import Derived.Test.YtoegfdndoeiolaaDoorSpec
namespace Go.Proofs.YtoegfdndoeiolaaDoor
open Go.RowKit

theorem ZZEncodeHash_any (x p : Nat) (w : World) (hx : x < 18446744073709551616) (h1 : 4 ≤ p) (h2 : p ≤ 18) :
    Calls Tryd.prog 30 #[.int .u64 x, .int .u8 p] w fun e w' => e = .returned (.int .u32 (encN x p : Nat)) ∧ w = w' := by
  go_enter Tryd.func30, Tryd.ntmps30
  go_wp2_with (go_at_call 45; refine (encodeHash_any x p _ hx h1 h2).mono ?_; rintro e w' ⟨rfl, rfl⟩)
  go_ret
  exact ⟨rfl, rfl⟩
theorem implEncodeHash_any (x p : Nat) (w : World) (hx : x < 18446744073709551616) (h1 : 4 ≤ p) (h2 : p ≤ 18) :
    Calls Tryd.prog 15 #[.int .u64 x, .int .u8 p] w fun e w' => e = .returned (.int .u32 (encN x p : Nat)) ∧ w = w' := by
  go_enter Tryd.func15, Tryd.ntmps15
  go_wp2_with (go_at_call 30; refine (ZZEncodeHash_any x p _ hx h1 h2).mono ?_; rintro e w' ⟨rfl, rfl⟩)
  go_ret
  exact ⟨rfl, rfl⟩

end Go.Proofs.YtoegfdndoeiolaaDoor
