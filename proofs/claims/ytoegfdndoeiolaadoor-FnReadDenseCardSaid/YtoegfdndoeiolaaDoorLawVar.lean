/- Walks: a number's bytes by the thin functions. Condition: numbers below 2^32. -/
import Derived.Test.YtoegfdndoeiolaaDoorVar
namespace Go.Proofs.YtoegfdndoeiolaaDoor
open Go.RowKit

theorem ZZPutVarint_any (x : Nat) (w : World) (hx : x < 4294967296) :
    Calls Tryd.prog 33 #[.int .u32 x] w fun e w' =>
      ∃ v', e = .returned v' ∧ Row w' 5 .u8 v' (varint x) ∧ Only (fun _ => False) w w' := by
  have hA := Append_any (.slice none 0 0) [] x w hx (Row.nil_ w _ _) (by simp)
  have HA := Lib.hid hA
  clear hA
  go_enter Tryd.func33, Tryd.ntmps33
  go_wp2_with (go_at_call 53; refine HA.out.mono ?_; rintro e w' ⟨v', rfl, hrow, hon, hlies⟩)
  go_ret
  exact ⟨v', rfl, by simpa using hrow, hon.mono (fun k hk _ => by simp [Value.ownBlock] at hk)⟩
theorem PutVarint_any (x : Nat) (w : World) (hx : x < 4294967296) :
    Calls Tryd.prog 18 #[.int .u32 x] w fun e w' =>
      ∃ v', e = .returned v' ∧ Row w' 5 .u8 v' (varint x) ∧ Only (fun _ => False) w w' := by
  have HA := Lib.hid (ZZPutVarint_any x w hx)
  go_enter Tryd.func18, Tryd.ntmps18
  go_wp2_with (go_at_call 33; refine HA.out.mono ?_; rintro e w' ⟨v', rfl, hrow, hon⟩)
  go_ret
  exact ⟨v', rfl, hrow, hon⟩

end Go.Proofs.YtoegfdndoeiolaaDoor
