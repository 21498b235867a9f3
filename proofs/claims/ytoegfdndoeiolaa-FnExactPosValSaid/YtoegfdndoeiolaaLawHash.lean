/- Walks: the laws of a hash's register and value, and of its sparse form: they return true. Conditions: the numbers are of their kinds. -/
import Derived.Test.YtoegfdndoeiolaaSpec
namespace Go.Proofs.Ytoegfdndoeiolaa
open Go.RowKit

theorem ZZPosVal_any (x p : Nat) (w : World) (hx : x < 18446744073709551616) (h1 : 4 ≤ p) (h2 : p ≤ 18) :
    Calls Try.prog 14 #[.int .u64 x, .int .u8 p] w fun e w' => e = .returned (.tuple #[.int .u64 (posN x p), .int .u8 (valN x p)]) ∧ w = w' := by
  go_enter Try.func14, Try.ntmps14
  go_wp2_with (go_at_call 19; refine (getPosVal_any x p _ hx h1 h2).mono ?_; rintro e w' ⟨rfl, rfl⟩)
  go_ret2
  exact ⟨rfl, rfl⟩
theorem implPosVal_any (x p : Nat) (w : World) (hx : x < 18446744073709551616) (h1 : 4 ≤ p) (h2 : p ≤ 18) :
    Calls Try.prog 7 #[.int .u64 x, .int .u8 p] w fun e w' => e = .returned (.tuple #[.int .u64 (posN x p), .int .u8 (valN x p)]) ∧ w = w' := by
  go_enter Try.func7, Try.ntmps7
  go_wp2_with (go_at_call 14; refine (ZZPosVal_any x p _ hx h1 h2).mono ?_; rintro e w' ⟨rfl, rfl⟩)
  go_ret2
  exact ⟨rfl, rfl⟩
theorem ZZDecodeHash_any (k p : Nat) (w : World) (hk : k < 4294967296) (h1 : 4 ≤ p) (h2 : p ≤ 18) :
    Calls Try.prog 17 #[.int .u32 k, .int .u8 p] w fun e w' => e = .returned (.tuple #[.int .u32 (decIdx k p : Nat), .int .u8 (decVal k p : Nat)]) ∧ w = w' := by
  go_enter Try.func17, Try.ntmps17
  go_wp2_with (go_at_call 22; refine (decodeHash_any k p _ hk h1 h2).mono ?_; rintro e w' ⟨rfl, rfl⟩)
  go_ret2
  exact ⟨rfl, rfl⟩
theorem implDecodeHash_any (k p : Nat) (w : World) (hk : k < 4294967296) (h1 : 4 ≤ p) (h2 : p ≤ 18) :
    Calls Try.prog 12 #[.int .u32 k, .int .u8 p] w fun e w' => e = .returned (.tuple #[.int .u32 (decIdx k p : Nat), .int .u8 (decVal k p : Nat)]) ∧ w = w' := by
  go_enter Try.func12, Try.ntmps12
  go_wp2_with (go_at_call 17; refine (ZZDecodeHash_any k p _ hk h1 h2).mono ?_; rintro e w' ⟨rfl, rfl⟩)
  go_ret2
  exact ⟨rfl, rfl⟩
theorem ZZEncodeHash_any (x p : Nat) (w : World) (hx : x < 18446744073709551616) (h1 : 4 ≤ p) (h2 : p ≤ 18) :
    Calls Try.prog 18 #[.int .u64 x, .int .u8 p] w fun e w' => e = .returned (.int .u32 (encN x p : Nat)) ∧ w = w' := by
  go_enter Try.func18, Try.ntmps18
  go_wp2_with (go_at_call 23; refine (encodeHash_any x p _ hx h1 h2).mono ?_; rintro e w' ⟨rfl, rfl⟩)
  go_ret
  exact ⟨rfl, rfl⟩
theorem implEncodeHash_any (x p : Nat) (w : World) (hx : x < 18446744073709551616) (h1 : 4 ≤ p) (h2 : p ≤ 18) :
    Calls Try.prog 13 #[.int .u64 x, .int .u8 p] w fun e w' => e = .returned (.int .u32 (encN x p : Nat)) ∧ w = w' := by
  go_enter Try.func13, Try.ntmps13
  go_wp2_with (go_at_call 18; refine (ZZEncodeHash_any x p _ hx h1 h2).mono ?_; rintro e w' ⟨rfl, rfl⟩)
  go_ret
  exact ⟨rfl, rfl⟩

theorem lawExactPosVal_yes (x p : Nat) (w : World) (hx : x < 18446744073709551616) (h1 : 4 ≤ p) (h2 : p ≤ 18) :
    Calls Try.prog 3 #[.int .u64 x, .int .u8 p] w fun e w' => e = .returned (.bool true) ∧ w = w' := by
  have hpl := pos_lt x p (by omega) h2
  have hp2 : (2 : Nat) ^ p ≤ 2 ^ 18 := Nat.pow_le_pow_right (by omega) h2
  have hp3 : posN x p < 262144 := by omega
  clear hpl hp2
  go_enter Try.func3, Try.ntmps3
  go_wp2_with (first
    | (go_at_call 6; refine (Right_yes p _ h1 h2).mono ?_; rintro e w' ⟨rfl, rfl⟩)
    | (go_at_call 7; refine (implPosVal_any x p _ hx h1 h2).mono ?_; rintro e w' ⟨rfl, rfl⟩)
    | (go_at_call 8; refine (Pos_any x p _ hx h2).mono ?_; rintro e w' ⟨rfl, rfl⟩)
    | (go_at_call 9; refine (Val_any x p _ hx h1 h2).mono ?_; rintro e w' ⟨rfl, rfl⟩))
  go_ret
  exact ⟨rfl, rfl⟩
theorem lawExactPosVal_no (x p : Nat) (w : World) (h : p < 4 ∨ 18 < p) :
    Calls Try.prog 3 #[.int .u64 x, .int .u8 p] w fun e w' => e = .returned (.bool true) ∧ w = w' := by
  go_enter Try.func3, Try.ntmps3
  go_wp2_with (go_at_call 6; refine (Right_no p _ h).mono ?_; rintro e w' ⟨rfl, rfl⟩)
  go_ret
  exact ⟨rfl, rfl⟩

theorem lawHashBack_yes (x p : Nat) (w : World) (hx : x < 18446744073709551616) (h1 : 4 ≤ p) (h2 : p ≤ 18) :
    Calls Try.prog 5 #[.int .u64 x, .int .u8 p] w fun e w' => e = .returned (.bool true) ∧ w = w' := by
  have hpl := pos_lt x p (by omega) h2
  have hp2 : (2 : Nat) ^ p ≤ 2 ^ 18 := Nat.pow_le_pow_right (by omega) h2
  have hp3 : posN x p < 262144 := by omega
  have hk : encN x p < 4294967296 := by have := enc_lt x p (by omega); omega
  have hd : Calls Try.prog 12 #[.int .u32 (encN x p : Nat), .int .u8 p] w fun e w' => e = .returned (.tuple #[.int .u32 (posN x p : Nat), .int .u8 (valN x p : Nat)]) ∧ w = w' := by
    have h := implDecodeHash_any (encN x p) p w hk h1 h2
    rwa [(dec_enc x p (by omega) h1 h2).1, (dec_enc x p (by omega) h1 h2).2] at h
  have HD := Lib.hid hd
  clear hpl hp2 hd
  go_enter Try.func5, Try.ntmps5
  go_wp2_with (first
    | (go_at_call 6; refine (Right_yes p _ h1 h2).mono ?_; rintro e w' ⟨rfl, rfl⟩)
    | (go_at_call 13; refine (implEncodeHash_any x p _ hx h1 h2).mono ?_; rintro e w' ⟨rfl, rfl⟩)
    | (go_at_call 12; refine HD.out.mono ?_; rintro e w' ⟨rfl, rfl⟩)
    | (go_at_call 8; refine (Pos_any x p _ hx h2).mono ?_; rintro e w' ⟨rfl, rfl⟩)
    | (go_at_call 9; refine (Val_any x p _ hx h1 h2).mono ?_; rintro e w' ⟨rfl, rfl⟩))
  go_ret
  exact ⟨rfl, rfl⟩
theorem lawHashBack_no (x p : Nat) (w : World) (h : p < 4 ∨ 18 < p) :
    Calls Try.prog 5 #[.int .u64 x, .int .u8 p] w fun e w' => e = .returned (.bool true) ∧ w = w' := by
  go_enter Try.func5, Try.ntmps5
  go_wp2_with (go_at_call 6; refine (Right_no p _ h).mono ?_; rintro e w' ⟨rfl, rfl⟩)
  go_ret
  exact ⟨rfl, rfl⟩
end Go.Proofs.Ytoegfdndoeiolaa
