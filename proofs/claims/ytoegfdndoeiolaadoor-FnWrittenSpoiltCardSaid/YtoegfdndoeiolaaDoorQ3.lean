/- Walks and plain laws, one behind the other (Bits, Hash); their conditions stand at each. -/
import Derived.Test.YtoegfdndoeiolaaDoorProg
import Derived.WalkKit
import Derived.WalkLawsBesides
import Derived.WalkSpells
import Derived.Lib.Hide
import Derived.Test.YtoegfdndoeiolaaDoorQ2
import Derived.Test.YtoegfdndoeiolaaDoorQ1

/- Walks: bits.LeadingZeros64 and bextr, bextr32, getPosVal of the package: what they return. Conditions: the numbers are of their kinds, 4 to 18 bits. -/
namespace Go.Proofs.YtoegfdndoeiolaaDoor
open Go.RowKit

theorem ret_int {k : IntKind} {a b : Int} (h : a = b) : Ending.returned (.int k a) = .returned (.int k b) := by rw [h]

theorem ret2_int {k l : IntKind} {a b c d : Int} (h : a = b) (h' : c = d) : Ending.returned (.tuple #[.int k a, .int l c]) = .returned (.tuple #[.int k b, .int l d]) := by rw [h, h']

theorem bits_LeadingZeros64 (x : Int) (w : World) (h0 : 0 ≤ x) (h1 : x ≤ 18446744073709551615) :
    Calls Tryd.prog 76 #[.int .u64 x] w fun e w' => e = .returned (.int .i64 (64 - (Lib.bitLen x.toNat : Int))) ∧ w = w' := by
  have hl := Go.Lib.bitLen_le x.toNat 64 (by omega) (by omega)
  go_enter Tryd.func76, Tryd.ntmps76
  go_wp2_with (go_at_call 103; refine (bits_Len64 _ _ h0 h1).mono ?_; rintro e w' ⟨rfl, rfl⟩)
  go_ret
  exact ⟨rfl, rfl⟩

theorem bextr_any (v s l : Nat) (w : World) (hv : v < 18446744073709551616) (hs : s < 64) (hl : l < 64) :
    Calls Tryd.prog 75 #[.int .u64 v, .int .u8 s, .int .u8 l] w fun e w' => e = .returned (.int .u64 (ext v s l : Nat)) ∧ w = w' := by
  go_enter Tryd.func75, Tryd.ntmps75
  go_wp2
  go_ret
  exact ⟨ret_int (bextr_word v s l hv hl), rfl⟩

theorem bextr32_any (v s l : Nat) (w : World) (hv : v < 4294967296) (hs : s < 32) (hl : l < 32) :
    Calls Tryd.prog 109 #[.int .u32 v, .int .u8 s, .int .u8 l] w fun e w' => e = .returned (.int .u32 (ext v s l : Nat)) ∧ w = w' := by
  go_enter Tryd.func109, Tryd.ntmps109
  go_wp2
  go_ret
  exact ⟨ret_int (bextr32_word v s l hv hl), rfl⟩

theorem lz_any (n : Nat) (w : World) (h1 : n < 18446744073709551616) :
    Calls Tryd.prog 76 #[.int .u64 n] w fun e w' => e = .returned (.int .i64 (64 - (Lib.bitLen n : Int))) ∧ w = w' := by
  have h := bits_LeadingZeros64 (n : Int) w (by omega) (by omega)
  rwa [Int.toNat_natCast] at h

theorem getPosVal_any (x p : Nat) (w : World) (hx : x < 18446744073709551616) (h1 : 4 ≤ p) (h2 : p ≤ 18) :
    Calls Tryd.prog 85 #[.int .u64 x, .int .u8 p] w fun e w' => e = .returned (.tuple #[.int .u64 (posN x p), .int .u8 (valN x p)]) ∧ w = w' := by
  have hr := rho_eq x p h1 h2
  have hb := rhoWord_lt x p h2
  go_enter Tryd.func85, Tryd.ntmps85
  go_wp2_with fail
  rw [show ((64 : Int) - (p : Int)) = ((64 - p : Nat) : Int) from by omega]
  refine (bextr_any x (64 - p) p _ hx (by omega) (by omega)).mono ?_
  rintro e w' ⟨rfl, rfl⟩
  go_wp2_with fail
  rw [rho_bits x p h2]
  refine (lz_any (rhoWord x p) _ hb).mono ?_
  rintro e w' ⟨rfl, rfl⟩
  go_wp2_with fail
  go_ret2
  exact ⟨ret2_int (by rw [ext_pos x p (by omega) h2]) (by omega), rfl⟩
end Go.Proofs.YtoegfdndoeiolaaDoor

/- Walks: a hash in the sparse form and back: encodeHash, getIndex, decodeHash, and the thin functions over them. Conditions: the numbers are of their kinds, 4 to 18 bits. -/
namespace Go.Proofs.YtoegfdndoeiolaaDoor
open Go.RowKit

theorem decIdx_odd {k p : Nat} (h : k % 2 = 1) : decIdx k p = ext k (32 - p) p := by unfold decIdx; rw [if_pos h]
theorem decIdx_even {k p : Nat} (h : ¬ k % 2 = 1) : decIdx k p = ext k (26 - p) p := by unfold decIdx; rw [if_neg h]

theorem getIndex_any (k p : Nat) (w : World) (hk : k < 4294967296) (h1 : 4 ≤ p) (h2 : p ≤ 18) :
    Calls Tryd.prog 110 #[.int .u32 k, .int .u8 p, .int .u8 25] w fun e w' => e = .returned (.int .u32 (decIdx k p : Nat)) ∧ w = w' := by
  by_cases ho : k % 2 = 1
  · have hb := bit0_odd k hk ho
    rw [decIdx_odd ho]
    clear ho
    go_enter Tryd.func110, Tryd.ntmps110
    go_wp2_with fail
    rw [show ((32 : Int) - (p : Int)) = ((32 - p : Nat) : Int) from by omega]
    refine (bextr32_any k (32 - p) p _ hk (by omega) (by omega)).mono ?_
    rintro e w' ⟨rfl, rfl⟩
    go_wp2_with fail
    go_ret
    exact ⟨rfl, rfl⟩
  · have hb := bit0_even k hk ho
    rw [decIdx_even ho]
    clear ho
    go_enter Tryd.func110, Tryd.ntmps110
    go_wp2_with fail
    rw [show ((25 : Int) - (p : Int) + 1) = ((26 - p : Nat) : Int) from by omega]
    refine (bextr32_any k (26 - p) p _ hk (by omega) (by omega)).mono ?_
    rintro e w' ⟨rfl, rfl⟩
    go_wp2_with fail
    go_ret
    exact ⟨rfl, rfl⟩

theorem decodeHash_any (k p : Nat) (w : World) (hk : k < 4294967296) (h1 : 4 ≤ p) (h2 : p ≤ 18) :
    Calls Tryd.prog 100 #[.int .u32 k, .int .u8 p, .int .u8 25] w fun e w' => e = .returned (.tuple #[.int .u32 (decIdx k p : Nat), .int .u8 (decVal k p : Nat)]) ∧ w = w' := by
  by_cases ho : k % 2 = 1
  · have hb := bit0_odd k hk ho
    have hx : ext k 1 6 < 64 := by unfold ext; omega
    go_enter Tryd.func100, Tryd.ntmps100
    go_wp2_with fail
    refine (bextr32_any k 1 6 _ hk (by omega) (by omega)).mono ?_
    rintro e w' ⟨rfl, rfl⟩
    go_wp2_with fail
    refine (getIndex_any k p _ hk h1 h2).mono ?_
    rintro e w' ⟨rfl, rfl⟩
    go_wp2_with fail
    go_ret2
    exact ⟨ret2_int rfl (by rw [decVal_odd ho]; omega), rfl⟩
  · have hb := bit0_even k hk ho
    have hl := upWord_len k p
    have hlt := upWord_lt k p
    go_enter Tryd.func100, Tryd.ntmps100
    go_wp2_with fail
    rw [shl_key]
    refine (lz_any (upWord k p) _ (by omega)).mono ?_
    rintro e w' ⟨rfl, rfl⟩
    go_wp2_with fail
    refine (getIndex_any k p _ hk h1 h2).mono ?_
    rintro e w' ⟨rfl, rfl⟩
    go_wp2_with fail
    go_ret2
    exact ⟨ret2_int rfl (by rw [decVal_even ho]; omega), rfl⟩

theorem encodeHash_any (x p : Nat) (w : World) (hx : x < 18446744073709551616) (h1 : 4 ≤ p) (h2 : p ≤ 18) :
    Calls Tryd.prog 45 #[.int .u64 x, .int .u8 p, .int .u8 25] w fun e w' => e = .returned (.int .u32 (encN x p : Nat)) ∧ w = w' := by
  have hlt : ext x 39 25 < 33554432 := by unfold ext; omega
  by_cases hz : ext x 39 (25 - p) = 0
  · obtain ⟨he, hl1, hl2⟩ := encN_zero (by omega) hz
    have HE := Lib.hid he
    have hzt : (((ext x 39 (25 - p) : Nat) : Int) == 0) = true := by rw [hz]; rfl
    have hw := zeroWord_lt x
    clear hz he
    go_enter Tryd.func45, Tryd.ntmps45
    go_wp2_with fail
    refine (bextr_any x 39 25 _ hx (by omega) (by omega)).mono ?_
    rintro e w' ⟨rfl, rfl⟩
    go_wp2_with fail
    rw [show ((25 : Int) - (p : Int)) = ((25 - p : Nat) : Int) from by omega]
    refine (bextr_any x 39 (25 - p) _ hx (by omega) (by omega)).mono ?_
    rintro e w' ⟨rfl, rfl⟩
    go_wp2_with fail
    refine (bextr_any x 0 39 _ hx (by omega) (by omega)).mono ?_
    rintro e w' ⟨rfl, rfl⟩
    go_wp2_with fail
    rw [zero_bits]
    refine (lz_any (zeroWord x) _ (by omega)).mono ?_
    rintro e w' ⟨rfl, rfl⟩
    go_wp2_with fail
    go_ret
    exact ⟨ret_int (by rw [HE.out]; exact key_bits _ _ hlt hl1 hl2), rfl⟩
  · have he := encN_other (by omega) hz
    have HE := Lib.hid he
    have hzt : (((ext x 39 (25 - p) : Nat) : Int) == 0) = false := by rw [beq_eq_false_iff_ne]; omega
    clear hz he
    go_enter Tryd.func45, Tryd.ntmps45
    go_wp2_with fail
    refine (bextr_any x 39 25 _ hx (by omega) (by omega)).mono ?_
    rintro e w' ⟨rfl, rfl⟩
    go_wp2_with fail
    rw [show ((25 : Int) - (p : Int)) = ((25 - p : Nat) : Int) from by omega]
    refine (bextr_any x 39 (25 - p) _ hx (by omega) (by omega)).mono ?_
    rintro e w' ⟨rfl, rfl⟩
    go_wp2_with fail
    go_ret
    exact ⟨ret_int (by rw [HE.out]; omega), rfl⟩
end Go.Proofs.YtoegfdndoeiolaaDoor
