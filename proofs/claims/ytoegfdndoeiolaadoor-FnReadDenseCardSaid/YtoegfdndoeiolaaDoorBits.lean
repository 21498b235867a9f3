/- Walks: bits.LeadingZeros64 and bextr, bextr32, getPosVal of the package: what they return. Conditions: the numbers are of their kinds, 4 to 18 bits. -/
import Derived.Test.YtoegfdndoeiolaaDoorProg
import Derived.WalkKit
import Derived.WalkLawsBesides
import Derived.WalkSpells
import Derived.Lib.Hide
import Derived.Test.YtoegfdndoeiolaaDoorLen64
import Derived.Test.YtoegfdndoeiolaaDoorPlainWord
namespace Go.Proofs.YtoegfdndoeiolaaDoor
open Go.RowKit

theorem ret_int {k : IntKind} {a b : Int} (h : a = b) : Ending.returned (.int k a) = .returned (.int k b) := by rw [h]

theorem ret2_int {k l : IntKind} {a b c d : Int} (h : a = b) (h' : c = d) : Ending.returned (.tuple #[.int k a, .int l c]) = .returned (.tuple #[.int k b, .int l d]) := by rw [h, h']

theorem bits_LeadingZeros64 (x : Int) (w : World) (h0 : 0 ≤ x) (h1 : x ≤ 18446744073709551615) :
    Calls Tryd.prog 76 #[.int .u64 x] w fun e w' => e = .returned (.int .i64 (64 - (Lib.bitLen x.toNat : Int))) ∧ w = w' := by
  have hl := Go.Lib.bitLen_le x.toNat 64 (by omega) (by omega)
  go_enter Tryd.func76, Tryd.ntmps76
  go_wp2_with (go_at_call 103; refine (bits_Len64 _ _ h0 h1).mono ?_; rintro e w' ⟨rfl, rfl⟩)
  go_ret
  exact ⟨rfl, rfl⟩

theorem bextr_any (v s l : Nat) (w : World) (hv : v < 18446744073709551616) (hs : s < 64) (hl : l < 64) :
    Calls Tryd.prog 75 #[.int .u64 v, .int .u8 s, .int .u8 l] w fun e w' => e = .returned (.int .u64 (ext v s l : Nat)) ∧ w = w' := by
  go_enter Tryd.func75, Tryd.ntmps75
  go_wp2
  go_ret
  exact ⟨ret_int (bextr_word v s l hv hl), rfl⟩

theorem bextr32_any (v s l : Nat) (w : World) (hv : v < 4294967296) (hs : s < 32) (hl : l < 32) :
    Calls Tryd.prog 109 #[.int .u32 v, .int .u8 s, .int .u8 l] w fun e w' => e = .returned (.int .u32 (ext v s l : Nat)) ∧ w = w' := by
  go_enter Tryd.func109, Tryd.ntmps109
  go_wp2
  go_ret
  exact ⟨ret_int (bextr32_word v s l hv hl), rfl⟩

theorem lz_any (n : Nat) (w : World) (h1 : n < 18446744073709551616) :
    Calls Tryd.prog 76 #[.int .u64 n] w fun e w' => e = .returned (.int .i64 (64 - (Lib.bitLen n : Int))) ∧ w = w' := by
  have h := bits_LeadingZeros64 (n : Int) w (by omega) (by omega)
  rwa [Int.toNat_natCast] at h

theorem getPosVal_any (x p : Nat) (w : World) (hx : x < 18446744073709551616) (h1 : 4 ≤ p) (h2 : p ≤ 18) :
    Calls Tryd.prog 85 #[.int .u64 x, .int .u8 p] w fun e w' => e = .returned (.tuple #[.int .u64 (posN x p), .int .u8 (valN x p)]) ∧ w = w' := by
  have hr := rho_eq x p h1 h2
  have hb := rhoWord_lt x p h2
  go_enter Tryd.func85, Tryd.ntmps85
  go_wp2_with fail
  rw [show ((64 : Int) - (p : Int)) = ((64 - p : Nat) : Int) from by omega]
  refine (bextr_any x (64 - p) p _ hx (by omega) (by omega)).mono ?_
  rintro e w' ⟨rfl, rfl⟩
  go_wp2_with fail
  rw [rho_bits x p h2]
  refine (lz_any (rhoWord x p) _ hb).mono ?_
  rintro e w' ⟨rfl, rfl⟩
  go_wp2_with fail
  go_ret2
  exact ⟨ret2_int (by rw [ext_pos x p (by omega) h2]) (by omega), rfl⟩
end Go.Proofs.YtoegfdndoeiolaaDoor
