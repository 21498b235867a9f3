/- Plain law: the words that the walks leave of shifts and masks, as numbers. Conditions: the numbers are of their kinds. -/
import Derived.Laws.BitsAllLaws
import Derived.Laws.Bits64
import Derived.Test.YtoegfdndoeiolaaDoorPlainHash
namespace Go.Proofs.YtoegfdndoeiolaaDoor

theorem wrap_pow64 (l : Nat) (hl : l < 64) : IntKind.u64.wrap ((2 : Int) ^ l) = ((2 ^ l : Nat) : Int) := by
  have h : (2 : Nat) ^ l < 2 ^ 64 := Nat.pow_lt_pow_right (by omega) hl
  rw [IntKind.wrap_u64, show ((2 : Int) ^ l) = ((2 ^ l : Nat) : Int) from by rw [Int.natCast_pow]; rfl]
  generalize (2 : Nat) ^ l = m at *
  omega
theorem wrap_pow32 (l : Nat) (hl : l < 32) : IntKind.u32.wrap ((2 : Int) ^ l) = ((2 ^ l : Nat) : Int) := by
  have h : (2 : Nat) ^ l < 2 ^ 32 := Nat.pow_lt_pow_right (by omega) hl
  rw [IntKind.wrap_u32', show ((2 : Int) ^ l) = ((2 ^ l : Nat) : Int) from by rw [Int.natCast_pow]; rfl]
  generalize (2 : Nat) ^ l = m at *
  omega
theorem shr_nat (v s : Nat) : (v : Int) / 2 ^ s = ((v / 2 ^ s : Nat) : Int) := by
  rw [Int.natCast_ediv, Int.natCast_pow]; rfl
theorem shl_nat (v s : Nat) : (v : Int) * 2 ^ s = ((v * 2 ^ s : Nat) : Int) := by
  rw [Int.natCast_mul, Int.natCast_pow]; rfl

theorem bextr_word (v s l : Nat) (hv : v < 18446744073709551616) (hl : l < 64) :
    bits .and .u64 ((v : Int) / 2 ^ s) (IntKind.u64.wrap (IntKind.u64.wrap (2 ^ l) - 1)) = ((ext v s l : Nat) : Int) := by
  unfold ext
  have h : (2 : Nat) ^ l < 2 ^ 64 := Nat.pow_lt_pow_right (by omega) hl
  have hp : 0 < (2 : Nat) ^ l := Nat.pow_pos (by omega)
  have hle : v / 2 ^ s ≤ v := Nat.div_le_self _ _
  rw [wrap_pow64 l hl, shr_nat, IntKind.wrap_u64, show (((2 ^ l : Nat) : Int) - 1) % 18446744073709551616 = ((2 ^ l - 1 : Nat) : Int) from by omega,
    u64_and_nat _ _ (by omega) (by omega), Nat.and_two_pow_sub_one_eq_mod]
theorem bextr32_word (v s l : Nat) (hv : v < 4294967296) (hl : l < 32) :
    bits .and .u32 ((v : Int) / 2 ^ s) (((2 : Int) ^ l - 1) % 4294967296) = ((ext v s l : Nat) : Int) := by
  unfold ext
  have h : (2 : Nat) ^ l < 2 ^ 32 := Nat.pow_lt_pow_right (by omega) hl
  have hp : 0 < (2 : Nat) ^ l := Nat.pow_pos (by omega)
  have hle : v / 2 ^ s ≤ v := Nat.div_le_self _ _
  rw [show ((2 : Int) ^ l) = ((2 ^ l : Nat) : Int) from by rw [Int.natCast_pow]; rfl, shr_nat, show (((2 ^ l : Nat) : Int) - 1) % 4294967296 = ((2 ^ l - 1 : Nat) : Int) from by generalize (2 : Nat) ^ l = m at *; omega,
    u32_and_nat _ _ (by omega) (by omega), Nat.and_two_pow_sub_one_eq_mod]
theorem bit0_odd (k : Nat) (hk : k < 4294967296) (h : k % 2 = 1) : (bits .and .u32 (k : Int) 1 == 1) = true := by
  have e := u32_and_nat k 1 hk (by omega)
  rw [nat_mask1, h] at e
  rw [show (1 : Int) = ((1 : Nat) : Int) from rfl, e]; rfl
theorem bit0_even (k : Nat) (hk : k < 4294967296) (h : ¬ k % 2 = 1) : (bits .and .u32 (k : Int) 1 == 1) = false := by
  have e := u32_and_nat k 1 hk (by omega)
  rw [nat_mask1, show k % 2 = 0 from by omega] at e
  rw [show (1 : Int) = ((1 : Nat) : Int) from rfl, e]; rfl
/-- What a walk leaves of a key that is no key of the second kind: moved up. -/
theorem shl_key (k p : Nat) : ((k : Int) * 2 ^ (6 + p)) % 4294967296 = ((upWord k p : Nat) : Int) := by
  unfold upWord
  rw [shl_nat]; generalize k * 2 ^ (6 + p) = m; omega
theorem zero_bits (x : Nat) : bits .or .u64 (IntKind.u64.wrap (((ext x 0 39 : Nat) : Int) * 33554432)) 33554431 = ((zeroWord x : Nat) : Int) := by
  have h : ext x 0 39 < 2 ^ 39 := by rw [ext39]; exact Nat.mod_lt _ (by omega)
  unfold zeroWord
  generalize ext x 0 39 = e at *
  rw [IntKind.wrap_u64, show ((e : Int) * 33554432) % 18446744073709551616 = ((e * 2 ^ 25 : Nat) : Int) from by omega, show (33554431 : Int) = ((2 ^ 25 - 1 : Nat) : Int) from rfl,
    u64_or_nat _ _ (by omega) (by omega)]
/-- The key's three parts, joined. -/
theorem key_bits (I L : Nat) (hI : I < 33554432) (h1 : L ≤ 64) (h2 : 25 ≤ L) :
    bits .or .u32 (bits .or .u32 ((I : Int) * 128) ((64 - (L : Int) + 1) * 2)) 1 = ((I * 128 + (65 - L) * 2 + 1 : Nat) : Int) := by
  have e1 : bits .or .u32 ((I : Int) * 128) ((64 - (L : Int) + 1) * 2) = ((I * 128 + (65 - L) * 2 : Nat) : Int) := by
    rw [show ((I : Int) * 128) = ((I * 128 : Nat) : Int) from by omega, show ((64 - (L : Int) + 1) * 2) = (((65 - L) * 2 : Nat) : Int) from by omega,
      u32_or_nat _ _ (by omega) (by omega), nat_join 7 (I * 128) ((65 - L) * 2) (by omega) (by omega)]
  rw [e1, show (1 : Int) = ((1 : Nat) : Int) from rfl, u32_or_nat _ _ (by omega) (by omega), nat_join 1 (I * 128 + (65 - L) * 2) 1 (by omega) (by omega)]
theorem rho_bits (x p : Nat) (h2 : p ≤ 18) :
    bits .or .u64 (IntKind.u64.wrap ((x : Int) * 2 ^ p)) (IntKind.u64.wrap (2 ^ (p - 1))) = ((rhoWord x p : Nat) : Int) := by
  unfold rhoWord
  have h3 : (2 : Nat) ^ (p - 1) < 2 ^ 64 := Nat.pow_lt_pow_right (by omega) (by omega)
  rw [wrap_pow64 (p - 1) (by omega), shl_nat, IntKind.wrap_u64, show ((x * 2 ^ p : Nat) : Int) % 18446744073709551616 = ((x * 2 ^ p % 2 ^ 64 : Nat) : Int) from by
      generalize x * 2 ^ p = m; omega,
    u64_or_nat _ _ (Nat.mod_lt _ (by omega)) (by omega)]
end Go.Proofs.YtoegfdndoeiolaaDoor
