/- Plain law: the register and the value of a hash, the sparse form of a hash, and that decoding it gives them back. Conditions: a hash below 2^64, 4 to 18 bits. -/
import Derived.Lib.BitFns
import Derived.Laws.BitsAllLaws
namespace Go.Proofs.YtoegfdndoeiolaaDoor
open Go.Lib (bitLen)

/-- l bits of v from s on. -/
def ext (v s l : Nat) : Nat := v / 2 ^ s % 2 ^ l
/-- The word of which the value is the leading zeros. -/
def rhoWord (x p : Nat) : Nat := (x * 2 ^ p % 2 ^ 64) ||| 2 ^ (p - 1)
/-- The register of a hash: its first p bits. -/
def posN (x p : Nat) : Nat := x / 2 ^ (64 - p)
/-- The bits behind. -/
def tailN (x p : Nat) : Nat := x % 2 ^ (64 - p)
/-- The value of a hash. -/
def valN (x p : Nat) : Nat := 65 - p - bitLen (tailN x p)
/-- A hash in the sparse form. -/
def encN (x p : Nat) : Nat :=
  if x / 2 ^ 39 % 2 ^ (25 - p) = 0 then x / 2 ^ 39 * 128 + (40 - bitLen (x % 2 ^ 39)) * 2 + 1 else x / 2 ^ 39 * 2
def decIdx (k p : Nat) : Nat := if k % 2 = 1 then ext k (32 - p) p else ext k (26 - p) p
def decVal (k p : Nat) : Nat := if k % 2 = 1 then k / 2 % 64 + 25 - p else 33 - bitLen (k * 2 ^ (6 + p) % 2 ^ 32)

theorem bitLen_zero : bitLen 0 = 0 := by decide +kernel

/-- 'a' with j further digits behind it. -/
theorem bitLen_join (a j b : Nat) (ha : a ≠ 0) (hb : b < 2 ^ j) (h : a * 2 ^ j + b < 2 ^ 64) : bitLen (a * 2 ^ j + b) = j + bitLen a := by
  have hp : 0 < 2 ^ j := Nat.pow_pos (by omega)
  have h1 : 2 ^ j ≤ a * 2 ^ j + b := by
    have : 1 * 2 ^ j ≤ a * 2 ^ j := Nat.mul_le_mul_right _ (by omega)
    omega
  rw [Go.Lib.bitLen_shift j _ h1 h]
  congr 2
  rw [Nat.mul_comm, Nat.mul_add_div hp, Nat.div_eq_of_lt hb, Nat.add_zero]

theorem bitLen_lt (x k : Nat) (hk : k ≤ 64) (h : x < 2 ^ k) : bitLen x ≤ k := Go.Lib.bitLen_le x k hk h

/-- The word of getPosVal: the tail moved up, a 1 behind it. -/
theorem rho_word (x p : Nat) (h1 : 4 ≤ p) (h2 : p ≤ 18) :
    (x * 2 ^ p % 2 ^ 64) ||| 2 ^ (p - 1) = tailN x p * 2 ^ p + 2 ^ (p - 1) := by
  have e : x * 2 ^ p % 2 ^ 64 = tailN x p * 2 ^ p := by
    unfold tailN
    have : (2 : Nat) ^ 64 = 2 ^ (64 - p) * 2 ^ p := by rw [← Nat.pow_add]; congr 1; omega
    rw [this, Nat.mul_mod_mul_right]
  rw [e]
  refine Go.nat_join p _ _ (Nat.mul_mod_left _ _) (Nat.pow_lt_pow_right (by omega) (by omega))

theorem tail_lt (x p : Nat) : tailN x p < 2 ^ (64 - p) := Nat.mod_lt _ (Nat.pow_pos (by omega))

theorem bitLen_two_pow (j : Nat) (h : j < 64) : bitLen (2 ^ j) = j + 1 := by
  have := bitLen_join 1 j 0 (by omega) (Nat.pow_pos (by omega)) (by rw [Nat.one_mul, Nat.add_zero]; exact Nat.pow_lt_pow_right (by omega) h)
  rw [Nat.one_mul, Nat.add_zero] at this
  rw [this]
  have : bitLen 1 = 1 := by decide +kernel
  omega

theorem rho_eq (x p : Nat) (h1 : 4 ≤ p) (h2 : p ≤ 18) :
    64 - bitLen (rhoWord x p) + 1 = valN x p ∧ bitLen (rhoWord x p) ≤ 64 := by
  unfold rhoWord
  rw [rho_word x p h1 h2]
  have hl := tail_lt x p
  have hlen := bitLen_lt _ (64 - p) (by omega) hl
  unfold valN
  by_cases h0 : tailN x p = 0
  · rw [h0, Nat.zero_mul, Nat.zero_add, bitLen_two_pow _ (by omega), bitLen_zero]
    omega
  · have h64 : tailN x p * 2 ^ p + 2 ^ (p - 1) < 2 ^ 64 := by
      have e : (2 : Nat) ^ 64 = 2 ^ (64 - p) * 2 ^ p := by rw [← Nat.pow_add]; congr 1; omega
      have : (tailN x p + 1) * 2 ^ p ≤ 2 ^ (64 - p) * 2 ^ p := Nat.mul_le_mul_right _ hl
      rw [Nat.add_mul, Nat.one_mul] at this
      have h3 : (2 : Nat) ^ (p - 1) < 2 ^ p := Nat.pow_lt_pow_right (by omega) (by omega)
      omega
    rw [bitLen_join _ p _ h0 (Nat.pow_lt_pow_right (by omega) (by omega)) h64]
    omega

theorem val_pos (x p : Nat) (h1 : 4 ≤ p) (h2 : p ≤ 18) : 1 ≤ valN x p := by
  have hlen := bitLen_lt _ (64 - p) (by omega) (tail_lt x p)
  unfold valN; omega
theorem val_le (x p : Nat) : valN x p ≤ 65 - p := by unfold valN; omega
theorem pos_lt (x p : Nat) (hx : x < 2 ^ 64) (h2 : p ≤ 18) : posN x p < 2 ^ p := by
  unfold posN
  rw [Nat.div_lt_iff_lt_mul (Nat.pow_pos (by omega)), ← Nat.pow_add]
  rw [show p + (64 - p) = 64 from by omega]
  exact hx
theorem ext_pos (x p : Nat) (hx : x < 2 ^ 64) (h2 : p ≤ 18) : ext x (64 - p) p = posN x p := by
  have := pos_lt x p hx h2
  unfold ext posN at *
  exact Nat.mod_eq_of_lt this
theorem rhoWord_lt (x p : Nat) (h2 : p ≤ 18) : rhoWord x p < 2 ^ 64 := by
  unfold rhoWord
  exact Nat.or_lt_two_pow (Nat.mod_lt _ (by omega)) (Nat.pow_lt_pow_right (by omega) (by omega))
theorem decIdx_lt (k p : Nat) : decIdx k p < 2 ^ p := by
  unfold decIdx ext
  split <;> exact Nat.mod_lt _ (Nat.pow_pos (by omega))

/-- The spec's count of leading zeros, at its exit. -/
theorem val_of_exit (x p k : Nat) (hp : p ≤ k) (hk : k ≤ 64) (hz : tailN x p < 2 ^ (64 - k)) (he : k = 64 ∨ 2 ^ (63 - k) ≤ tailN x p) (h1 : 4 ≤ p) :
    valN x p = 1 + (k - p) := by
  unfold valN
  rcases he with rfl | he
  · have : tailN x p = 0 := by simpa using hz
    rw [this, bitLen_zero]; omega
  · by_cases hk64 : k = 64
    · subst hk64
      have : tailN x p = 0 := by simpa using hz
      rw [this, bitLen_zero]; omega
    · have : bitLen (tailN x p) = 64 - k := by
        have hle := bitLen_lt _ (64 - k) (by omega) hz
        have hge : 64 - k ≤ bitLen (tailN x p) := by
          rw [Go.Lib.bitLen_shift (63 - k) _ he (Nat.lt_of_lt_of_le hz (Nat.pow_le_pow_right (by omega) (by omega)))]
          have hq : tailN x p / 2 ^ (63 - k) = 1 := by
            have hlt : tailN x p < 2 ^ (63 - k) * 2 := by
              have e : (2 : Nat) ^ (64 - k) = 2 ^ (63 - k) * 2 := by rw [← Nat.pow_succ]; congr 1; omega
              omega
            refine Nat.div_eq_of_lt_le (by omega) (by omega)
          have h1 : bitLen 1 = 1 := by decide +kernel
          rw [hq, h1]; omega
        omega
      omega

theorem enc_lt (x p : Nat) (hx : x < 2 ^ 64) : encN x p < 2 ^ 32 := by
  have h1 : x / 2 ^ 39 < 2 ^ 25 := by rw [Nat.div_lt_iff_lt_mul (by omega)]; omega
  unfold encN
  split <;> omega

theorem split39 (x p : Nat) (h1 : 4 ≤ p) (h2 : p ≤ 18) : tailN x p = x / 2 ^ 39 % 2 ^ (25 - p) * 2 ^ 39 + x % 2 ^ 39 := by
  unfold tailN
  have e : (2 : Nat) ^ (64 - p) = 2 ^ 39 * 2 ^ (25 - p) := by rw [← Nat.pow_add]; congr 1; omega
  rw [e, Nat.mod_mul, Nat.add_comm, Nat.mul_comm]

theorem pos_of_idx (x p : Nat) (hx : x < 2 ^ 64) (h1 : 4 ≤ p) (h2 : p ≤ 18) : x / 2 ^ 39 / 2 ^ (25 - p) % 2 ^ p = posN x p := by
  have hlt := pos_lt x p hx h2
  unfold posN at hlt ⊢
  rw [Nat.div_div_eq_div_mul, ← Nat.pow_add, show 39 + (25 - p) = 64 - p from by omega, Nat.mod_eq_of_lt hlt]

theorem dec_enc (x p : Nat) (hx : x < 2 ^ 64) (h1 : 4 ≤ p) (h2 : p ≤ 18) : decIdx (encN x p) p = posN x p ∧ decVal (encN x p) p = valN x p := by
  have hi : x / 2 ^ 39 < 2 ^ 25 := by rw [Nat.div_lt_iff_lt_mul (by omega)]; omega
  have hs := split39 x p h1 h2
  have hpos := pos_of_idx x p hx h1 h2
  have hu : x % 2 ^ 39 < 2 ^ 39 := Nat.mod_lt _ (by omega)
  have hul := bitLen_lt _ 39 (by omega) hu
  generalize hI : x / 2 ^ 39 = I at *
  generalize hU : x % 2 ^ 39 = U at *
  unfold encN
  rw [hI, hU]
  by_cases hz : I % 2 ^ (25 - p) = 0
  · rw [if_pos hz]
    have hodd : (I * 128 + (40 - bitLen U) * 2 + 1) % 2 = 1 := by omega
    refine ⟨?_, ?_⟩
    · unfold decIdx ext
      rw [if_pos hodd, ← hpos]
      congr 1
      have e : (2 : Nat) ^ (32 - p) = 128 * 2 ^ (25 - p) := by
        rw [show (128 : Nat) = 2 ^ 7 from rfl, ← Nat.pow_add]; congr 1; omega
      rw [e, ← Nat.div_div_eq_div_mul]
      congr 1
      omega
    · unfold decVal
      rw [if_pos hodd]
      unfold valN
      rw [hs, hz, Nat.zero_mul, Nat.zero_add]
      omega
  · rw [if_neg hz]
    have heven : ¬ (I * 2 % 2 = 1) := by omega
    refine ⟨?_, ?_⟩
    · unfold decIdx ext
      rw [if_neg heven, ← hpos]
      congr 1
      have e : (2 : Nat) ^ (26 - p) = 2 * 2 ^ (25 - p) := by
        rw [← Nat.pow_succ']; congr 1; omega
      rw [e, ← Nat.div_div_eq_div_mul]
      congr 1
      omega
    · unfold decVal
      rw [if_neg heven]
      have e : I * 2 * 2 ^ (6 + p) % 2 ^ 32 = I % 2 ^ (25 - p) * 2 ^ (7 + p) := by
        have e1 : I * 2 * 2 ^ (6 + p) = I * 2 ^ (7 + p) := by
          rw [Nat.mul_assoc, ← Nat.pow_succ']; congr 2; omega
        have e2 : (2 : Nat) ^ 32 = 2 ^ (25 - p) * 2 ^ (7 + p) := by rw [← Nat.pow_add]; congr 1; omega
        rw [e1, e2, Nat.mul_mod_mul_right]
      rw [e]
      generalize hq : I % 2 ^ (25 - p) = q at *
      have hqlt : q < 2 ^ (25 - p) := by rw [← hq]; exact Nat.mod_lt _ (Nat.pow_pos (by omega))
      have hql := bitLen_lt q (25 - p) (by omega) hqlt
      have b1 : q * 2 ^ (7 + p) + 0 < 2 ^ 64 := by
        have h3 : q * 2 ^ (7 + p) < 2 ^ (25 - p) * 2 ^ (7 + p) := Nat.mul_lt_mul_of_pos_right hqlt (Nat.pow_pos (by omega))
        rw [← Nat.pow_add, show 25 - p + (7 + p) = 32 from by omega] at h3
        omega
      have c1 := bitLen_join q (7 + p) 0 hz (Nat.pow_pos (by omega)) b1
      have b2 : q * 2 ^ 39 + U < 2 ^ 64 := by
        have h3 : (q + 1) * 2 ^ 39 ≤ 2 ^ (25 - p) * 2 ^ 39 := Nat.mul_le_mul_right _ hqlt
        rw [← Nat.pow_add] at h3
        have h4 : (2 : Nat) ^ (25 - p + 39) ≤ 2 ^ 60 := Nat.pow_le_pow_right (by omega) (by omega)
        omega
      have c2 := bitLen_join q 39 U hz hu b2
      unfold valN
      rw [hs, c2]
      rw [Nat.add_zero] at c1
      rw [c1]
      omega

theorem ext25 (x : Nat) (hx : x < 2 ^ 64) : ext x 39 25 = x / 2 ^ 39 := by
  unfold ext; exact Nat.mod_eq_of_lt (by rw [Nat.div_lt_iff_lt_mul (by omega)]; omega)
theorem ext39 (x : Nat) : ext x 0 39 = x % 2 ^ 39 := by unfold ext; rw [Nat.pow_zero, Nat.div_one]
/-- The word of which the sparse form's value is the leading zeros. -/
def zeroWord (x : Nat) : Nat := (ext x 0 39 * 2 ^ 25) ||| (2 ^ 25 - 1)
theorem zeroWord_eq (x : Nat) : zeroWord x = ext x 0 39 * 2 ^ 25 + (2 ^ 25 - 1) := by
  unfold zeroWord
  exact Go.nat_join 25 _ _ (Nat.mul_mod_left _ _) (by omega)
theorem zeroWord_lt (x : Nat) : zeroWord x < 2 ^ 64 := by
  have h : ext x 0 39 < 2 ^ 39 := by rw [ext39]; exact Nat.mod_lt _ (by omega)
  rw [zeroWord_eq]; omega
theorem zeroWord_len (x : Nat) : bitLen (zeroWord x) = 25 + bitLen (ext x 0 39) := by
  have h := zeroWord_lt x
  rw [zeroWord_eq] at h ⊢
  by_cases h0 : ext x 0 39 = 0
  · rw [h0, bitLen_zero]; decide +kernel
  · exact bitLen_join _ 25 _ h0 (by omega) h
theorem encN_zero {x p : Nat} (hx : x < 2 ^ 64) (h : ext x 39 (25 - p) = 0) :
    encN x p = ext x 39 25 * 128 + (65 - bitLen (zeroWord x)) * 2 + 1 ∧ bitLen (zeroWord x) ≤ 64 ∧ 25 ≤ bitLen (zeroWord x) := by
  have hl := bitLen_lt (zeroWord x) 64 (by omega) (zeroWord_lt x)
  have hw := zeroWord_len x
  rw [ext39] at hw
  unfold encN
  unfold ext at h
  rw [if_pos h, ext25 x hx]
  omega
theorem encN_other {x p : Nat} (hx : x < 2 ^ 64) (h : ¬ ext x 39 (25 - p) = 0) : encN x p = ext x 39 25 * 2 := by
  unfold encN
  unfold ext at h
  rw [if_neg h, ext25 x hx]

theorem decVal_odd {k p : Nat} (h : k % 2 = 1) : decVal k p = ext k 1 6 + 25 - p := by unfold decVal ext; rw [if_pos h, Nat.pow_one]
/-- A key of the first kind, moved up. -/
def upWord (k p : Nat) : Nat := k * 2 ^ (6 + p) % 2 ^ 32
theorem upWord_len (k p : Nat) : bitLen (upWord k p) ≤ 32 := bitLen_lt _ 32 (by omega) (Nat.mod_lt _ (by omega))
theorem upWord_lt (k p : Nat) : upWord k p < 2 ^ 32 := Nat.mod_lt _ (by omega)
theorem decVal_even {k p : Nat} (h : ¬ k % 2 = 1) : decVal k p = 33 - bitLen (upWord k p) := by unfold decVal upWord; rw [if_neg h]
theorem decVal_lt (k p : Nat) : decVal k p < 89 := by unfold decVal; split <;> omega

/-- A key that a list may hold. -/
def okKey (k p : Nat) : Prop := k < 2 ^ 32 ∧ decVal k p ≤ 65 - p
theorem okKey_enc (x p : Nat) (hx : x < 2 ^ 64) (h1 : 4 ≤ p) (h2 : p ≤ 18) : okKey (encN x p) p :=
  ⟨enc_lt x p hx, by rw [(dec_enc x p hx h1 h2).2]; exact val_le x p⟩
end Go.Proofs.YtoegfdndoeiolaaDoor
