/- Walks and plain laws, one behind the other (PlainHash, PlainVar, PlainWord, PlainSort, PlainMerge, PlainReg); their conditions stand at each. -/
import Derived.Lib.BitFns
import Derived.Laws.BitsAllLaws
import Derived.Laws.Bits64

/- Plain law: the register and the value of a hash, the sparse form of a hash, and that decoding it gives them back. Conditions: a hash below 2^64, 4 to 18 bits. -/
namespace Go.Proofs.YtoegfdndoeiolaaDoor
open Go.Lib (bitLen)

/-- l bits of v from s on. -/
def ext (v s l : Nat) : Nat := v / 2 ^ s % 2 ^ l
/-- The word of which the value is the leading zeros. -/
def rhoWord (x p : Nat) : Nat := (x * 2 ^ p % 2 ^ 64) ||| 2 ^ (p - 1)
/-- The register of a hash: its first p bits. -/
def posN (x p : Nat) : Nat := x / 2 ^ (64 - p)
/-- The bits behind. -/
def tailN (x p : Nat) : Nat := x % 2 ^ (64 - p)
/-- The value of a hash. -/
def valN (x p : Nat) : Nat := 65 - p - bitLen (tailN x p)
/-- A hash in the sparse form. -/
def encN (x p : Nat) : Nat :=
  if x / 2 ^ 39 % 2 ^ (25 - p) = 0 then x / 2 ^ 39 * 128 + (40 - bitLen (x % 2 ^ 39)) * 2 + 1 else x / 2 ^ 39 * 2
def decIdx (k p : Nat) : Nat := if k % 2 = 1 then ext k (32 - p) p else ext k (26 - p) p
def decVal (k p : Nat) : Nat := if k % 2 = 1 then k / 2 % 64 + 25 - p else 33 - bitLen (k * 2 ^ (6 + p) % 2 ^ 32)

theorem bitLen_zero : bitLen 0 = 0 := by decide +kernel

/-- 'a' with j further digits behind it. -/
theorem bitLen_join (a j b : Nat) (ha : a ≠ 0) (hb : b < 2 ^ j) (h : a * 2 ^ j + b < 2 ^ 64) : bitLen (a * 2 ^ j + b) = j + bitLen a := by
  have hp : 0 < 2 ^ j := Nat.pow_pos (by omega)
  have h1 : 2 ^ j ≤ a * 2 ^ j + b := by
    have : 1 * 2 ^ j ≤ a * 2 ^ j := Nat.mul_le_mul_right _ (by omega)
    omega
  rw [Go.Lib.bitLen_shift j _ h1 h]
  congr 2
  rw [Nat.mul_comm, Nat.mul_add_div hp, Nat.div_eq_of_lt hb, Nat.add_zero]

theorem bitLen_lt (x k : Nat) (hk : k ≤ 64) (h : x < 2 ^ k) : bitLen x ≤ k := Go.Lib.bitLen_le x k hk h

/-- The word of getPosVal: the tail moved up, a 1 behind it. -/
theorem rho_word (x p : Nat) (h1 : 4 ≤ p) (h2 : p ≤ 18) :
    (x * 2 ^ p % 2 ^ 64) ||| 2 ^ (p - 1) = tailN x p * 2 ^ p + 2 ^ (p - 1) := by
  have e : x * 2 ^ p % 2 ^ 64 = tailN x p * 2 ^ p := by
    unfold tailN
    have : (2 : Nat) ^ 64 = 2 ^ (64 - p) * 2 ^ p := by rw [← Nat.pow_add]; congr 1; omega
    rw [this, Nat.mul_mod_mul_right]
  rw [e]
  refine Go.nat_join p _ _ (Nat.mul_mod_left _ _) (Nat.pow_lt_pow_right (by omega) (by omega))

theorem tail_lt (x p : Nat) : tailN x p < 2 ^ (64 - p) := Nat.mod_lt _ (Nat.pow_pos (by omega))

theorem bitLen_two_pow (j : Nat) (h : j < 64) : bitLen (2 ^ j) = j + 1 := by
  have := bitLen_join 1 j 0 (by omega) (Nat.pow_pos (by omega)) (by rw [Nat.one_mul, Nat.add_zero]; exact Nat.pow_lt_pow_right (by omega) h)
  rw [Nat.one_mul, Nat.add_zero] at this
  rw [this]
  have : bitLen 1 = 1 := by decide +kernel
  omega

theorem rho_eq (x p : Nat) (h1 : 4 ≤ p) (h2 : p ≤ 18) :
    64 - bitLen (rhoWord x p) + 1 = valN x p ∧ bitLen (rhoWord x p) ≤ 64 := by
  unfold rhoWord
  rw [rho_word x p h1 h2]
  have hl := tail_lt x p
  have hlen := bitLen_lt _ (64 - p) (by omega) hl
  unfold valN
  by_cases h0 : tailN x p = 0
  · rw [h0, Nat.zero_mul, Nat.zero_add, bitLen_two_pow _ (by omega), bitLen_zero]
    omega
  · have h64 : tailN x p * 2 ^ p + 2 ^ (p - 1) < 2 ^ 64 := by
      have e : (2 : Nat) ^ 64 = 2 ^ (64 - p) * 2 ^ p := by rw [← Nat.pow_add]; congr 1; omega
      have : (tailN x p + 1) * 2 ^ p ≤ 2 ^ (64 - p) * 2 ^ p := Nat.mul_le_mul_right _ hl
      rw [Nat.add_mul, Nat.one_mul] at this
      have h3 : (2 : Nat) ^ (p - 1) < 2 ^ p := Nat.pow_lt_pow_right (by omega) (by omega)
      omega
    rw [bitLen_join _ p _ h0 (Nat.pow_lt_pow_right (by omega) (by omega)) h64]
    omega

theorem val_pos (x p : Nat) (h1 : 4 ≤ p) (h2 : p ≤ 18) : 1 ≤ valN x p := by
  have hlen := bitLen_lt _ (64 - p) (by omega) (tail_lt x p)
  unfold valN; omega
theorem val_le (x p : Nat) : valN x p ≤ 65 - p := by unfold valN; omega
theorem pos_lt (x p : Nat) (hx : x < 2 ^ 64) (h2 : p ≤ 18) : posN x p < 2 ^ p := by
  unfold posN
  rw [Nat.div_lt_iff_lt_mul (Nat.pow_pos (by omega)), ← Nat.pow_add]
  rw [show p + (64 - p) = 64 from by omega]
  exact hx
theorem ext_pos (x p : Nat) (hx : x < 2 ^ 64) (h2 : p ≤ 18) : ext x (64 - p) p = posN x p := by
  have := pos_lt x p hx h2
  unfold ext posN at *
  exact Nat.mod_eq_of_lt this
theorem rhoWord_lt (x p : Nat) (h2 : p ≤ 18) : rhoWord x p < 2 ^ 64 := by
  unfold rhoWord
  exact Nat.or_lt_two_pow (Nat.mod_lt _ (by omega)) (Nat.pow_lt_pow_right (by omega) (by omega))
theorem decIdx_lt (k p : Nat) : decIdx k p < 2 ^ p := by
  unfold decIdx ext
  split <;> exact Nat.mod_lt _ (Nat.pow_pos (by omega))

/-- The spec's count of leading zeros, at its exit. -/
theorem val_of_exit (x p k : Nat) (hp : p ≤ k) (hk : k ≤ 64) (hz : tailN x p < 2 ^ (64 - k)) (he : k = 64 ∨ 2 ^ (63 - k) ≤ tailN x p) (h1 : 4 ≤ p) :
    valN x p = 1 + (k - p) := by
  unfold valN
  rcases he with rfl | he
  · have : tailN x p = 0 := by simpa using hz
    rw [this, bitLen_zero]; omega
  · by_cases hk64 : k = 64
    · subst hk64
      have : tailN x p = 0 := by simpa using hz
      rw [this, bitLen_zero]; omega
    · have : bitLen (tailN x p) = 64 - k := by
        have hle := bitLen_lt _ (64 - k) (by omega) hz
        have hge : 64 - k ≤ bitLen (tailN x p) := by
          rw [Go.Lib.bitLen_shift (63 - k) _ he (Nat.lt_of_lt_of_le hz (Nat.pow_le_pow_right (by omega) (by omega)))]
          have hq : tailN x p / 2 ^ (63 - k) = 1 := by
            have hlt : tailN x p < 2 ^ (63 - k) * 2 := by
              have e : (2 : Nat) ^ (64 - k) = 2 ^ (63 - k) * 2 := by rw [← Nat.pow_succ]; congr 1; omega
              omega
            refine Nat.div_eq_of_lt_le (by omega) (by omega)
          have h1 : bitLen 1 = 1 := by decide +kernel
          rw [hq, h1]; omega
        omega
      omega

theorem enc_lt (x p : Nat) (hx : x < 2 ^ 64) : encN x p < 2 ^ 32 := by
  have h1 : x / 2 ^ 39 < 2 ^ 25 := by rw [Nat.div_lt_iff_lt_mul (by omega)]; omega
  unfold encN
  split <;> omega

theorem split39 (x p : Nat) (h1 : 4 ≤ p) (h2 : p ≤ 18) : tailN x p = x / 2 ^ 39 % 2 ^ (25 - p) * 2 ^ 39 + x % 2 ^ 39 := by
  unfold tailN
  have e : (2 : Nat) ^ (64 - p) = 2 ^ 39 * 2 ^ (25 - p) := by rw [← Nat.pow_add]; congr 1; omega
  rw [e, Nat.mod_mul, Nat.add_comm, Nat.mul_comm]

theorem pos_of_idx (x p : Nat) (hx : x < 2 ^ 64) (h1 : 4 ≤ p) (h2 : p ≤ 18) : x / 2 ^ 39 / 2 ^ (25 - p) % 2 ^ p = posN x p := by
  have hlt := pos_lt x p hx h2
  unfold posN at hlt ⊢
  rw [Nat.div_div_eq_div_mul, ← Nat.pow_add, show 39 + (25 - p) = 64 - p from by omega, Nat.mod_eq_of_lt hlt]

theorem dec_enc (x p : Nat) (hx : x < 2 ^ 64) (h1 : 4 ≤ p) (h2 : p ≤ 18) : decIdx (encN x p) p = posN x p ∧ decVal (encN x p) p = valN x p := by
  have hi : x / 2 ^ 39 < 2 ^ 25 := by rw [Nat.div_lt_iff_lt_mul (by omega)]; omega
  have hs := split39 x p h1 h2
  have hpos := pos_of_idx x p hx h1 h2
  have hu : x % 2 ^ 39 < 2 ^ 39 := Nat.mod_lt _ (by omega)
  have hul := bitLen_lt _ 39 (by omega) hu
  generalize hI : x / 2 ^ 39 = I at *
  generalize hU : x % 2 ^ 39 = U at *
  unfold encN
  rw [hI, hU]
  by_cases hz : I % 2 ^ (25 - p) = 0
  · rw [if_pos hz]
    have hodd : (I * 128 + (40 - bitLen U) * 2 + 1) % 2 = 1 := by omega
    refine ⟨?_, ?_⟩
    · unfold decIdx ext
      rw [if_pos hodd, ← hpos]
      congr 1
      have e : (2 : Nat) ^ (32 - p) = 128 * 2 ^ (25 - p) := by
        rw [show (128 : Nat) = 2 ^ 7 from rfl, ← Nat.pow_add]; congr 1; omega
      rw [e, ← Nat.div_div_eq_div_mul]
      congr 1
      omega
    · unfold decVal
      rw [if_pos hodd]
      unfold valN
      rw [hs, hz, Nat.zero_mul, Nat.zero_add]
      omega
  · rw [if_neg hz]
    have heven : ¬ (I * 2 % 2 = 1) := by omega
    refine ⟨?_, ?_⟩
    · unfold decIdx ext
      rw [if_neg heven, ← hpos]
      congr 1
      have e : (2 : Nat) ^ (26 - p) = 2 * 2 ^ (25 - p) := by
        rw [← Nat.pow_succ']; congr 1; omega
      rw [e, ← Nat.div_div_eq_div_mul]
      congr 1
      omega
    · unfold decVal
      rw [if_neg heven]
      have e : I * 2 * 2 ^ (6 + p) % 2 ^ 32 = I % 2 ^ (25 - p) * 2 ^ (7 + p) := by
        have e1 : I * 2 * 2 ^ (6 + p) = I * 2 ^ (7 + p) := by
          rw [Nat.mul_assoc, ← Nat.pow_succ']; congr 2; omega
        have e2 : (2 : Nat) ^ 32 = 2 ^ (25 - p) * 2 ^ (7 + p) := by rw [← Nat.pow_add]; congr 1; omega
        rw [e1, e2, Nat.mul_mod_mul_right]
      rw [e]
      generalize hq : I % 2 ^ (25 - p) = q at *
      have hqlt : q < 2 ^ (25 - p) := by rw [← hq]; exact Nat.mod_lt _ (Nat.pow_pos (by omega))
      have hql := bitLen_lt q (25 - p) (by omega) hqlt
      have b1 : q * 2 ^ (7 + p) + 0 < 2 ^ 64 := by
        have h3 : q * 2 ^ (7 + p) < 2 ^ (25 - p) * 2 ^ (7 + p) := Nat.mul_lt_mul_of_pos_right hqlt (Nat.pow_pos (by omega))
        rw [← Nat.pow_add, show 25 - p + (7 + p) = 32 from by omega] at h3
        omega
      have c1 := bitLen_join q (7 + p) 0 hz (Nat.pow_pos (by omega)) b1
      have b2 : q * 2 ^ 39 + U < 2 ^ 64 := by
        have h3 : (q + 1) * 2 ^ 39 ≤ 2 ^ (25 - p) * 2 ^ 39 := Nat.mul_le_mul_right _ hqlt
        rw [← Nat.pow_add] at h3
        have h4 : (2 : Nat) ^ (25 - p + 39) ≤ 2 ^ 60 := Nat.pow_le_pow_right (by omega) (by omega)
        omega
      have c2 := bitLen_join q 39 U hz hu b2
      unfold valN
      rw [hs, c2]
      rw [Nat.add_zero] at c1
      rw [c1]
      omega

theorem ext25 (x : Nat) (hx : x < 2 ^ 64) : ext x 39 25 = x / 2 ^ 39 := by
  unfold ext; exact Nat.mod_eq_of_lt (by rw [Nat.div_lt_iff_lt_mul (by omega)]; omega)
theorem ext39 (x : Nat) : ext x 0 39 = x % 2 ^ 39 := by unfold ext; rw [Nat.pow_zero, Nat.div_one]
/-- The word of which the sparse form's value is the leading zeros. -/
def zeroWord (x : Nat) : Nat := (ext x 0 39 * 2 ^ 25) ||| (2 ^ 25 - 1)
theorem zeroWord_eq (x : Nat) : zeroWord x = ext x 0 39 * 2 ^ 25 + (2 ^ 25 - 1) := by
  unfold zeroWord
  exact Go.nat_join 25 _ _ (Nat.mul_mod_left _ _) (by omega)
theorem zeroWord_lt (x : Nat) : zeroWord x < 2 ^ 64 := by
  have h : ext x 0 39 < 2 ^ 39 := by rw [ext39]; exact Nat.mod_lt _ (by omega)
  rw [zeroWord_eq]; omega
theorem zeroWord_len (x : Nat) : bitLen (zeroWord x) = 25 + bitLen (ext x 0 39) := by
  have h := zeroWord_lt x
  rw [zeroWord_eq] at h ⊢
  by_cases h0 : ext x 0 39 = 0
  · rw [h0, bitLen_zero]; decide +kernel
  · exact bitLen_join _ 25 _ h0 (by omega) h
theorem encN_zero {x p : Nat} (hx : x < 2 ^ 64) (h : ext x 39 (25 - p) = 0) :
    encN x p = ext x 39 25 * 128 + (65 - bitLen (zeroWord x)) * 2 + 1 ∧ bitLen (zeroWord x) ≤ 64 ∧ 25 ≤ bitLen (zeroWord x) := by
  have hl := bitLen_lt (zeroWord x) 64 (by omega) (zeroWord_lt x)
  have hw := zeroWord_len x
  rw [ext39] at hw
  unfold encN
  unfold ext at h
  rw [if_pos h, ext25 x hx]
  omega
theorem encN_other {x p : Nat} (hx : x < 2 ^ 64) (h : ¬ ext x 39 (25 - p) = 0) : encN x p = ext x 39 25 * 2 := by
  unfold encN
  unfold ext at h
  rw [if_neg h, ext25 x hx]

theorem decVal_odd {k p : Nat} (h : k % 2 = 1) : decVal k p = ext k 1 6 + 25 - p := by unfold decVal ext; rw [if_pos h, Nat.pow_one]
/-- A key of the first kind, moved up. -/
def upWord (k p : Nat) : Nat := k * 2 ^ (6 + p) % 2 ^ 32
theorem upWord_len (k p : Nat) : bitLen (upWord k p) ≤ 32 := bitLen_lt _ 32 (by omega) (Nat.mod_lt _ (by omega))
theorem upWord_lt (k p : Nat) : upWord k p < 2 ^ 32 := Nat.mod_lt _ (by omega)
theorem decVal_even {k p : Nat} (h : ¬ k % 2 = 1) : decVal k p = 33 - bitLen (upWord k p) := by unfold decVal upWord; rw [if_neg h]
theorem decVal_lt (k p : Nat) : decVal k p < 89 := by unfold decVal; split <;> omega

/-- A key that a list may hold. -/
def okKey (k p : Nat) : Prop := k < 2 ^ 32 ∧ decVal k p ≤ 65 - p
theorem okKey_enc (x p : Nat) (hx : x < 2 ^ 64) (h1 : 4 ≤ p) (h2 : p ≤ 18) : okKey (encN x p) p :=
  ⟨enc_lt x p hx, by rw [(dec_enc x p hx h1 h2).2]; exact val_le x p⟩
end Go.Proofs.YtoegfdndoeiolaaDoor

/- Plain law: numbers as bytes of seven bits each, and rising keys as their differences; each is read back. Conditions: numbers below 2^32. -/
namespace Go.Proofs.YtoegfdndoeiolaaDoor

/-- The bytes of a number. -/
def varint (x : Nat) : List Nat := if x < 128 then [x] else (x % 128 + 128) :: varint (x / 128)
termination_by x
decreasing_by omega

theorem varint_small {x : Nat} (h : x < 128) : varint x = [x] := by rw [varint, if_pos h]
theorem varint_big {x : Nat} (h : ¬ x < 128) : varint x = (x % 128 + 128) :: varint (x / 128) := by rw [varint, if_neg h]

theorem varint_pos (x : Nat) : 1 ≤ (varint x).length := by
  rw [varint]; split <;> simp

theorem varint_le (x : Nat) : ∀ n, 1 ≤ n → x < 128 ^ n → (varint x).length ≤ n := by
  induction x using Nat.strongRecOn with
  | _ x ih =>
    intro n h1 h
    by_cases hx : x < 128
    · rw [varint_small hx]; simpa using h1
    · rw [varint_big hx]
      match n, h1 with
      | 1, _ => omega
      | n + 2, _ =>
        have := ih (x / 128) (by omega) (n + 1) (by omega) (by rw [Nat.div_lt_iff_lt_mul (by omega), ← Nat.pow_succ]; exact h)
        simp only [List.length_cons]; omega

theorem varint_le5 (x : Nat) (h : x < 2 ^ 32) : (varint x).length ≤ 5 := varint_le x 5 (by omega) (by omega)

theorem varint_byte (x : Nat) : ∀ b ∈ varint x, b < 256 := by
  induction x using Nat.strongRecOn with
  | _ x ih =>
    by_cases hx : x < 128
    · rw [varint_small hx]; simp; omega
    · rw [varint_big hx]
      intro b hb
      rcases List.mem_cons.1 hb with rfl | hb
      · omega
      · exact ih _ (by omega) b hb

/-- What digits of seven bits each say, the low ones first. -/
def acc : List Nat → Nat
  | [] => 0
  | b :: bs => b % 128 + 128 * acc bs

theorem acc_snoc (bs : List Nat) (b : Nat) : acc (bs ++ [b]) = acc bs + 128 ^ bs.length * (b % 128) := by
  induction bs with
  | nil => simp [acc]
  | cons c bs ih =>
    simp only [List.cons_append, acc, ih, List.length_cons, Nat.mul_add]
    have h : 128 * (128 ^ bs.length * (b % 128)) = 128 ^ (bs.length + 1) * (b % 128) := by
      rw [Nat.pow_succ, Nat.mul_comm (128 ^ bs.length) 128, Nat.mul_assoc]
    omega

theorem acc_lt (bs : List Nat) : acc bs < 128 ^ bs.length := by
  induction bs with
  | nil => simp [acc]
  | cons c bs ih =>
    simp only [acc, List.length_cons, Nat.pow_succ]
    have := Nat.mod_lt c (show 0 < 128 by omega)
    omega

/-- A number at the front of bytes, and how many bytes it has. -/
def decN (bs : List Nat) : Option (Nat × Nat) :=
  match bs.drop (bs.takeWhile (fun b => decide (128 ≤ b))).length with
  | [] => none
  | b :: _ =>
    if 5 ≤ (bs.takeWhile (fun b => decide (128 ≤ b))).length ∨ ((bs.takeWhile (fun b => decide (128 ≤ b))).length = 4 ∧ 15 < b) ∨ (1 ≤ (bs.takeWhile (fun b => decide (128 ≤ b))).length ∧ b = 0) then none
    else some (acc (bs.takeWhile (fun b => decide (128 ≤ b)) ++ [b]), (bs.takeWhile (fun b => decide (128 ≤ b))).length + 1)

/-- 'pre' are high bytes, what follows is none: then that is what stands in front. -/
theorem takeWhile_of (pre rest : List Nat) (h : ∀ b ∈ pre, 128 ≤ b) (hr : ∀ b, rest.head? = some b → b < 128) :
    (pre ++ rest).takeWhile (fun b => decide (128 ≤ b)) = pre := by
  induction pre with
  | nil =>
    cases rest with
    | nil => rfl
    | cons b r =>
      have := hr b rfl
      simp [List.takeWhile_cons]; omega
  | cons c pre ih =>
    have hc := h c (by simp)
    simp only [List.cons_append, List.takeWhile_cons, hc, decide_true, if_true]
    rw [ih (fun b hb => h b (by simp [hb]))]

theorem decN_end (pre : List Nat) (h : ∀ b ∈ pre, 128 ≤ b) : decN pre = none := by
  have ht := takeWhile_of pre [] h (by simp)
  rw [List.append_nil] at ht
  unfold decN
  rw [ht]
  simp

theorem decN_at (pre : List Nat) (b : Nat) (rest : List Nat) (h : ∀ b ∈ pre, 128 ≤ b) (hb : b < 128) :
    decN (pre ++ b :: rest) =
      if 5 ≤ pre.length ∨ (pre.length = 4 ∧ 15 < b) ∨ (1 ≤ pre.length ∧ b = 0) then none else some (acc (pre ++ [b]), pre.length + 1) := by
  have ht := takeWhile_of pre (b :: rest) h (by simp; omega)
  unfold decN
  rw [ht]
  simp

/-- The bytes are those of the number that they say. -/
theorem varint_acc : ∀ (pre : List Nat) (b : Nat), (∀ c ∈ pre, 128 ≤ c ∧ c < 256) → b < 128 → (1 ≤ pre.length → b ≠ 0) → varint (acc (pre ++ [b])) = pre ++ [b]
  | [], b, _, hb, _ => by simp [acc]; rw [varint_small (by omega)]; congr 1; omega
  | c :: pre, b, h, hb, h0 => by
    have hc := h c (by simp)
    have hb0 := h0 (by simp)
    have ih := varint_acc pre b (fun d hd => h d (by simp [hd])) hb (fun _ => hb0)
    have hpos : 1 ≤ acc (pre ++ [b]) := by
      rw [acc_snoc]
      have : 1 ≤ 128 ^ pre.length * (b % 128) := Nat.mul_pos (Nat.pow_pos (by omega)) (by omega)
      omega
    simp only [List.cons_append, acc]
    rw [varint_big (by omega)]
    have e1 : (c % 128 + 128 * acc (pre ++ [b])) % 128 + 128 = c := by omega
    have e2 : (c % 128 + 128 * acc (pre ++ [b])) / 128 = acc (pre ++ [b]) := by omega
    rw [e1, e2, ih]

theorem acc_lt32 (pre : List Nat) (b : Nat) (hb : b < 128) (h5 : ¬ 5 ≤ pre.length) (h4 : ¬ (pre.length = 4 ∧ 15 < b)) : acc (pre ++ [b]) < 2 ^ 32 := by
  rw [acc_snoc]
  have hl := acc_lt pre
  have hbm : b % 128 = b := Nat.mod_eq_of_lt hb
  rw [hbm]
  rcases (show pre.length = 0 ∨ pre.length = 1 ∨ pre.length = 2 ∨ pre.length = 3 ∨ pre.length = 4 from by omega) with h | h | h | h | h <;> rw [h] at hl ⊢ <;> omega

theorem decN_some {bs : List Nat} {x n : Nat} (hbs : ∀ b ∈ bs, b < 256) (h : decN bs = some (x, n)) : x < 2 ^ 32 ∧ n = (varint x).length ∧ ∃ rest, bs = varint x ++ rest := by
  have hsplit := List.takeWhile_append_dropWhile (p := fun b => decide (128 ≤ b)) (l := bs)
  generalize hp : bs.takeWhile (fun b => decide (128 ≤ b)) = pre at hsplit
  have hpre : ∀ c ∈ pre, 128 ≤ c := fun c hc => by
    rw [← hp] at hc
    have := List.all_eq_true.1 (List.all_takeWhile (p := fun b => decide (128 ≤ b)) (l := bs)) c hc
    simpa using this
  generalize hd : bs.dropWhile (fun b => decide (128 ≤ b)) = rest at hsplit
  cases rest with
  | nil =>
    rw [List.append_nil] at hsplit
    subst hsplit
    rw [decN_end _ hpre] at h
    cases h
  | cons b rest =>
    have hb : b < 128 := by
      have h1 := List.head?_dropWhile_not (p := fun b => decide (128 ≤ b)) bs
      rw [hd] at h1
      simpa using h1
    rw [← hsplit, decN_at pre b rest hpre hb] at h
    split at h
    · cases h
    · rename_i hc
      simp only [Option.some.injEq, Prod.mk.injEq] at h
      obtain ⟨rfl, rfl⟩ := h
      have hc1 : ¬ 5 ≤ pre.length := fun h => hc (Or.inl h)
      have hc2 : ¬ (pre.length = 4 ∧ 15 < b) := fun h => hc (Or.inr (Or.inl h))
      have hc3 : 1 ≤ pre.length → b ≠ 0 := fun h h0 => hc (Or.inr (Or.inr ⟨h, h0⟩))
      have hv := varint_acc pre b (fun c hc => ⟨hpre c hc, hbs c (by rw [← hsplit]; simp [hc])⟩) hb hc3
      refine ⟨acc_lt32 pre b hb hc1 hc2, by rw [hv]; simp, rest, by rw [hv, ← hsplit]; simp⟩

/-- The bytes of a number: high ones, then one that is none; what they say; that they are few. -/
theorem varint_parts (x : Nat) : ∃ pre b, varint x = pre ++ [b] ∧ (∀ c ∈ pre, 128 ≤ c) ∧ b < 128 ∧ (1 ≤ pre.length → b ≠ 0) ∧ acc (pre ++ [b]) = x ∧ (pre.length = 0 → b = x) ∧ (x ≠ 0 → b ≠ 0) := by
  induction x using Nat.strongRecOn with
  | _ x ih =>
    by_cases hx : x < 128
    · exact ⟨[], x, by rw [varint_small hx]; rfl, by simp, hx, by simp, by simp [acc]; omega, by simp, fun h => h⟩
    · obtain ⟨pre, b, h1, h2, h3, h4, h5, h6, h7⟩ := ih (x / 128) (by omega)
      refine ⟨(x % 128 + 128) :: pre, b, by rw [varint_big hx, h1]; rfl, ?_, h3, fun _ => h7 (by omega), ?_, by simp, fun _ => h7 (by omega)⟩
      · intro c hc
        rcases List.mem_cons.1 hc with rfl | hc
        · omega
        · exact h2 c hc
      · simp only [List.cons_append, acc, h5]; omega

theorem decN_varint (x : Nat) (hx : x < 2 ^ 32) (rest : List Nat) : decN (varint x ++ rest) = some (x, (varint x).length) := by
  obtain ⟨pre, b, h1, h2, h3, h4, h5, _, _⟩ := varint_parts x
  have hl : (varint x).length = pre.length + 1 := by rw [h1]; simp
  have hl5 := varint_le5 x hx
  rw [h1, List.append_assoc, List.singleton_append, decN_at pre b rest h2 h3, if_neg, h5]
  · rw [List.length_append]; rfl
  · rintro (h | ⟨h, hb⟩ | ⟨h, hb⟩)
    · omega
    · rw [acc_snoc, h] at h5
      have : b % 128 = b := Nat.mod_eq_of_lt h3
      rw [this] at h5
      omega
    · exact h4 h hb

/-- Where a list ends. -/
def lastOr : Nat → List Nat → Nat
  | l, [] => l
  | _, k :: ks => lastOr k ks
theorem lastOr_snoc (l : Nat) (ks : List Nat) (k : Nat) : lastOr l (ks ++ [k]) = k := by
  induction ks generalizing l with
  | nil => rfl
  | cons c ks ih => exact ih c

/-- Keys as their differences, behind a key l. -/
def encFrom : Nat → List Nat → List Nat
  | _, [] => []
  | l, k :: ks => varint (k - l) ++ encFrom k ks

theorem encFrom_append (l : Nat) (as bs : List Nat) : encFrom l (as ++ bs) = encFrom l as ++ encFrom (lastOr l as) bs := by
  induction as generalizing l with
  | nil => rfl
  | cons a as ih => simp only [List.cons_append, encFrom, lastOr, ih, List.append_assoc]
theorem encFrom_snoc (l : Nat) (as : List Nat) (k : Nat) : encFrom l (as ++ [k]) = encFrom l as ++ varint (k - lastOr l as) := by
  rw [encFrom_append]; simp [encFrom]
theorem encFrom_byte (l : Nat) (ks : List Nat) : ∀ b ∈ encFrom l ks, b < 256 := by
  induction ks generalizing l with
  | nil => simp [encFrom]
  | cons k ks ih =>
    intro b hb
    rcases List.mem_append.1 hb with hb | hb
    · exact varint_byte _ b hb
    · exact ih k b hb
theorem encFrom_ge (l : Nat) (ks : List Nat) : ks.length ≤ (encFrom l ks).length := by
  induction ks generalizing l with
  | nil => simp [encFrom]
  | cons k ks ih =>
    have := varint_pos (k - l)
    have := ih k
    simp only [encFrom, List.length_append, List.length_cons]; omega
theorem encFrom_le (l : Nat) (ks : List Nat) (h : ∀ k ∈ ks, k < 2 ^ 32) : (encFrom l ks).length ≤ 5 * ks.length := by
  induction ks generalizing l with
  | nil => simp [encFrom]
  | cons k ks ih =>
    have hk := h k (by simp)
    have := varint_le5 (k - l) (by omega)
    have := ih k (fun c hc => h c (by simp [hc]))
    simp only [encFrom, List.length_append, List.length_cons]; omega

/-- Keys rise: each is above the one before it (the first one: not below l). -/
def Rising : List Nat → Prop := List.Pairwise (· < ·)

theorem lastOr_mem (l : Nat) (ks : List Nat) (h : ks ≠ []) : lastOr l ks ∈ ks := by
  induction ks generalizing l with
  | nil => exact absurd rfl h
  | cons k ks ih =>
    cases ks with
    | nil => simp [lastOr]
    | cons c cs =>
      have := ih k (by simp)
      show lastOr k (c :: cs) ∈ k :: c :: cs
      exact List.mem_cons_of_mem _ this

theorem rising_snoc {ks : List Nat} {k : Nat} (h : Rising ks) (hk : ks ≠ [] → lastOr 0 ks < k) : Rising (ks ++ [k]) := by
  unfold Rising at *
  rw [List.pairwise_append]
  refine ⟨h, List.pairwise_singleton _ _, ?_⟩
  intro a ha b hb
  rw [List.mem_singleton] at hb
  subst hb
  have hne : ks ≠ [] := List.ne_nil_of_mem ha
  have hl := hk hne
  have : a ≤ lastOr 0 ks := by
    clear hl hk hne
    have gen : ∀ (ks : List Nat) (l : Nat), List.Pairwise (· < ·) ks → ∀ a ∈ ks, a ≤ lastOr l ks := by
      intro ks
      induction ks with
      | nil => intro l _ a ha; cases ha
      | cons c cs ih =>
        intro l hp a ha
        rw [List.pairwise_cons] at hp
        show a ≤ lastOr c cs
        cases cs with
        | nil =>
          rw [List.mem_singleton] at ha
          subst ha
          exact Nat.le_refl _
        | cons d ds =>
          rcases List.mem_cons.1 ha with rfl | ha
          · exact Nat.le_of_lt (hp.1 _ (lastOr_mem _ _ (by simp)))
          · exact ih c hp.2 a ha
    exact gen ks 0 h a ha
  omega

theorem rising_lt {a b : List Nat} (h : Rising (a ++ b)) (k : Nat) (rest : List Nat) (hb : b = k :: rest) (ha : a ≠ []) : lastOr 0 a < k := by
  subst hb
  unfold Rising at h
  rw [List.pairwise_append] at h
  exact h.2.2 _ (lastOr_mem 0 a ha) k (by simp)

theorem rising_le {a b : List Nat} (h : Rising (a ++ b)) (k : Nat) (rest : List Nat) (hb : b = k :: rest) : lastOr 0 a ≤ k := by
  by_cases ha : a = []
  · subst ha; exact Nat.zero_le _
  · exact Nat.le_of_lt (rising_lt h k rest hb ha)

/-! ### What decode has read behind t bytes from i on -/
def sofar (bs : List Nat) (i t : Nat) : Nat := acc ((bs.drop i).take t) % 2 ^ 32
/-- Seven digits, moved t times up. -/
def shl7 (b t : Nat) : Nat := b % 128 * 2 ^ (min (t * 7) 32) % 2 ^ 32
def lo7 (b : Nat) : Nat := b % 128

theorem drop_take_succ (bs : List Nat) (i t : Nat) (h : i + t < bs.length) : (bs.drop i).take (t + 1) = (bs.drop i).take t ++ [bs.getD (i + t) 0] := by
  rw [List.take_succ_eq_append_getElem (by rw [List.length_drop]; omega), List.getElem_drop, List.getD_eq_getElem?_getD, List.getElem?_eq_getElem h]
  rfl
theorem drop_split (bs : List Nat) (i t : Nat) (h : i + t < bs.length) : bs.drop i = (bs.drop i).take t ++ bs.getD (i + t) 0 :: bs.drop (i + t + 1) := by
  have h1 := List.take_append_drop (t + 1) (bs.drop i)
  rw [drop_take_succ bs i t h, List.drop_drop, List.append_assoc, List.singleton_append] at h1
  exact h1.symm
theorem take_len (bs : List Nat) (i t : Nat) (h : i + t ≤ bs.length) : ((bs.drop i).take t).length = t := by
  rw [List.length_take, List.length_drop]; omega

theorem pow128 (t : Nat) : 128 ^ t = 2 ^ (t * 7) := by
  rw [show (128 : Nat) = 2 ^ 7 from rfl, ← Nat.pow_mul, Nat.mul_comm]

theorem sofar_step (bs : List Nat) (i t : Nat) (h : i + t < bs.length) : sofar bs i t ||| shl7 (bs.getD (i + t) 0) t = sofar bs i (t + 1) := by
  unfold sofar shl7
  rw [drop_take_succ bs i t h, acc_snoc, take_len bs i t (by omega), pow128]
  have hl := acc_lt ((bs.drop i).take t)
  rw [take_len bs i t (by omega), pow128] at hl
  generalize acc ((bs.drop i).take t) = A at *
  have hb := Nat.mod_lt (bs.getD (i + t) 0) (show 0 < 128 by omega)
  generalize bs.getD (i + t) 0 % 128 = b at *
  by_cases h5 : t * 7 < 32
  · rw [Nat.min_eq_left (by omega)]
    have hA : A % 2 ^ 32 = A := Nat.mod_eq_of_lt (Nat.lt_of_lt_of_le hl (Nat.pow_le_pow_right (by omega) (by omega)))
    have e2 : (2 : Nat) ^ 32 = 2 ^ (32 - t * 7) * 2 ^ (t * 7) := by rw [← Nat.pow_add]; congr 1; omega
    have eS : b * 2 ^ (t * 7) % 2 ^ 32 = b % 2 ^ (32 - t * 7) * 2 ^ (t * 7) := by rw [e2, Nat.mul_mod_mul_right]
    have hq := Nat.mod_lt b (show 0 < 2 ^ (32 - t * 7) from Nat.pow_pos (by omega))
    rw [hA, eS, Nat.or_comm, Go.nat_join (t * 7) _ _ (Nat.mul_mod_left _ _) hl, ← eS]
    have hlt : b * 2 ^ (t * 7) % 2 ^ 32 + A < 2 ^ 32 := by
      rw [eS]
      have h3 : (b % 2 ^ (32 - t * 7) + 1) * 2 ^ (t * 7) ≤ 2 ^ (32 - t * 7) * 2 ^ (t * 7) := Nat.mul_le_mul_right _ hq
      rw [← e2, Nat.add_mul, Nat.one_mul] at h3
      omega
    rw [show A + 2 ^ (t * 7) * b = b * 2 ^ (t * 7) + A from by rw [Nat.mul_comm, Nat.add_comm], ← Nat.mod_eq_of_lt hlt, Nat.mod_add_mod]
  · rw [Nat.min_eq_right (by omega), Nat.mul_mod_left, Nat.or_zero]
    have e : (2 : Nat) ^ (t * 7) = 2 ^ 32 * 2 ^ (t * 7 - 32) := by rw [← Nat.pow_add]; congr 1; omega
    rw [e, Nat.mul_assoc, Nat.add_mul_mod_self_left]

theorem sofar_lt (bs : List Nat) (i t : Nat) : sofar bs i t < 4294967296 := Nat.mod_lt _ (by omega)
theorem shl7_lt (b t : Nat) : shl7 b t < 4294967296 := Nat.mod_lt _ (by omega)
theorem lo7_lt (b : Nat) : lo7 b < 128 := Nat.mod_lt _ (by omega)

/-- What decode gives where a byte stands that is none of the high ones. -/
theorem decN_low (bs : List Nat) (i t : Nat) (h : i + t < bs.length) (hb : bs.getD (i + t) 0 < 128) (hh : ∀ b ∈ (bs.drop i).take t, 128 ≤ b) :
    decN (bs.drop i) = if 5 ≤ t ∨ (t = 4 ∧ 15 < bs.getD (i + t) 0) ∨ (1 ≤ t ∧ bs.getD (i + t) 0 = 0) then none else some (sofar bs i (t + 1), t + 1) := by
  have hd := drop_split bs i t h
  have hl := take_len bs i t (by omega)
  rw [hd, decN_at _ _ _ hh hb, hl]
  by_cases hc : 5 ≤ t ∨ (t = 4 ∧ 15 < bs.getD (i + t) 0) ∨ (1 ≤ t ∧ bs.getD (i + t) 0 = 0)
  · rw [if_pos hc, if_pos hc]
  · rw [if_neg hc, if_neg hc]
    unfold sofar
    rw [drop_take_succ bs i t h]
    have := acc_lt32 ((bs.drop i).take t) (bs.getD (i + t) 0) hb (by rw [hl]; exact fun h => hc (Or.inl h)) (by rw [hl]; exact fun h => hc (Or.inr (Or.inl h)))
    rw [Nat.mod_eq_of_lt this]
theorem decN_out (bs : List Nat) (i t : Nat) (h : i + t = bs.length) (hh : ∀ b ∈ (bs.drop i).take t, 128 ≤ b) : decN (bs.drop i) = none := by
  have : (bs.drop i).take t = bs.drop i := List.take_of_length_le (by rw [List.length_drop]; omega)
  rw [this] at hh
  exact decN_end _ hh
theorem high_snoc (bs : List Nat) (i t : Nat) (h : i + t < bs.length) (hb : 128 ≤ bs.getD (i + t) 0) (hh : ∀ b ∈ (bs.drop i).take t, 128 ≤ b) :
    ∀ b ∈ (bs.drop i).take (t + 1), 128 ≤ b := by
  rw [drop_take_succ bs i t h]
  intro b hb'
  rcases List.mem_append.1 hb' with h1 | h1
  · exact hh b h1
  · rw [List.mem_singleton] at h1; subst h1; exact hb
theorem getD_lt {bs : List Nat} {m : Nat} (h : ∀ b ∈ bs, b < m) (hm : 0 < m) (i : Nat) : bs.getD i 0 < m := by
  rw [List.getD_eq_getElem?_getD]
  cases hb : bs[i]? with
  | none => exact hm
  | some b => exact h b (List.mem_of_getElem? hb)
end Go.Proofs.YtoegfdndoeiolaaDoor

/- Plain law: the words that the walks leave of shifts and masks, as numbers. Conditions: the numbers are of their kinds. -/
namespace Go.Proofs.YtoegfdndoeiolaaDoor

theorem wrap_pow64 (l : Nat) (hl : l < 64) : IntKind.u64.wrap ((2 : Int) ^ l) = ((2 ^ l : Nat) : Int) := by
  have h : (2 : Nat) ^ l < 2 ^ 64 := Nat.pow_lt_pow_right (by omega) hl
  rw [IntKind.wrap_u64, show ((2 : Int) ^ l) = ((2 ^ l : Nat) : Int) from by rw [Int.natCast_pow]; rfl]
  generalize (2 : Nat) ^ l = m at *
  omega
theorem wrap_pow32 (l : Nat) (hl : l < 32) : IntKind.u32.wrap ((2 : Int) ^ l) = ((2 ^ l : Nat) : Int) := by
  have h : (2 : Nat) ^ l < 2 ^ 32 := Nat.pow_lt_pow_right (by omega) hl
  rw [IntKind.wrap_u32', show ((2 : Int) ^ l) = ((2 ^ l : Nat) : Int) from by rw [Int.natCast_pow]; rfl]
  generalize (2 : Nat) ^ l = m at *
  omega
theorem shr_nat (v s : Nat) : (v : Int) / 2 ^ s = ((v / 2 ^ s : Nat) : Int) := by
  rw [Int.natCast_ediv, Int.natCast_pow]; rfl
theorem shl_nat (v s : Nat) : (v : Int) * 2 ^ s = ((v * 2 ^ s : Nat) : Int) := by
  rw [Int.natCast_mul, Int.natCast_pow]; rfl

theorem bextr_word (v s l : Nat) (hv : v < 18446744073709551616) (hl : l < 64) :
    bits .and .u64 ((v : Int) / 2 ^ s) (IntKind.u64.wrap (IntKind.u64.wrap (2 ^ l) - 1)) = ((ext v s l : Nat) : Int) := by
  unfold ext
  have h : (2 : Nat) ^ l < 2 ^ 64 := Nat.pow_lt_pow_right (by omega) hl
  have hp : 0 < (2 : Nat) ^ l := Nat.pow_pos (by omega)
  have hle : v / 2 ^ s ≤ v := Nat.div_le_self _ _
  rw [wrap_pow64 l hl, shr_nat, IntKind.wrap_u64, show (((2 ^ l : Nat) : Int) - 1) % 18446744073709551616 = ((2 ^ l - 1 : Nat) : Int) from by omega,
    u64_and_nat _ _ (by omega) (by omega), Nat.and_two_pow_sub_one_eq_mod]
theorem bextr32_word (v s l : Nat) (hv : v < 4294967296) (hl : l < 32) :
    bits .and .u32 ((v : Int) / 2 ^ s) (((2 : Int) ^ l - 1) % 4294967296) = ((ext v s l : Nat) : Int) := by
  unfold ext
  have h : (2 : Nat) ^ l < 2 ^ 32 := Nat.pow_lt_pow_right (by omega) hl
  have hp : 0 < (2 : Nat) ^ l := Nat.pow_pos (by omega)
  have hle : v / 2 ^ s ≤ v := Nat.div_le_self _ _
  rw [show ((2 : Int) ^ l) = ((2 ^ l : Nat) : Int) from by rw [Int.natCast_pow]; rfl, shr_nat, show (((2 ^ l : Nat) : Int) - 1) % 4294967296 = ((2 ^ l - 1 : Nat) : Int) from by generalize (2 : Nat) ^ l = m at *; omega,
    u32_and_nat _ _ (by omega) (by omega), Nat.and_two_pow_sub_one_eq_mod]
theorem bit0_odd (k : Nat) (hk : k < 4294967296) (h : k % 2 = 1) : (bits .and .u32 (k : Int) 1 == 1) = true := by
  have e := u32_and_nat k 1 hk (by omega)
  rw [nat_mask1, h] at e
  rw [show (1 : Int) = ((1 : Nat) : Int) from rfl, e]; rfl
theorem bit0_even (k : Nat) (hk : k < 4294967296) (h : ¬ k % 2 = 1) : (bits .and .u32 (k : Int) 1 == 1) = false := by
  have e := u32_and_nat k 1 hk (by omega)
  rw [nat_mask1, show k % 2 = 0 from by omega] at e
  rw [show (1 : Int) = ((1 : Nat) : Int) from rfl, e]; rfl
/-- What a walk leaves of a key that is no key of the second kind: moved up. -/
theorem shl_key (k p : Nat) : ((k : Int) * 2 ^ (6 + p)) % 4294967296 = ((upWord k p : Nat) : Int) := by
  unfold upWord
  rw [shl_nat]; generalize k * 2 ^ (6 + p) = m; omega
theorem zero_bits (x : Nat) : bits .or .u64 (IntKind.u64.wrap (((ext x 0 39 : Nat) : Int) * 33554432)) 33554431 = ((zeroWord x : Nat) : Int) := by
  have h : ext x 0 39 < 2 ^ 39 := by rw [ext39]; exact Nat.mod_lt _ (by omega)
  unfold zeroWord
  generalize ext x 0 39 = e at *
  rw [IntKind.wrap_u64, show ((e : Int) * 33554432) % 18446744073709551616 = ((e * 2 ^ 25 : Nat) : Int) from by omega, show (33554431 : Int) = ((2 ^ 25 - 1 : Nat) : Int) from rfl,
    u64_or_nat _ _ (by omega) (by omega)]
/-- The key's three parts, joined. -/
theorem key_bits (I L : Nat) (hI : I < 33554432) (h1 : L ≤ 64) (h2 : 25 ≤ L) :
    bits .or .u32 (bits .or .u32 ((I : Int) * 128) ((64 - (L : Int) + 1) * 2)) 1 = ((I * 128 + (65 - L) * 2 + 1 : Nat) : Int) := by
  have e1 : bits .or .u32 ((I : Int) * 128) ((64 - (L : Int) + 1) * 2) = ((I * 128 + (65 - L) * 2 : Nat) : Int) := by
    rw [show ((I : Int) * 128) = ((I * 128 : Nat) : Int) from by omega, show ((64 - (L : Int) + 1) * 2) = (((65 - L) * 2 : Nat) : Int) from by omega,
      u32_or_nat _ _ (by omega) (by omega), nat_join 7 (I * 128) ((65 - L) * 2) (by omega) (by omega)]
  rw [e1, show (1 : Int) = ((1 : Nat) : Int) from rfl, u32_or_nat _ _ (by omega) (by omega), nat_join 1 (I * 128 + (65 - L) * 2) 1 (by omega) (by omega)]
theorem rho_bits (x p : Nat) (h2 : p ≤ 18) :
    bits .or .u64 (IntKind.u64.wrap ((x : Int) * 2 ^ p)) (IntKind.u64.wrap (2 ^ (p - 1))) = ((rhoWord x p : Nat) : Int) := by
  unfold rhoWord
  have h3 : (2 : Nat) ^ (p - 1) < 2 ^ 64 := Nat.pow_lt_pow_right (by omega) (by omega)
  rw [wrap_pow64 (p - 1) (by omega), shl_nat, IntKind.wrap_u64, show ((x * 2 ^ p : Nat) : Int) % 18446744073709551616 = ((x * 2 ^ p % 2 ^ 64 : Nat) : Int) from by
      generalize x * 2 ^ p = m; omega,
    u64_or_nat _ _ (Nat.mod_lt _ (by omega)) (by omega)]
end Go.Proofs.YtoegfdndoeiolaaDoor

/- Plain law: a number put into rising numbers at its place. No condition. -/
namespace Go.Proofs.YtoegfdndoeiolaaDoor

theorem rising_get {out : List Nat} (h : Rising out) : ∀ i j, i < j → j < out.length → out.getD i 0 < out.getD j 0 := by
  intro i j hij hj
  unfold Rising at h
  have := List.pairwise_iff_getElem.1 h i j (by omega) hj hij
  rw [List.getD_eq_getElem?_getD, List.getD_eq_getElem?_getD, List.getElem?_eq_getElem hj, List.getElem?_eq_getElem (show i < out.length by omega)]
  exact this
theorem mem_take_get {out : List Nat} {k a : Nat} (h : a ∈ out.take k) : ∃ j, j < k ∧ j < out.length ∧ out.getD j 0 = a := by
  obtain ⟨j, hj, rfl⟩ := List.getElem_of_mem h
  rw [List.length_take] at hj
  refine ⟨j, by omega, by omega, ?_⟩
  rw [List.getElem_take, List.getD_eq_getElem?_getD, List.getElem?_eq_getElem (by omega)]; rfl
theorem mem_drop_get {out : List Nat} {k a : Nat} (h : a ∈ out.drop k) : ∃ j, k ≤ j ∧ j < out.length ∧ out.getD j 0 = a := by
  obtain ⟨j, hj, rfl⟩ := List.getElem_of_mem h
  rw [List.length_drop] at hj
  refine ⟨k + j, by omega, by omega, ?_⟩
  rw [List.getElem_drop, List.getD_eq_getElem?_getD, List.getElem?_eq_getElem (by omega)]; rfl
theorem rising_insert {out : List Nat} {k x : Nat} (h : Rising out) (hlo : 0 < k → out.getD (k - 1) 0 < x) (hk : k ≤ out.length) (hhi : ∀ j, k ≤ j → j < out.length → x < out.getD j 0) : Rising (out.take k ++ x :: out.drop k) := by
  have hlo' : ∀ j, j < k → out.getD j 0 < x := by
    intro j hj
    rcases Nat.lt_or_ge j (k - 1) with hlt | hge
    · exact Nat.lt_trans (rising_get h j (k - 1) hlt (by omega)) (hlo (by omega))
    · have e : j = k - 1 := by omega
      rw [e]; exact hlo (by omega)
  have h' : List.Pairwise (· < ·) out := h
  show List.Pairwise (· < ·) _
  rw [List.pairwise_append]
  refine ⟨h'.sublist (List.take_sublist _ _), List.pairwise_cons.2 ⟨?_, h'.sublist (List.drop_sublist _ _)⟩, ?_⟩
  · intro a ha
    obtain ⟨j, h1, h2, rfl⟩ := mem_drop_get ha
    exact hhi j h1 h2
  · intro a ha b hb
    obtain ⟨j, h1, h2, rfl⟩ := mem_take_get ha
    rcases List.mem_cons.1 hb with rfl | hb
    · exact hlo' j h1
    · obtain ⟨i, h3, h4, rfl⟩ := mem_drop_get hb
      exact rising_get h j i (by omega) h4
theorem mem_insert {out : List Nat} {k x a : Nat} : a ∈ out.take k ++ x :: out.drop k ↔ a ∈ out ∨ a = x := by
  have h := List.take_append_drop k out
  constructor
  · intro ha
    rcases List.mem_append.1 ha with ha | ha
    · exact .inl (List.mem_of_mem_take ha)
    · rcases List.mem_cons.1 ha with rfl | ha
      · exact .inr rfl
      · exact .inl (List.mem_of_mem_drop ha)
  · rintro (ha | rfl)
    · rw [← h] at ha
      rcases List.mem_append.1 ha with ha | ha <;> simp [ha]
    · simp
theorem length_insert {out : List Nat} {k x : Nat} : (out.take k ++ x :: out.drop k).length = out.length + 1 := by
  have h := congrArg List.length (List.take_append_drop k out)
  rw [List.length_append] at h
  rw [List.length_append, List.length_cons]
  omega
theorem getD_mem {out : List Nat} {i : Nat} (h : i < out.length) : out.getD i 0 ∈ out := by
  rw [List.getD_eq_getElem?_getD, List.getElem?_eq_getElem h]
  exact List.getElem_mem h
end Go.Proofs.YtoegfdndoeiolaaDoor

/- Plain law: rising numbers are merged, and numbers are sorted. No condition beyond those named. -/
namespace Go.Proofs.YtoegfdndoeiolaaDoor

/-- Two rows of rising numbers, merged, each number once. -/
def mrg : List Nat → List Nat → List Nat
  | [], bs => bs
  | a :: as, [] => a :: as
  | a :: as, b :: bs => if a = b then a :: mrg as bs else if b < a then b :: mrg (a :: as) bs else a :: mrg as (b :: bs)
  termination_by as bs => as.length + bs.length
theorem mrg_nil (bs : List Nat) : mrg [] bs = bs := by rw [mrg]
theorem mrg_nil_right (as : List Nat) : mrg as [] = as := by
  cases as with
  | nil => rw [mrg]
  | cons a as => rw [mrg]
theorem mrg_eq (a : Nat) (as bs : List Nat) : mrg (a :: as) (a :: bs) = a :: mrg as bs := by rw [mrg, if_pos rfl]
theorem mrg_gt {a b : Nat} (as bs : List Nat) (h : b < a) : mrg (a :: as) (b :: bs) = b :: mrg (a :: as) bs := by rw [mrg, if_neg (by omega), if_pos h]
theorem mrg_lt {a b : Nat} (as bs : List Nat) (h : a < b) : mrg (a :: as) (b :: bs) = a :: mrg as (b :: bs) := by rw [mrg, if_neg (by omega), if_neg (by omega)]
theorem mem_mrg {k : Nat} : ∀ (as bs : List Nat), k ∈ mrg as bs ↔ k ∈ as ∨ k ∈ bs := by
  intro as bs
  induction as, bs using mrg.induct with
  | case1 bs => simp [mrg_nil]
  | case2 a as => simp [mrg_nil_right]
  | case3 as a bs ih =>
    rw [mrg_eq]
    simp only [List.mem_cons, ih]
    constructor
    · rintro (h | h | h) <;> simp [h]
    · rintro ((h | h) | (h | h)) <;> simp [h]
  | case4 a as b bs hne hlt ih =>
    rw [mrg_gt _ _ hlt]
    simp only [List.mem_cons, ih]
    constructor
    · rintro (h | (h | h) | h) <;> simp [h]
    · rintro ((h | h) | (h | h)) <;> simp [h]
  | case5 a as b bs hne hlt ih =>
    rw [mrg_lt _ _ (by omega)]
    simp only [List.mem_cons, ih]
    constructor
    · rintro (h | h | h | h) <;> simp [h]
    · rintro ((h | h) | (h | h)) <;> simp [h]
theorem rising_mrg : ∀ (as bs : List Nat), Rising as → Rising bs → Rising (mrg as bs) := by
  intro as bs
  induction as, bs using mrg.induct with
  | case1 bs => intro _ h; rw [mrg_nil]; exact h
  | case2 a as => intro h _; rw [mrg_nil_right]; exact h
  | case3 as a bs ih =>
    intro h1 h2
    rw [mrg_eq]
    unfold Rising at h1 h2 ih ⊢
    rw [List.pairwise_cons] at h1 h2 ⊢
    refine ⟨fun k hk => ?_, ih h1.2 h2.2⟩
    rcases (mem_mrg as bs).1 hk with h | h
    · exact h1.1 k h
    · exact h2.1 k h
  | case4 a as b bs hne hlt ih =>
    intro h1 h2
    rw [mrg_gt _ _ hlt]
    unfold Rising at h1 h2 ih ⊢
    rw [List.pairwise_cons] at h2 ⊢
    refine ⟨fun k hk => ?_, ih h1 h2.2⟩
    rw [List.pairwise_cons] at h1
    rcases (mem_mrg _ bs).1 hk with h | h
    · rcases List.mem_cons.1 h with rfl | h
      · exact hlt
      · have := h1.1 k h; omega
    · exact h2.1 k h
  | case5 a as b bs hne hlt ih =>
    intro h1 h2
    rw [mrg_lt _ _ (by omega)]
    unfold Rising at h1 h2 ih ⊢
    rw [List.pairwise_cons] at h1 ⊢
    refine ⟨fun k hk => ?_, ih h1.2 h2⟩
    rw [List.pairwise_cons] at h2
    rcases (mem_mrg as _).1 hk with h | h
    · exact h1.1 k h
    · rcases List.mem_cons.1 h with rfl | h
      · omega
      · have := h2.1 k h; omega
theorem mrg_length : ∀ (as bs : List Nat), (mrg as bs).length ≤ as.length + bs.length := by
  intro as bs
  induction as, bs using mrg.induct with
  | case1 bs => rw [mrg_nil]; simp
  | case2 a as => rw [mrg_nil_right]; simp
  | case3 as a bs ih => rw [mrg_eq]; simp only [List.length_cons]; omega
  | case4 a as b bs hne hlt ih => rw [mrg_gt _ _ hlt]; simp only [List.length_cons] at ih ⊢; omega
  | case5 a as b bs hne hlt ih => rw [mrg_lt _ _ (by omega)]; simp only [List.length_cons] at ih ⊢; omega

/-- Numbers in ascending order. -/
def srt (K : List Nat) : List Nat := K.mergeSort (fun x y => decide (x ≤ y))
theorem srt_perm (K : List Nat) : (srt K).Perm K := List.mergeSort_perm _ _
theorem srt_length (K : List Nat) : (srt K).length = K.length := (srt_perm K).length_eq
theorem mem_srt {K : List Nat} {k : Nat} : k ∈ srt K ↔ k ∈ K := (srt_perm K).mem_iff
theorem srt_int (K : List Nat) : (K.map fun n : Nat => (n : Int)).mergeSort (fun x y => decide (x ≤ y)) = (srt K).map fun n : Nat => (n : Int) :=
  (List.map_mergeSort fun a _ b _ => by simp).symm
theorem rising_srt {K : List Nat} (h : K.Nodup) : Rising (srt K) := by
  have h1 : (srt K).Pairwise (fun x y => (decide (x ≤ y)) = true) := List.pairwise_mergeSort (fun a b c h1 h2 => by simp only [decide_eq_true_eq] at *; omega) (fun a b => by simp only [Bool.or_eq_true, decide_eq_true_eq]; omega) K
  have h2 : (srt K).Nodup := (srt_perm K).nodup_iff.2 h
  unfold Rising
  refine (h1.and h2).imp ?_
  rintro a b ⟨h1, h2⟩
  have := of_decide_eq_true h1
  omega
end Go.Proofs.YtoegfdndoeiolaaDoor

/- Plain law: the greatest value of each register: it depends on the set of what came alone. No condition. -/
namespace Go.Proofs.YtoegfdndoeiolaaDoor

/-- The greatest value that came for register i. -/
def reg : List (Nat × Nat) → Nat → Nat
  | [], _ => 0
  | q :: P, i => if q.1 = i then max q.2 (reg P i) else reg P i
theorem reg_le {P : List (Nat × Nat)} {i b : Nat} : reg P i ≤ b ↔ ∀ q ∈ P, q.1 = i → q.2 ≤ b := by
  induction P with
  | nil => simp [reg]
  | cons q P ih =>
    unfold reg
    by_cases h : q.1 = i
    · rw [if_pos h, Nat.max_le, ih]
      constructor
      · rintro ⟨h1, h2⟩ c hc hci
        rcases List.mem_cons.1 hc with rfl | hc
        · exact h1
        · exact h2 c hc hci
      · intro h'
        exact ⟨h' q (by simp) h, fun c hc => h' c (by simp [hc])⟩
    · rw [if_neg h, ih]
      constructor
      · intro h2 c hc hci
        rcases List.mem_cons.1 hc with rfl | hc
        · exact absurd hci h
        · exact h2 c hc hci
      · intro h' c hc
        exact h' c (by simp [hc])
theorem reg_eq {P Q : List (Nat × Nat)} {i : Nat} (h : ∀ b, (∀ q ∈ P, q.1 = i → q.2 ≤ b) ↔ (∀ q ∈ Q, q.1 = i → q.2 ≤ b)) : reg P i = reg Q i :=
  Nat.le_antisymm (reg_le.2 ((h _).2 (reg_le.1 (Nat.le_refl _)))) (reg_le.2 ((h _).1 (reg_le.1 (Nat.le_refl _))))
theorem reg_congr {P Q : List (Nat × Nat)} (h : ∀ q, q ∈ P ↔ q ∈ Q) (i : Nat) : reg P i = reg Q i :=
  reg_eq fun _ => ⟨fun h1 q hq => h1 q ((h q).2 hq), fun h1 q hq => h1 q ((h q).1 hq)⟩
theorem reg_append (P Q : List (Nat × Nat)) (i : Nat) : reg (P ++ Q) i = max (reg P i) (reg Q i) := by
  induction P with
  | nil => simp [reg]
  | cons q P ih =>
    simp only [List.cons_append, reg]
    split
    · rw [ih, Nat.max_assoc]
    · exact ih

/-- The registers, in their order. -/
def table (p : Nat) (P : List (Nat × Nat)) : List Nat := (List.range (2 ^ p)).map (reg P)
theorem table_length (p : Nat) (P : List (Nat × Nat)) : (table p P).length = 2 ^ p := by simp [table]
theorem table_get (p : Nat) (P : List (Nat × Nat)) (i : Nat) (h : i < 2 ^ p) : (table p P).getD i 0 = reg P i := by
  unfold table
  rw [List.getD_eq_getElem?_getD, List.getElem?_map, List.getElem?_range h]
  rfl
theorem table_congr {p : Nat} {P Q : List (Nat × Nat)} (h : ∀ q, q ∈ P ↔ q ∈ Q) : table p P = table p Q := by
  unfold table
  exact List.map_congr_left fun i _ => reg_congr h i
theorem list_ext_getD {a b : List Nat} (hl : a.length = b.length) (h : ∀ i, i < a.length → a.getD i 0 = b.getD i 0) : a = b := by
  apply List.ext_getElem hl
  intro i h1 h2
  have := h i h1
  rwa [List.getD_eq_getElem?_getD, List.getD_eq_getElem?_getD, List.getElem?_eq_getElem h1, List.getElem?_eq_getElem h2] at this
theorem table_nil (p : Nat) : table p [] = List.replicate (2 ^ p) 0 := by
  apply list_ext_getD
  · rw [table_length, List.length_replicate]
  · intro i hi
    rw [table_length] at hi
    rw [table_get p [] i hi, List.getD_eq_getElem?_getD, List.getElem?_replicate, if_pos hi]
    rfl
theorem mem_table {p : Nat} {P : List (Nat × Nat)} {b : Nat} (h : ∀ q ∈ P, q.2 ≤ b) : ∀ v ∈ table p P, v ≤ b := by
  intro v hv
  obtain ⟨i, _, rfl⟩ := List.mem_map.1 hv
  exact reg_le.2 fun q hq _ => h q hq

/-- A register is raised to a value. -/
def up (r : List Nat) (i v : Nat) : List Nat := r.set i (max v (r.getD i 0))
theorem up_length (r : List Nat) (i v : Nat) : (up r i v).length = r.length := by simp [up]
theorem up_get (r : List Nat) (i v j : Nat) (h : j < r.length) : (up r i v).getD j 0 = if i = j then max v (r.getD j 0) else r.getD j 0 := by
  unfold up
  rw [List.getD_eq_getElem?_getD, List.getElem?_set]
  by_cases hij : i = j
  · subst hij
    rw [if_pos rfl, if_pos rfl, if_pos h]; rfl
  · rw [if_neg hij, if_neg hij, List.getD_eq_getElem?_getD]
theorem up_table {p i v : Nat} {P : List (Nat × Nat)} : up (table p P) i v = table p (P ++ [(i, v)]) := by
  apply list_ext_getD
  · rw [up_length, table_length, table_length]
  · intro j hj
    rw [up_length] at hj
    rw [up_get _ _ _ _ hj]
    rw [table_length] at hj
    rw [table_get p P j hj, table_get p _ j hj, reg_append]
    by_cases hij : i = j
    · subst hij
      simp [reg, Nat.max_comm]
    · simp [reg, hij]
theorem fold_table {p : Nat} (P Q : List (Nat × Nat)) : P.foldl (fun r q => up r q.1 q.2) (table p Q) = table p (Q ++ P) := by
  induction P generalizing Q with
  | nil => simp
  | cons q P ih =>
    rw [List.foldl_cons, up_table, ih, List.append_assoc]
    rfl
/-- Two sketches' registers, the greater of each two. -/
def pmax (r s : List Nat) : List Nat := List.zipWith max r s
theorem pmax_length {r s : List Nat} (h : r.length = s.length) : (pmax r s).length = r.length := by
  unfold pmax; rw [List.length_zipWith, ← h, Nat.min_self]
theorem pmax_get {r s : List Nat} {i : Nat} (h : i < r.length) (h2 : i < s.length) : (pmax r s).getD i 0 = max (r.getD i 0) (s.getD i 0) := by
  unfold pmax
  rw [List.getD_eq_getElem?_getD, List.getElem?_zipWith, List.getElem?_eq_getElem h, List.getElem?_eq_getElem h2, List.getD_eq_getElem?_getD, List.getD_eq_getElem?_getD, List.getElem?_eq_getElem h, List.getElem?_eq_getElem h2]
  rfl
theorem pmax_table (p : Nat) (P Q : List (Nat × Nat)) : pmax (table p P) (table p Q) = table p (P ++ Q) := by
  have hl : (table p P).length = (table p Q).length := by rw [table_length, table_length]
  apply list_ext_getD
  · rw [pmax_length hl, table_length, table_length]
  · intro i hi
    rw [pmax_length hl, table_length] at hi
    rw [pmax_get (by rw [table_length]; exact hi) (by rw [table_length]; exact hi), table_get p P i hi, table_get p Q i hi, table_get p _ i hi, reg_append]

/-- What a hash, and what a key, says of the registers. -/
def hv (p x : Nat) : Nat × Nat := (posN x p, valN x p)
def kv (p k : Nat) : Nat × Nat := (decIdx k p, decVal k p)
theorem kv_enc {p x : Nat} (hx : x < 2 ^ 64) (h1 : 4 ≤ p) (h2 : p ≤ 18) : kv p (encN x p) = hv p x := by
  have h := dec_enc x p hx h1 h2
  unfold kv hv
  rw [h.1, h.2]
end Go.Proofs.YtoegfdndoeiolaaDoor
