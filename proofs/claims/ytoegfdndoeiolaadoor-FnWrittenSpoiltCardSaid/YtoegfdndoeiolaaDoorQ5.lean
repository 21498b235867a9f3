/- Walks and plain laws, one behind the other (Spec, Enc); their conditions stand at each. -/
import Derived.Test.YtoegfdndoeiolaaDoorQ3
import Derived.Deep.QuietTactic
import Derived.BigQuiet
import Derived.Deep.LoopGhost

/- Walks: the reference's Right, Pos, Val: which numbers of bits sketches have; a hash's register and value, bit by bit. Conditions: the numbers are of their kinds, 4 to 18 bits. -/
namespace Go.Proofs.YtoegfdndoeiolaaDoor
open Go.RowKit

theorem ret_bool {a b : Bool} (h : a = b) : Ending.returned (.bool a) = .returned (.bool b) := by rw [h]

theorem Right_yes (p : Nat) (w : World) (h1 : 4 ≤ p) (h2 : p ≤ 18) :
    Calls Tryd.prog 14 #[.int .u8 p] w fun e w' => e = .returned (.bool true) ∧ w = w' := by
  go_enter Tryd.func14, Tryd.ntmps14
  go_wp2
  go_ret
  exact ⟨ret_bool (decide_eq_true (by omega)), rfl⟩
theorem Right_no (p : Nat) (w : World) (h : p < 4 ∨ 18 < p) :
    Calls Tryd.prog 14 #[.int .u8 p] w fun e w' => e = .returned (.bool false) ∧ w = w' := by
  rcases h with h | h
  · go_enter Tryd.func14, Tryd.ntmps14
    go_wp2
    go_ret
    exact ⟨rfl, rfl⟩
  · go_enter Tryd.func14, Tryd.ntmps14
    go_wp2
    go_ret
    exact ⟨ret_bool (decide_eq_false (by omega)), rfl⟩

/-- The first k bits of a hash. -/
def pre (x k : Nat) : Nat := x / 2 ^ (64 - k)
theorem pre_le (x k : Nat) (hx : x < 2 ^ 64) (hk : k ≤ 18) : pre x k ≤ 262143 := by
  have := pos_lt x k hx hk
  have h2 : (2 : Nat) ^ k ≤ 2 ^ 18 := Nat.pow_le_pow_right (by omega) hk
  unfold pre; unfold posN at this; omega
/-- A bit of a hash. -/
def bit (x k : Nat) : Nat := x / 2 ^ (63 - k) % 2
theorem bit_word (x k : Nat) (hx : x < 18446744073709551616) : bits .and .u64 ((x : Int) / 2 ^ (63 - k)) 1 = ((bit x k : Nat) : Int) := by
  have hle : x / 2 ^ (63 - k) ≤ x := Nat.div_le_self _ _
  rw [shr_nat, show (1 : Int) = ((1 : Nat) : Int) from rfl, u64_and_nat _ _ (by omega) (by omega), nat_mask1]
  rfl
theorem bit_le (x k : Nat) : bit x k ≤ 1 := by unfold bit; omega
theorem pre_succ (x k : Nat) (hk : k < 64) : pre x (k + 1) = 2 * pre x k + bit x k := by
  unfold pre bit
  have e : (2 : Nat) ^ (64 - k) = 2 ^ (63 - k) * 2 := by rw [← Nat.pow_succ]; congr 1; omega
  rw [show 64 - (k + 1) = 63 - k from by omega, e, ← Nat.div_div_eq_div_mul]
  omega

set_option maxHeartbeats 400000 in
theorem Pos_any (x p : Nat) (w : World) (hx : x < 18446744073709551616) (h2 : p ≤ 18) :
    Calls Tryd.prog 39 #[.int .u64 x, .int .u8 p] w fun e w' => e = .returned (.int .i64 (posN x p : Nat)) ∧ w = w' := by
  go_enter Tryd.func39, Tryd.ntmps39
  go_wp2
  go_loop [5, 6] (fun n i => ∃ k : Nat, k ≤ p ∧ i = .int .i64 k ∧ n = .int .i64 (pre x k : Nat)) (fun _ i => p - (intOf i).toNat)
  case atStart => exact ⟨0, Nat.zero_le _, rfl, by have : pre x 0 = 0 := Nat.div_eq_of_lt hx
                                                   rw [this]; rfl⟩
  case round =>
    obtain ⟨k, hk, rfl, rfl⟩ := hrel
    have hb := pre_le x k hx (by omega)
    have hbit := bit_le x k
    by_cases hlt : k < p
    · have hbw := bit_word x k hx
      go_wp2
      go_round
      case rel => exact ⟨k + 1, by omega, by go_num, by rw [pre_succ x k (by omega)]; go_num⟩
      case measure => simp [intOf]; omega
    · go_wp2
      go_ret
      obtain rfl : k = p := by omega
      exact ⟨rfl, rfl⟩
/-- No 1 stands between the first p bits and the k-th. -/
def noOne (x p k : Nat) : Prop := tailN x p < 2 ^ (64 - k)
theorem noOne_start (x p : Nat) : noOne x p p := tail_lt x p
/-- The bit at k, where none before it is 1. -/
theorem bit_tail (x p k : Nat) (hp : p ≤ k) (hk : k < 64) (h : noOne x p k) : (bit x k = 0 → noOne x p (k + 1)) ∧ (bit x k ≠ 0 → 2 ^ (63 - k) ≤ tailN x p) := by
  unfold noOne at *
  have e : (2 : Nat) ^ (64 - k) = 2 ^ (63 - k) * 2 := by rw [← Nat.pow_succ]; congr 1; omega
  have hpos : 0 < (2 : Nat) ^ (63 - k) := Nat.pow_pos (by omega)
  have hb : bit x k = tailN x p / 2 ^ (63 - k) % 2 := by
    unfold bit tailN
    have hd : (2 : Nat) ^ (64 - p) = 2 ^ (63 - k) * (2 * 2 ^ (k - p)) := by rw [← Nat.mul_assoc, ← Nat.pow_succ, ← Nat.pow_add]; congr 1; omega
    rw [hd, Nat.mod_mul_right_div_self, Nat.mod_mul_right_mod]
  have hq : tailN x p / 2 ^ (63 - k) < 2 := by rw [Nat.div_lt_iff_lt_mul hpos]; omega
  rw [show 64 - (k + 1) = 63 - k from by omega]
  constructor
  · intro h0
    have : tailN x p / 2 ^ (63 - k) = 0 := by generalize tailN x p / 2 ^ (63 - k) = q at *; omega
    exact (Nat.div_eq_zero_iff_lt hpos).1 this
  · intro h0
    have h1 : tailN x p / 2 ^ (63 - k) = 1 := by generalize tailN x p / 2 ^ (63 - k) = q at *; omega
    have := Nat.div_mul_le_self (tailN x p) (2 ^ (63 - k))
    rw [h1] at this
    omega

set_option maxHeartbeats 400000 in
theorem Val_any (x p : Nat) (w : World) (hx : x < 18446744073709551616) (h1 : 4 ≤ p) (h2 : p ≤ 18) :
    Calls Tryd.prog 40 #[.int .u64 x, .int .u8 p] w fun e w' => e = .returned (.int .u8 (valN x p : Nat)) ∧ w = w' := by
  have hn0 := Lib.hid (noOne_start x p)
  go_enter Tryd.func40, Tryd.ntmps40
  go_wp2
  go_loop [5, 6] (fun v i => ∃ k : Nat, p ≤ k ∧ k ≤ 64 ∧ i = .int .i64 k ∧ v = .int .u8 ((1 + (k - p) : Nat) : Int) ∧ Hid (noOne x p k)) (fun _ i => 64 - (intOf i).toNat)
  case atStart => exact ⟨p, Nat.le_refl _, by omega, rfl, by rw [Nat.sub_self]; rfl, hn0⟩
  case round =>
    obtain ⟨k, hpk, hk, rfl, rfl, hno⟩ := hrel
    by_cases hlt : k < 64
    · have hbw := bit_word x k hx
      have hbt := bit_tail x p k hpk hlt hno.out
      have HB := Lib.hid hbt
      clear hbt
      by_cases h0 : bit x k = 0
      · have hz : (((bit x k : Nat) : Int) == 0) = true := by rw [h0]; rfl
        have H0 := Lib.hid h0
        clear h0
        go_wp2
        go_round
        case rel => exact ⟨k + 1, by omega, by omega, by go_num, by go_num, HB.out.1 H0.out⟩
        case measure => simp [intOf]; omega
      · have hz : (((bit x k : Nat) : Int) == 0) = false := by rw [beq_eq_false_iff_ne]; omega
        have H0 := Lib.hid h0
        clear h0
        go_wp2
        go_ret
        exact ⟨ret_int (by rw [val_of_exit x p k hpk hk hno.out (Or.inr (HB.out.2 H0.out)) h1]; omega), rfl⟩
    · go_wp2
      go_ret
      exact ⟨ret_int (by rw [val_of_exit x p k hpk hk hno.out (Or.inl (by omega)) h1]; omega), rfl⟩
end Go.Proofs.YtoegfdndoeiolaaDoor

/- Walks: the thin functions over a hash's sparse form. Conditions: the numbers are of their kinds, 4 to 18 bits. -/
namespace Go.Proofs.YtoegfdndoeiolaaDoor
open Go.RowKit

theorem ZZEncodeHash_any (x p : Nat) (w : World) (hx : x < 18446744073709551616) (h1 : 4 ≤ p) (h2 : p ≤ 18) :
    Calls Tryd.prog 30 #[.int .u64 x, .int .u8 p] w fun e w' => e = .returned (.int .u32 (encN x p : Nat)) ∧ w = w' := by
  go_enter Tryd.func30, Tryd.ntmps30
  go_wp2_with (go_at_call 45; refine (encodeHash_any x p _ hx h1 h2).mono ?_; rintro e w' ⟨rfl, rfl⟩)
  go_ret
  exact ⟨rfl, rfl⟩
theorem implEncodeHash_any (x p : Nat) (w : World) (hx : x < 18446744073709551616) (h1 : 4 ≤ p) (h2 : p ≤ 18) :
    Calls Tryd.prog 15 #[.int .u64 x, .int .u8 p] w fun e w' => e = .returned (.int .u32 (encN x p : Nat)) ∧ w = w' := by
  go_enter Tryd.func15, Tryd.ntmps15
  go_wp2_with (go_at_call 30; refine (ZZEncodeHash_any x p _ hx h1 h2).mono ?_; rintro e w' ⟨rfl, rfl⟩)
  go_ret
  exact ⟨rfl, rfl⟩

end Go.Proofs.YtoegfdndoeiolaaDoor
