/- Walks and plain laws, one behind the other (Var, LawVar); their conditions stand at each. -/
import Derived.Test.YtoegfdndoeiolaaDoorQ5
import Derived.Test.YtoegfdndoeiolaaDoorQ4
import Derived.Test.YtoegfdndoeiolaaDoorQ1

/- Walks: a number's bytes are appended to a list of bytes, and read from it. Conditions: numbers below 2^32; the lists are no longer than a machine holds. -/
namespace Go.Proofs.YtoegfdndoeiolaaDoor
open Go.RowKit

theorem info_u8 : (Tryd.prog.info? 5).map (fun i => (i.zero, i.size, i.bytes)) = some (some (.int .u8 0), 1, 1) := by kernel_rfl

/-- The last seven digits, marked that more come. -/
def hi7 (x : Nat) : Nat := x % 128 + 128
theorem hi7_word (x : Nat) (hx : x < 4294967296) : bits .or .u32 (bits .and .u32 (x : Int) 127) 128 = ((hi7 x : Nat) : Int) := by
  rw [show (127 : Int) = ((127 : Nat) : Int) from rfl, u32_and_nat _ _ hx (by omega), nat_mask7, show (128 : Int) = ((128 : Nat) : Int) from rfl, u32_or_nat _ _ (by omega) (by omega), Nat.or_comm,
    nat_join 7 128 (x % 128) (by omega) (by omega), Nat.add_comm]
  rfl
theorem hi7_lt (x : Nat) : hi7 x < 256 := by unfold hi7; omega
theorem low_word (x : Nat) (hx : x < 128) : bits .and .u32 (x : Int) 127 = (x : Int) := by
  rw [show (127 : Int) = ((127 : Nat) : Int) from rfl, u32_and_nat _ _ (by omega) (by omega), nat_mask7, Nat.mod_eq_of_lt hx]
theorem andHigh (x : Nat) (hx : x < 4294967296) : bits .and .u32 (x : Int) 4294967168 = ((x / 128 * 128 : Nat) : Int) := by
  rw [show (4294967168 : Int) = ((4294967168 : Nat) : Int) from rfl, u32_and_nat _ _ hx (by omega)]
  congr 1
  apply Nat.eq_of_testBit_eq
  intro i
  rw [show (4294967168 : Nat) = (2 ^ 25 - 1) * 2 ^ 7 from rfl, show x / 128 * 128 = x / 2 ^ 7 * 2 ^ 7 from rfl, Nat.testBit_and, Nat.testBit_mul_two_pow, Nat.testBit_mul_two_pow, Nat.testBit_div_two_pow, Nat.testBit_two_pow_sub_one]
  by_cases h7 : 7 ≤ i
  · by_cases h32 : i < 32
    · simp [h7, show i - 7 < 25 from by omega, show i - 7 + 7 = i from by omega]
    · have hf : x.testBit i = false := Nat.testBit_lt_two_pow (Nat.lt_of_lt_of_le hx (Nat.pow_le_pow_right (n := 2) (by omega) (show 32 ≤ i from by omega)))
      simp [h7, hf, show i - 7 + 7 = i from by omega]
  · simp [h7]
theorem high_yes (x : Nat) (hx : x < 4294967296) (h : 128 ≤ x) : (bits .and .u32 (x : Int) 4294967168 != 0) = true := by
  rw [andHigh x hx, bne_iff_ne]; omega
theorem high_no (x : Nat) (hx : x < 4294967296) (h : x < 128) : (bits .and .u32 (x : Int) 4294967168 != 0) = false := by
  rw [andHigh x hx, show x / 128 = 0 from by omega]; rfl

/-- The row that is written lies where the list lay, or is new. -/
theorem hstep {w : World} {v u : Value} (h : Lies w v u) : ∀ g, u.ownBlock = some g → g < w.heap.size → v.ownBlock = some g := by
  intro g hg hlt
  rcases h with h | ⟨g', h, hge⟩
  · rw [← h]; exact hg
  · rw [hg] at h; injection h with h; omega

set_option maxHeartbeats 400000 in
theorem Append_any (v : Value) (bs : List Nat) (x : Nat) (w : World) (hx : x < 4294967296) (hv : Row w 5 .u8 v bs) (hl : bs.length < 1099511627776) :
    Calls Tryd.prog 53 #[v, .int .u32 x] w fun e w' =>
      ∃ v', e = .returned v' ∧ Row w' 5 .u8 v' (bs ++ varint x) ∧ Only (fun k => v.ownBlock = some k) w w' ∧ Lies w v v' := by
  obtain ⟨i0, hi, hz0, hz1, hz2⟩ := info_parts info_u8
  have HV := Lib.hid hv
  clear hv
  go_enter Tryd.func53, Tryd.ntmps53
  go_wp2_with fail
  go_loopg [0, 1] x (fun g s0 s1 wr => s1 = .int .u32 (g : Nat) ∧ g < 4294967296 ∧ ∃ ds : List Nat, varint x = ds ++ varint g ∧ Row wr 5 .u8 s0 (bs ++ ds) ∧ Only (fun k => v.ownBlock = some k) w wr ∧ Lies w v s0)
  case atStart => exact ⟨rfl, hx, [], rfl, by rw [List.append_nil]; exact HV.out, Only.refl _ _, Lies.refl _ _⟩
  case round =>
    obtain ⟨rfl, hg, ds, hds, hrow, hon, hlies⟩ := hrel
    have hlen : (varint x).length ≤ 5 := varint_le5 x hx
    have hdl : ds.length + (varint gk).length = (varint x).length := by rw [hds, List.length_append]
    have hgp := varint_pos gk
    have hd4 : ds.length < 5 := by omega
    have HDS := Lib.hid hds
    clear hds hdl hgp hlen
    by_cases hbig : 128 ≤ gk
    · have hy := high_yes gk hg hbig
      have h128 := hi7_word gk hg
      have h256 := hi7_lt gk
      go_wp2_with (at_builtin; go_must (refine wpList_append_one rfl (.tmp 8) (.tmp 13) 88 rfl 5 i0 (.int .u8 0) 1 Tryd.underlying88 hi hz0 hz1 hz2 rfl .u8 u0 (bs ++ ds) rfl hrow (hi7 gk) 1 5 rfl ?c4 ?c5 ?_))
      case c4 => simp; omega
      case c5 => simp; omega
      intro v' w1 hrow1 hon1 hlies1
      go_wp2
      go_roundg (gk / 128)
      case measure => omega
      case rel =>
        refine ⟨by go_num, by omega, ds ++ [hi7 gk], ?_, ?_, hon.trans hon1 (hstep hlies), hlies.trans hon.size hlies1⟩
        · rw [HDS.out, varint_big (show ¬ gk < 128 from by omega), List.append_assoc]; rfl
        · exact hrow1
    · have hy := high_no gk hg (by omega)
      have h127 := low_word gk (by omega)
      go_wp2_with (at_builtin; go_must (refine wpList_append_one rfl (.tmp 17) (.tmp 21) 88 rfl 5 i0 (.int .u8 0) 1 Tryd.underlying88 hi hz0 hz1 hz2 rfl .u8 u0 (bs ++ ds) rfl hrow gk 1 5 rfl ?c4 ?c5 ?_))
      case c4 => simp; omega
      case c5 => simp; omega
      intro v' w1 hrow1 hon1 hlies1
      go_wp2
      go_ret
      refine ⟨v', rfl, ?_, hon.trans hon1 (hstep hlies), hlies.trans hon.size hlies1⟩
      rw [HDS.out, varint_small (show gk < 128 from by omega)]
      exact hrow1

theorem byte_high (b : Nat) (hb : b < 256) (h : 128 ≤ b) : (bits .and .u8 (b : Int) 128 != 0) = true := by
  rw [show (128 : Int) = ((128 : Nat) : Int) from rfl, u8_and_nat _ _ hb (by omega), show (128 : Nat) = 2 ^ 7 from rfl, nat_bit, bne_iff_ne]
  omega
theorem byte_low (b : Nat) (hb : b < 128) : (bits .and .u8 (b : Int) 128 != 0) = false := by
  rw [show (128 : Int) = ((128 : Nat) : Int) from rfl, u8_and_nat _ _ (by omega) (by omega), show (128 : Nat) = 2 ^ 7 from rfl, nat_bit, show b / 2 ^ 7 = 0 from by omega]
  rfl
theorem byte_lo7 (b : Nat) (hb : b < 256) : bits .and .u8 (b : Int) 127 = ((lo7 b : Nat) : Int) := by
  rw [show (127 : Int) = ((127 : Nat) : Int) from rfl, u8_and_nat _ _ hb (by omega), nat_mask7]
  rfl
theorem shl7_run (P : Program) (b t : Nat) (w : World) : (Op.shift .shl .u32 ((lo7 b : Nat) : Int) .u64 ((t : Int) * 7)).run P w = .ok (.int .u32 ((shl7 b t : Nat) : Int)) w := by
  have h : ((t : Int) * 7).toNat = t * 7 := by omega
  unfold Op.shift
  rw [if_neg (by omega)]
  simp only [h, Sem.run_pure, IntKind.wrap_u32']
  congr 2
theorem lo7_low (b : Nat) (hb : b < 128) : lo7 b = b := Nat.mod_eq_of_lt hb
theorem sofar_bits (bs : List Nat) (i t b : Nat) (h : i + t < bs.length) (hb : bs.getD (i + t) 0 = b) :
    bits .or .u32 ((sofar bs i t : Nat) : Int) ((shl7 b t : Nat) : Int) = ((sofar bs i (t + 1) : Nat) : Int) := by
  rw [u32_or_nat _ _ (sofar_lt _ _ _) (shl7_lt _ _), ← hb, sofar_step bs i t h]

theorem sofar_bits2 (bs : List Nat) (i t b : Nat) (h : i + t < bs.length) (hb : bs.getD (i + t) 0 = b) (hl : b < 128) (ht : t ≤ 4) :
    bits .or .u32 ((sofar bs i t : Nat) : Int) ((b : Int) * 2 ^ (t * 7) % 4294967296) = ((sofar bs i (t + 1) : Nat) : Int) := by
  rw [← sofar_bits bs i t b h hb]
  congr 1
  unfold shl7
  rw [Nat.min_eq_left (by omega), Nat.mod_eq_of_lt hl, shl_nat]
  generalize b * 2 ^ (t * 7) = m
  omega

/-- What decode returns. -/
def DecPost (bs : List Nat) (i n : Nat) (e : Ending) : Prop :=
  match decN (bs.drop i) with
  | some (x, m) => e = .returned (.tuple #[.int .u32 (x : Nat), .int .i64 ((i + m : Nat) : Int), .bool true])
  | none => ∃ x : Nat, e = .returned (.tuple #[.int .u32 (x : Nat), .int .i64 (n : Nat), .bool false])
theorem decPost_some {bs : List Nat} {i n x m : Nat} {e : Ending} (h : decN (bs.drop i) = some (x, m)) (he : e = .returned (.tuple #[.int .u32 (x : Nat), .int .i64 ((i + m : Nat) : Int), .bool true])) : DecPost bs i n e := by
  unfold DecPost; rw [h]; exact he
theorem decPost_none {bs : List Nat} {i n x : Nat} {e : Ending} (h : decN (bs.drop i) = none) (he : e = .returned (.tuple #[.int .u32 (x : Nat), .int .i64 (n : Nat), .bool false])) : DecPost bs i n e := by
  unfold DecPost; rw [h]; exact ⟨x, he⟩
theorem DecPost.some_ {bs : List Nat} {i n x m : Nat} {e : Ending} (h : decN (bs.drop i) = some (x, m)) (hp : DecPost bs i n e) : e = .returned (.tuple #[.int .u32 (x : Nat), .int .i64 ((i + m : Nat) : Int), .bool true]) := by
  unfold DecPost at hp; rw [h] at hp; exact hp
theorem DecPost.none_ {bs : List Nat} {i n : Nat} {e : Ending} (h : decN (bs.drop i) = none) (hp : DecPost bs i n e) : ∃ x : Nat, e = .returned (.tuple #[.int .u32 (x : Nat), .int .i64 (n : Nat), .bool false]) := by
  unfold DecPost at hp; rw [h] at hp; exact hp

set_option maxHeartbeats 1000000 in
theorem decode_any (A : Option Addr) (n c i B : Nat) (bs : List Nat) (w : World) (hbs : Nums w B .u8 A n bs) (h256 : ∀ b ∈ bs, b < 256) (hi : i ≤ n) (hn : n < 1099511627776) :
    Calls Tryd.prog 77 #[.slice A n c, .int .i64 i] w fun e w' => w = w' ∧ DecPost bs i n e := by
  have hlen := hbs.1
  have HL := Lib.hid hlen
  clear hlen
  go_enter Tryd.func77, Tryd.ntmps77
  go_wp2_with fail
  go_loopg [4, 7] (n - i) (fun g s4 s7 wr => wr = w ∧ ∃ t : Nat, g + t = n - i ∧ s7 = .int .i64 ((i + t : Nat) : Int) ∧ s4 = .int .u32 (sofar bs i t : Nat) ∧ Hid (∀ b ∈ (bs.drop i).take t, 128 ≤ b))
  case atStart => exact ⟨rfl, 0, by omega, rfl, rfl, fun b hb => by simp at hb⟩
  case round =>
    obtain ⟨rfl, t, hg, rfl, rfl, hhi⟩ := hrel
    by_cases hlt : i + t < n
    · obtain ⟨ad, rfl, hadb, hcell⟩ := hbs.at_ hlt
      obtain ⟨b, hb⟩ : ∃ b, bs.getD (i + t) 0 = b := ⟨_, rfl⟩
      rw [hb] at hcell
      have hb256 : b < 256 := by rw [← hb]; exact getD_lt h256 (by omega) _
      have hor := sofar_bits bs i t b (by have := HL.out; omega) hb
      have hsub : (i : Int) + (t : Int) - (i : Int) = (t : Int) := by omega
      have hsh := fun W => shl7_run Tryd.prog b t W
      have hsl := sofar_lt bs i (t + 1)
      have HB := Lib.hid hb
      clear hbs hb
      by_cases hbig : 128 ≤ b
      · have hy := byte_high b hb256 hbig
        have h127 := byte_lo7 b hb256
        have h128 := lo7_lt b
        go_wp2
        go_roundg (n - i - (t + 1))
        case measure => omega
        case rel => exact ⟨rfl, t + 1, by omega, by go_num, rfl, high_snoc bs i t (by have := HL.out; omega) (by rw [HB.out]; exact hbig) hhi.out⟩
      · have hy := byte_low b (by omega)
        have hlo := lo7_low b (by omega)
        rw [hlo] at hsh
        have HD := Lib.hid (decN_low bs i t (by have := HL.out; omega) (by rw [HB.out]; omega) hhi.out)
        clear hlo
        by_cases hA : 5 ≤ t
        · go_wp2
          go_ret3
          exact ⟨rfl, decPost_none (by rw [HD.out, if_pos (Or.inl hA)]) rfl⟩
        · have hok : ∀ e, ¬ (t = 4 ∧ 15 < b) → ¬ (1 ≤ t ∧ b = 0) → e = Ending.returned (.tuple #[.int .u32 (sofar bs i (t + 1) : Nat), .int .i64 ((i + (t + 1) : Nat) : Int), .bool true]) → DecPost bs i n e := fun e h1 h2 he =>
            decPost_some (by rw [HD.out, if_neg]; rintro (h | h | h); exact hA h; exact h1 (by rw [HB.out] at h; exact h); exact h2 (by rw [HB.out] at h; exact h)) he
          have hno : ∀ (x : Nat) e, ((t = 4 ∧ 15 < b) ∨ (1 ≤ t ∧ b = 0)) → e = Ending.returned (.tuple #[.int .u32 (x : Nat), .int .i64 (n : Nat), .bool false]) → DecPost bs i n e := fun x e h1 he =>
            decPost_none (by rw [HD.out, if_pos]; rw [HB.out]; exact Or.inr h1) he
          have HOK := Lib.hid hok
          have HNO := Lib.hid hno
          have hor2 := sofar_bits2 bs i t b (by have := HL.out; omega) HB.out (by omega) (by omega)
          clear hok hno
          by_cases h4 : t = 4
          · have H4 := Lib.hid h4
            have h5 : (((t : Int) + 1) == 5) = true := by rw [beq_iff_eq]; omega
            have ht1 : 1 ≤ t := by omega
            have ht2 : t ≤ 4 := by omega
            clear h4
            by_cases h15 : 15 < b
            · go_wp2
              go_ret3
              exact ⟨rfl, HNO.out _ _ (Or.inl ⟨H4.out, h15⟩) rfl⟩
            · by_cases h0 : b = 0
              · have H0 := Lib.hid h0
                have hz : ((b : Int) == 0) = true := by rw [h0]; rfl
                clear h0
                go_wp2
                go_ret3
                exact ⟨rfl, HNO.out _ _ (Or.inr ⟨ht1, H0.out⟩) rfl⟩
              · have hz : ((b : Int) == 0) = false := by rw [beq_eq_false_iff_ne]; omega
                have H0 := Lib.hid h0
                clear h0
                go_wp2
                go_ret3
                exact ⟨rfl, HOK.out _ (fun h => h15 h.2) (fun h => H0.out h.2) (by simp; omega)⟩
          · have h5 : (((t : Int) + 1) == 5) = false := by rw [beq_eq_false_iff_ne]; omega
            have H4 := Lib.hid h4
            have ht2 : t ≤ 3 := by omega
            clear h4
            by_cases ht1 : 1 ≤ t
            · by_cases h0 : b = 0
              · have H0 := Lib.hid h0
                have hz : ((b : Int) == 0) = true := by rw [h0]; rfl
                clear h0
                go_wp2
                go_ret3
                exact ⟨rfl, HNO.out _ _ (Or.inr ⟨ht1, H0.out⟩) rfl⟩
              · have hz : ((b : Int) == 0) = false := by rw [beq_eq_false_iff_ne]; omega
                have H0 := Lib.hid h0
                clear h0
                go_wp2
                go_ret3
                exact ⟨rfl, HOK.out _ (fun h => H4.out h.1) (fun h => H0.out h.2) (by simp; omega)⟩
            · go_wp2
              go_ret3
              exact ⟨rfl, HOK.out _ (fun h => H4.out h.1) (fun h => ht1 h.1) (by simp; omega)⟩
    · have HD := Lib.hid (decN_out bs i t (by have := HL.out; omega) hhi.out)
      go_wp2
      go_ret3
      exact ⟨rfl, decPost_none HD.out rfl⟩
end Go.Proofs.YtoegfdndoeiolaaDoor

/- Walks: a number's bytes by the thin functions. Condition: numbers below 2^32. -/
namespace Go.Proofs.YtoegfdndoeiolaaDoor
open Go.RowKit

theorem ZZPutVarint_any (x : Nat) (w : World) (hx : x < 4294967296) :
    Calls Tryd.prog 33 #[.int .u32 x] w fun e w' =>
      ∃ v', e = .returned v' ∧ Row w' 5 .u8 v' (varint x) ∧ Only (fun _ => False) w w' := by
  have hA := Append_any (.slice none 0 0) [] x w hx (Row.nil_ w _ _) (by simp)
  have HA := Lib.hid hA
  clear hA
  go_enter Tryd.func33, Tryd.ntmps33
  go_wp2_with (go_at_call 53; refine HA.out.mono ?_; rintro e w' ⟨v', rfl, hrow, hon, hlies⟩)
  go_ret
  exact ⟨v', rfl, by simpa using hrow, hon.mono (fun k hk _ => by simp [Value.ownBlock] at hk)⟩
theorem PutVarint_any (x : Nat) (w : World) (hx : x < 4294967296) :
    Calls Tryd.prog 18 #[.int .u32 x] w fun e w' =>
      ∃ v', e = .returned v' ∧ Row w' 5 .u8 v' (varint x) ∧ Only (fun _ => False) w w' := by
  have HA := Lib.hid (ZZPutVarint_any x w hx)
  go_enter Tryd.func18, Tryd.ntmps18
  go_wp2_with (go_at_call 33; refine HA.out.mono ?_; rintro e w' ⟨v', rfl, hrow, hon⟩)
  go_ret
  exact ⟨v', rfl, hrow, hon⟩

end Go.Proofs.YtoegfdndoeiolaaDoor
