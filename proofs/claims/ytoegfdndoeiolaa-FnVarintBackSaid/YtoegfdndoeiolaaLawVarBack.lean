/- Walks: a number is read from its bytes by the thin functions, and the law that it is read back: it returns true. Conditions: numbers below 2^32; the list's bytes are bytes. -/
import Derived.Test.YtoegfdndoeiolaaLawVar
namespace Go.Proofs.Ytoegfdndoeiolaa
open Go.RowKit

theorem Varint_some (A : Option Addr) (n c B x : Nat) (rs : List Nat) (w : World) (hbs : Nums w B .u8 A n (varint x ++ rs)) (h256 : ∀ b ∈ rs, b < 256) (hx : x < 4294967296) (hn : n < 1099511627776) :
    Calls Try.prog 11 #[.slice A n c] w fun e w' => w = w' ∧ e = .returned (.tuple #[.int .u32 x, .int .i64 (varint x).length, .bool true]) := by
  have hd := decode_any A n c 0 B _ w hbs (fun b hb => (List.mem_append.1 hb).elim (varint_byte x b) (h256 b)) (Nat.zero_le _) hn
  have HD := Lib.hid hd
  clear hd
  have hZ : Calls Try.prog 16 #[.slice A n c, .int .i64 0] w fun e w' => w = w' ∧ e = .returned (.tuple #[.int .u32 x, .int .i64 (varint x).length, .bool true]) := by
    have HD2 : Hid (Calls Try.prog 21 #[.slice A n c, .int .i64 0] w fun e w' => e = .returned (.tuple #[.int .u32 x, .int .i64 (varint x).length, .bool true]) ∧ w = w') :=
      HD.out.mono fun e w' ⟨h1, h2⟩ => ⟨by have := DecPost.some_ (by rw [List.drop_zero]; exact decN_varint x (by omega) rs) h2; simpa using this, h1⟩
    clear HD
    go_enter Try.func16, Try.ntmps16
    go_wp2_with (go_at_call 21; refine HD2.out.mono ?_; rintro e w' ⟨rfl, rfl⟩)
    go_ret3
    exact ⟨rfl, rfl⟩
  have HZ : Hid (Calls Try.prog 16 #[.slice A n c, .int .i64 0] w fun e w' => e = .returned (.tuple #[.int .u32 x, .int .i64 (varint x).length, .bool true]) ∧ w = w') := hZ.mono fun e w' ⟨h1, h2⟩ => ⟨h2, h1⟩
  clear hZ HD
  go_enter Try.func11, Try.ntmps11
  go_wp2_with (go_at_call 16; refine HZ.out.mono ?_; rintro e w' ⟨rfl, rfl⟩)
  go_ret3
  exact ⟨rfl, rfl⟩

theorem lawVarintBack_long (x : Nat) (A : Option Addr) (n c : Nat) (w : World) (h : 2147483647 < n) :
    Calls Try.prog 4 #[.int .u32 x, .slice A n c] w fun e w' => e = .returned (.bool true) ∧ Below w.heap.size w w' := by
  go_enter Try.func4, Try.ntmps4
  go_wp2
  go_ret
  exact ⟨rfl, Below.refl _ _⟩

set_option maxHeartbeats 400000 in
theorem lawVarintBack_any (x : Nat) (A : Option Addr) (n c : Nat) (rs : List Nat) (w : World) (hx : x < 4294967296) (hrs : Nums w w.heap.size .u8 A n rs) (h256 : ∀ b ∈ rs, b < 256) (hn : n ≤ 2147483647) :
    Calls Try.prog 4 #[.int .u32 x, .slice A n c] w fun e w' => e = .returned (.bool true) ∧ Below w.heap.size w w' := by
  obtain ⟨i0, hi, hz0, hz1, hz2⟩ := info_parts info_u8
  have hl5 := varint_le5 x hx
  have hl1 := varint_pos x
  have HR := Lib.hid hrs
  clear hrs
  go_enter Try.func4, Try.ntmps4
  go_wp2_with fail
  refine (PutVarint_any x _ hx).mono ?_
  rintro e w1 ⟨v1, rfl, hrow1, hon1⟩
  obtain ⟨A1, c1, rfl, hc1, hnums1, hob1, _⟩ := hrow1.nums
  have hr0 := row_empty w1 5 .u8
  have hn0 : Nums (w1.alloc (.cells #[] 5)) w1.heap.size .u8 A1 (varint x).length (varint x) := hnums1.only (Nat.le_refl _) ((Only.refl (fun _ => False) _).alloc _) (fun _ _ hf => hf)
  go_wp2_with (first
    | (at_builtin; refine wpList_append_nums rfl (.tmp 15) (.tmp 16) 30 rfl 5 i0 (.int .u8 0) 1 Try.underlying30 hi hz0 hz1 hz2 rfl .u8 _ [] rfl hr0 w1.heap.size A1 _ c1 _ rfl hn0 ?c4 ?c5 ?_)
    )
  case c4 => simp; omega
  case c5 => simp; omega
  intro v2 w2 hrow2 hon2 hl2
  have hs1 := hon1.size
  have hw2 : Only (fun _ => False) w w2 := (hon1.alloc _).trans hon2 (fun k hk hlt => by simp [Value.ownBlock] at hk; omega)
  have hnr : Nums w2 w.heap.size .u8 A n rs := HR.out.only (Nat.le_refl _) hw2 (fun _ _ hf => hf)
  have hv2 : ∀ g, v2.ownBlock = some g → w.heap.size ≤ g := by
    intro g hg
    rcases hl2 with h | h <;> rw [hg] at h
    · simp [Value.ownBlock] at h; omega
    · simp at h; omega
  clear hon2 hl2 hn0 hr0 hrow1 hon1
  go_wp2_with (first
    | (at_builtin; refine wpList_append_nums rfl (.tmp 17) (.tmp 18) 30 rfl 5 i0 (.int .u8 0) 1 Try.underlying30 hi hz0 hz1 hz2 rfl .u8 v2 _ rfl hrow2 w.heap.size A _ c _ rfl hnr ?c6 ?c7 ?_)
    )
  case c6 => simp; omega
  case c7 => omega
  intro v3 w3 hrow3 hon3 hl3
  have hw3 : Only (fun _ => False) w w3 := hw2.trans hon3 (fun k hk hlt => by have := hv2 k hk; omega)
  obtain ⟨A3, c3, rfl, hc3, hnums3, _, _⟩ := hrow3.nums
  have hnl := HR.out.1
  have hcall := Varint_some A3 _ c3 _ x rs w3 hnums3 h256 hx (by rw [List.length_append]; omega)
  have HC : Hid (Calls Try.prog 11 #[.slice A3 ((varint x).length + rs.length) c3] w3 fun e w' => e = .returned (.tuple #[.int .u32 x, .int .i64 (varint x).length, .bool true]) ∧ w3 = w') := by
    rw [List.length_append] at hcall
    exact hcall.mono fun e w' ⟨h1, h2⟩ => ⟨h2, h1⟩
  clear hcall hl3 hon3 hrow3 hnums3 hc3 hnl
  go_wp2_with (go_at_call 11; refine HC.out.mono ?_; rintro e w' ⟨rfl, rfl⟩)
  go_ret
  exact ⟨ret_bool (by simp; omega), hw3.new⟩
end Go.Proofs.Ytoegfdndoeiolaa
