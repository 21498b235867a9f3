/- Walks: an iterator over a compressed list: its length, whether there is a next key, the next key. Conditions: the list's keys rise and are below 2^32; fewer than 2^31 keys. -/
import Derived.Test.YtoegfdndoeiolaaDoorList
namespace Go.Proofs.YtoegfdndoeiolaaDoor
open Go.RowKit

/-- Keys that a list may hold: rising, below 2^32, not too many. -/
def Keys (ks : List Nat) : Prop := Rising ks ∧ (∀ k ∈ ks, k < 4294967296) ∧ ks.length < 2147483648
theorem Keys.len {ks : List Nat} (h : Keys ks) : (encFrom 0 ks).length < 1099511627776 := by have := encFrom_le 0 ks h.2.1; have := h.2.2; omega

/-- Where the iterator stands behind the keys 'pre'. -/
def at_ (pre : List Nat) : Nat := (encFrom 0 pre).length
theorem at_nil : at_ [] = 0 := rfl
theorem at_lt (pre : List Nat) (k : Nat) (rest : List Nat) : at_ pre < (encFrom 0 (pre ++ k :: rest)).length := by
  unfold at_
  rw [encFrom_append, List.length_append]
  have := varint_pos (k - lastOr 0 pre)
  simp only [encFrom, List.length_append]
  omega
theorem at_end (pre : List Nat) : at_ pre = (encFrom 0 (pre ++ [])).length := by rw [List.append_nil]; rfl
theorem iter_dec {pre rest : List Nat} {k : Nat} (h : Keys (pre ++ k :: rest)) :
    decN ((encFrom 0 (pre ++ k :: rest)).drop (at_ pre)) = some (k - lastOr 0 pre, (varint (k - lastOr 0 pre)).length) := by
  have hk : k < 4294967296 := h.2.1 k (by simp)
  unfold at_
  rw [encFrom_append, List.drop_left]
  exact decN_varint _ (by omega) _
theorem at_snoc (pre : List Nat) (k : Nat) : at_ pre + (varint (k - lastOr 0 pre)).length = at_ (pre ++ [k]) := by
  unfold at_
  rw [encFrom_snoc, List.length_append]

theorem Len_any (L : Nat) (v : Value) (ks : List Nat) (w : World) (h : CList w L v ks) :
    Calls Tryd.prog 78 #[.pointer (some ⟨L, 0, none⟩)] w fun e w' => e = .returned (.int .i64 ((encFrom 0 ks).length : Nat)) ∧ w = w' := by
  obtain ⟨A, c, rfl, hc, hn, _, _⟩ := h.2.1.nums
  have c2 : w.cell? ⟨L, 2, none⟩ = some (.slice A (encFrom 0 ks).length c) := h.1.cell 2
  clear h hn hc
  go_enter Tryd.func78, Tryd.ntmps78
  go_wp2
  go_ret
  exact ⟨rfl, rfl⟩

theorem listDecode_any (L : Nat) (v : Value) (pre rest : List Nat) (k : Nat) (w : World) (h : CList w L v (pre ++ k :: rest)) (hk : Keys (pre ++ k :: rest)) :
    Calls Tryd.prog 79 #[.pointer (some ⟨L, 0, none⟩), .int .i64 (at_ pre : Nat), .int .u32 (lastOr 0 pre : Nat)] w fun e w' =>
      e = .returned (.tuple #[.int .u32 k, .int .i64 (at_ (pre ++ [k]) : Nat)]) ∧ w = w' := by
  have hk32 : k < 4294967296 := hk.2.1 k (by simp)
  have hle : lastOr 0 pre ≤ k := rising_le hk.1 k rest rfl
  have hlen := hk.len
  have hat : at_ pre ≤ (encFrom 0 (pre ++ k :: rest)).length := Nat.le_of_lt (at_lt pre k rest)
  obtain ⟨A, c, rfl, hc, hn, _, _⟩ := h.2.1.nums
  have c2 : w.cell? ⟨L, 2, none⟩ = some (.slice A (encFrom 0 (pre ++ k :: rest)).length c) := h.1.cell 2
  have hd := decode_any A _ c (at_ pre) _ _ w hn (encFrom_byte _ _) hat hlen
  have HD : Hid (Calls Tryd.prog 77 #[.slice A (encFrom 0 (pre ++ k :: rest)).length c, .int .i64 (at_ pre : Nat)] w fun e w' =>
      e = .returned (.tuple #[.int .u32 (k - lastOr 0 pre : Nat), .int .i64 (at_ (pre ++ [k]) : Nat), .bool true]) ∧ w = w') :=
    hd.mono fun e w' ⟨h1, h2⟩ => ⟨by have := DecPost.some_ (iter_dec hk) h2; rwa [at_snoc] at this, h1⟩
  obtain ⟨d, hd'⟩ : ∃ d : Nat, d = k - lastOr 0 pre := ⟨_, rfl⟩
  rw [← hd'] at HD
  have hsum : (d : Int) + ((lastOr 0 pre : Nat) : Int) = (k : Int) := by omega
  clear hd hd' h hn hc hat hk hlen
  go_enter Tryd.func79, Tryd.ntmps79
  go_wp2_with (go_at_call 77; refine HD.out.mono ?_; rintro e w' ⟨rfl, rfl⟩)
  go_ret2
  exact ⟨ret2_int (by simp) rfl, rfl⟩

/-- The variable I holds an iterator over list L, behind the keys 'pre'. -/
def ItAt (w : World) (I L : Nat) (pre : List Nat) : Prop := Blk w I 82 #[.int .i64 (at_ pre : Nat), .int .u32 (lastOr 0 pre : Nat), .pointer (some ⟨L, 0, none⟩)]

set_option maxRecDepth 100000 in
theorem HasNext_any (L : Nat) (v : Value) (pre rest : List Nat) (w : World) (h : CList w L v (pre ++ rest)) (hk : Keys (pre ++ rest)) :
    Calls Tryd.prog 49 #[.agg #[.int .i64 (at_ pre : Nat), .int .u32 (lastOr 0 pre : Nat), .pointer (some ⟨L, 0, none⟩)]] w fun e w' =>
      e = .returned (.bool (!rest.isEmpty)) ∧ Only (fun _ => False) w w' := by
  have hb : decide (at_ pre < (encFrom 0 (pre ++ rest)).length) = !rest.isEmpty := by
    cases rest with
    | nil => have := at_end pre; rw [decide_eq_false (by omega)]; rfl
    | cons k rest => have := at_lt pre k rest; rw [decide_eq_true (by omega)]; rfl
  have hl := h.1.lt
  have hL : ∀ W, Only (fun _ => False) w W → Calls Tryd.prog 78 #[.pointer (some ⟨L, 0, none⟩)] W fun e w' => e = .returned (.int .i64 ((encFrom 0 (pre ++ rest)).length : Nat)) ∧ w' = W :=
    fun W hW => (Len_any L v _ W (h.only hW (fun hf => hf) (fun _ _ hf => hf))).mono fun _ _ ⟨a, b⟩ => ⟨a, b.symm⟩
  have HL := Lib.hid hL
  have HB := Lib.hid hb
  clear hL hb h hk
  go_enter Tryd.func49, Tryd.ntmps49
  go_wp2_with fail
  go_quiet ((go_at_call 78; exact Calls.quiet_of_same (HL.out _ (((Only.refl _ w).alloc _).drewN _))))
  go_wp2
  go_ret
  exact ⟨ret_bool HB.out, ((Only.refl _ w).alloc _).drewN _⟩

/-- What 'decode' gives in every world that has the list. -/
theorem listDecode_quiet {L : Nat} {v : Value} {pre rest : List Nat} {k : Nat} {w : World} (h : CList w L v (pre ++ k :: rest)) (hk : Keys (pre ++ k :: rest)) : ∀ W, Only (fun _ => False) w W →
    Calls Tryd.prog 79 #[.pointer (some ⟨L, 0, none⟩), .int .i64 (at_ pre : Nat), .int .u32 (lastOr 0 pre : Nat)] W fun e w' =>
      e = .returned (.tuple #[.int .u32 k, .int .i64 (at_ (pre ++ [k]) : Nat)]) ∧ w' = W :=
  fun W hW => (listDecode_any L v pre rest k W (h.only hW (fun hf => hf) (fun _ _ hf => hf)) hk).mono fun _ _ ⟨a, b⟩ => ⟨a, b.symm⟩

set_option maxRecDepth 100000 in
theorem Next_any (I L : Nat) (v : Value) (pre rest : List Nat) (k : Nat) (w : World) (hi : ItAt w I L pre) (h : CList w L v (pre ++ k :: rest)) (hk : Keys (pre ++ k :: rest)) :
    Calls Tryd.prog 50 #[.pointer (some ⟨I, 0, none⟩)] w fun e w' =>
      e = .returned (.int .u32 k) ∧ ItAt w' I L (pre ++ [k]) ∧ Only (fun b => b = I) w w' := by
  have HD := Lib.hid (listDecode_quiet h hk)
  have c0 : w.cell? ⟨I, 0, none⟩ = some (.int .i64 (at_ pre : Nat)) := hi.cell 0
  have c1 : w.cell? ⟨I, 1, none⟩ = some (.int .u32 (lastOr 0 pre : Nat)) := hi.cell 1
  have c2 : w.cell? ⟨I, 2, none⟩ = some (.pointer (some ⟨L, 0, none⟩)) := hi.cell 2
  have f0 := hi.frozen 0
  have f1 := hi.frozen 1
  have HI := Lib.hid hi
  clear hi h hk
  go_enter Tryd.func50, Tryd.ntmps50
  go_wp2_with fail
  go_quiet ((go_at_call 79; exact Calls.quiet_of_same (HD.out _ ((Only.refl _ w).drewN _))))
  go_wp2
  go_ret
  refine ⟨rfl, ?_, ?_⟩
  · have h1 := (HI.out.set_ 1 (.int .u32 k)).set_ 0 (.int .i64 (at_ (pre ++ [k]) : Nat))
    unfold ItAt
    rw [lastOr_snoc]
    exact h1
  · exact (((Only.refl (fun b => b = I) w).drewN _).setCell (fun _ => rfl) _).setCell (fun _ => rfl) _

set_option maxRecDepth 100000 in
theorem Peek_any (I L : Nat) (v : Value) (pre rest : List Nat) (k : Nat) (w : World) (hi : ItAt w I L pre) (h : CList w L v (pre ++ k :: rest)) (hk : Keys (pre ++ k :: rest)) :
    Calls Tryd.prog 92 #[.pointer (some ⟨I, 0, none⟩)] w fun e w' =>
      e = .returned (.tuple #[.int .u32 k, .int .i64 (at_ (pre ++ [k]) : Nat)]) ∧ Only (fun _ => False) w w' := by
  have HD := Lib.hid (listDecode_quiet h hk)
  have c0 : w.cell? ⟨I, 0, none⟩ = some (.int .i64 (at_ pre : Nat)) := hi.cell 0
  have c1 : w.cell? ⟨I, 1, none⟩ = some (.int .u32 (lastOr 0 pre : Nat)) := hi.cell 1
  have c2 : w.cell? ⟨I, 2, none⟩ = some (.pointer (some ⟨L, 0, none⟩)) := hi.cell 2
  clear hi h hk
  go_enter Tryd.func92, Tryd.ntmps92
  go_wp2_with fail
  go_quiet ((go_at_call 79; exact Calls.quiet_of_same (HD.out _ ((Only.refl _ w).drewN _))))
  go_wp2
  go_ret2
  exact ⟨rfl, (Only.refl _ w).drewN _⟩

theorem Advance_any (I L : Nat) (pre : List Nat) (k : Nat) (w : World) (hi : ItAt w I L pre) :
    Calls Tryd.prog 93 #[.pointer (some ⟨I, 0, none⟩), .int .u32 k, .int .i64 (at_ (pre ++ [k]) : Nat)] w fun e w' =>
      e = .returned (.tuple #[]) ∧ ItAt w' I L (pre ++ [k]) ∧ Only (fun b => b = I) w w' := by
  have c0 : w.cell? ⟨I, 0, none⟩ = some (.int .i64 (at_ pre : Nat)) := hi.cell 0
  have c1 : w.cell? ⟨I, 1, none⟩ = some (.int .u32 (lastOr 0 pre : Nat)) := hi.cell 1
  have f0 := hi.frozen 0
  have f1 := hi.frozen 1
  have HI := Lib.hid hi
  clear hi
  go_enter Tryd.func93, Tryd.ntmps93
  go_wp2
  go_end0
  refine ⟨rfl, ?_, ?_⟩
  · have h1 := (HI.out.set_ 1 (.int .u32 k)).set_ 0 (.int .i64 (at_ (pre ++ [k]) : Nat))
    unfold ItAt
    rw [lastOr_snoc]
    exact h1
  · exact ((Only.refl (fun b => b = I) w).setCell (fun _ => rfl) _).setCell (fun _ => rfl) _

theorem Iter_any (L : Nat) (w : World) :
    Calls Tryd.prog 48 #[.pointer (some ⟨L, 0, none⟩)] w fun e w' =>
      e = .returned (.agg #[.int .i64 (at_ [] : Nat), .int .u32 (lastOr 0 [] : Nat), .pointer (some ⟨L, 0, none⟩)]) ∧ Only (fun _ => False) w w' := by
  go_enter Tryd.func48, Tryd.ntmps48
  go_wp2
  refine bodyPost_ret (v := .agg #[.int .i64 (at_ [] : Nat), .int .u32 (lastOr 0 [] : Nat), .pointer (some ⟨L, 0, none⟩)]) (by simp [results, Tryd.results48, go_sem, at_nil, lastOr]) rfl ⟨rfl, (Only.refl _ w).alloc _⟩
end Go.Proofs.YtoegfdndoeiolaaDoor
