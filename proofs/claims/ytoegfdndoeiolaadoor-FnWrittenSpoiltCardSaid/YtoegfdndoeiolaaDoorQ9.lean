/- Walks and plain laws, one behind the other (List, Iter, Bytes, Pack, PlainList, ZPack); their conditions stand at each. -/
import Derived.Test.YtoegfdndoeiolaaDoorQ6
import Derived.StillTailTactics
import Derived.Deep.RegionWith
import Derived.Deep.RegionLaw
import Derived.Deep.RegionHeld3
import Derived.Laws.MakeOwn
import Derived.Deep.OwnRows

/- Walks: the compressed list of keys: made, appended to. Conditions: keys below 2^32, each not below the one before it; fewer than 2^31 keys. -/
namespace Go.Proofs.YtoegfdndoeiolaaDoor
open Go.RowKit

/-- Block L is a compressed list of the keys ks; v is its slice of bytes. -/
def CList (w : World) (L : Nat) (v : Value) (ks : List Nat) : Prop :=
  Blk w L 106 #[.int .u32 (ks.length : Nat), .int .u32 (lastOr 0 ks : Nat), v] ∧ Row w 5 .u8 v (encFrom 0 ks) ∧ ∀ k ∈ ks, k < 4294967296
theorem CList.ne {w : World} {L : Nat} {v : Value} {ks : List Nat} (h : CList w L v ks) : v.ownBlock ≠ some L := h.2.1.blk_ne h.1 (by decide)
theorem CList.only {S : Nat → Prop} {w w' : World} {L : Nat} {v : Value} {ks : List Nat} (h : CList w L v ks) (ho : Only S w w') (h1 : ¬ S L) (h2 : ∀ g, v.ownBlock = some g → ¬ S g) : CList w' L v ks :=
  ⟨h.1.only ho h1, h.2.1.only ho h2, h.2.2⟩

set_option maxHeartbeats 400000 in
set_option maxRecDepth 100000 in
theorem CAppend_any (L : Nat) (v : Value) (ks : List Nat) (k : Nat) (w : World) (h : CList w L v ks) (hk : k < 4294967296) (hrise : lastOr 0 ks ≤ k) (hlen : ks.length < 2147483648) :
    Calls Tryd.prog 51 #[.pointer (some ⟨L, 0, none⟩), .int .u32 k] w fun e w' => e = .returned (.tuple #[]) ∧
      ∃ v', CList w' L v' (ks ++ [k]) ∧ Only (fun b => b = L ∨ v.ownBlock = some b) w w' ∧ Lies w v v' := by
  obtain ⟨hb, hr, hks⟩ := h
  have c0 : w.cell? ⟨L, 0, none⟩ = some (.int .u32 (ks.length : Nat)) := hb.cell 0
  have c1 : w.cell? ⟨L, 1, none⟩ = some (.int .u32 (lastOr 0 ks : Nat)) := hb.cell 1
  have c2 : w.cell? ⟨L, 2, none⟩ = some v := hb.cell 2
  have f0 := hb.frozen 0
  have f1 := hb.frozen 1
  have f2 := hb.frozen 2
  have hne := CList.ne ⟨hb, hr, hks⟩
  obtain ⟨wx, hwx⟩ : ∃ wx, wx = w.setCell ⟨L, 0, none⟩ (.int .u32 ((ks.length : Int) + 1)) := ⟨_, rfl⟩
  have hbx : Blk wx L 106 #[.int .u32 ((ks.length : Int) + 1), .int .u32 (lastOr 0 ks : Nat), v] := by rw [hwx]; exact hb.set_ 0 _
  have hox : Only (fun b => b = L ∨ v.ownBlock = some b) w wx := by rw [hwx]; exact (Only.refl _ w).setCell (fun _ => .inl rfl) _
  have hrx : Row wx 5 .u8 v (encFrom 0 ks) := by rw [hwx]; exact hr.only ((Only.refl (fun b => b = L) w).setCell (fun _ => rfl) _) (fun g hg hgl => hne (by rw [hg, hgl]))
  have HX := Lib.hid hwx
  have hll : (encFrom 0 ks).length < 1099511627776 := by have := encFrom_le 0 ks hks; omega
  have HB := Lib.hid hbx
  have HR := Lib.hid hrx
  have HK := Lib.hid (⟨hb, hr, hks⟩ : Blk w L _ _ ∧ Row w _ _ v _ ∧ _)
  clear hbx hrx hb hr hks
  go_enter Tryd.func51, Tryd.ntmps51
  go_wp2_with fail
  rw [← hwx]
  clear c0 c1 c2 f0 f1 f2 hwx
  have c1x : wx.cell? ⟨L, 1, none⟩ = some (.int .u32 (lastOr 0 ks : Nat)) := HB.out.cell 1
  have c2x : wx.cell? ⟨L, 2, none⟩ = some v := HB.out.cell 2
  obtain ⟨d, hd⟩ : ∃ d : Nat, d = k - lastOr 0 ks := ⟨_, rfl⟩
  have hs1 : (k : Int) - ((lastOr 0 ks : Nat) : Int) = (d : Int) := by omega
  have hs2 : IntKind.u32.wrap ((d : Nat) : Int) = (d : Int) := by rw [IntKind.wrap_u32']; omega
  have hd32 : d < 4294967296 := by omega
  have HC := Lib.hid (Append_any v (encFrom 0 ks) d wx.drew hd32 (HR.out.only ((Only.refl (fun _ => False) wx).drew) (fun _ _ hf => hf)) hll)
  have HD := Lib.hid hd
  clear hd
  go_region_law (first | (go_simp; go_at_call 53; refine HC.out.mono ?_; rintro e w1 ⟨v1, rfl, hrow1, hon1, hlies1⟩; obtain ⟨A1, cp1, rfl, _, _, _, _⟩ := hrow1.nums; have hb1 := Lib.hid (HB.out.drew.only hon1 hne); have f2x := hb1.out.frozen 2; have c2y : w1.cell? ⟨L, 2, none⟩ = some v := hb1.out.cell 2; have f1x := hb1.out.frozen 1; have c1y : w1.cell? ⟨L, 1, none⟩ = some (.int .u32 (lastOr 0 ks : Nat)) := hb1.out.cell 1))
  all_goals
    go_wp2_with fail
    go_end0
    have hne1 : (Value.slice A1 ((encFrom 0 ks).length + (varint d).length) cp1).ownBlock ≠ some L := by
      intro he
      rw [List.length_append] at hlies1
      rcases hlies1 with hl | ⟨g, hl, hge⟩
      · exact hne (hl.symm.trans he)
      · rw [he] at hl
        injection hl with hl
        have hlt := HB.out.drew.lt
        rw [← hl] at hge
        exact absurd hge (by simpa using hlt)
    rw [List.length_append] at hrow1 hlies1
    refine ⟨rfl, .slice A1 ((encFrom 0 ks).length + (varint d).length) cp1, ⟨?_, ?_, ?_⟩, ?_, ?_⟩
    · have h1 := (hb1.out.set_ 2 (.slice A1 ((encFrom 0 ks).length + (varint d).length) cp1)).set_ 1 (.int .u32 k)
      rw [List.length_append, lastOr_snoc]
      exact h1
    · rw [encFrom_snoc, ← HD.out]
      exact hrow1.only (((Only.refl (fun b => b = L) w1).setCell (fun _ => rfl) _).setCell (fun _ => rfl) _) (fun g hg hgl => hne1 (by rw [hg, hgl]))
    · intro c hc
      rcases List.mem_append.1 hc with hc | hc
      · exact HK.out.2.2 c hc
      · rw [List.mem_singleton] at hc; subst hc; exact hk
    · exact ((hox.drew.trans hon1 (fun b hb _ => .inr hb)).setCell (fun _ => .inl rfl) _).setCell (fun _ => .inl rfl) _
    · rcases hlies1 with hl | ⟨g, hl, hge⟩
      · exact .inl hl
      · exact .inr ⟨g, hl, by have := hox.size; exact Nat.le_trans this hge⟩

theorem run_make_rowN {P : Program} (t e : TypeId) (i : TypeInfo) (z : Value) (ht : P.underlying t = some (.slice e)) (hi : P.info? e = some i) (hz : i.zero = some z)
    (kl kc : IntKind) (n c : Nat) (hnc : n ≤ c) (hbytes : i.bytes * c ≤ 281474976710656) (h63 : c ≤ 9223372036854775807) (w : World) :
    (Instr.makeSlice t (.int kl (n : Int)) (.int kc (c : Int))).run P w = .ok (.slice (some ⟨w.heap.size, 0, none⟩) n c) (w.alloc (.cells (madeCells z.cells (c * i.size)) e)) := by
  have hb : (i.bytes : Int) * (c : Int) ≤ 281474976710656 := by
    have h : ((i.bytes * c : Nat) : Int) ≤ 281474976710656 := by omega
    rwa [Int.natCast_mul] at h
  have hr := run_make (P := P) w t e i z ht hi hz kl kc n c (by omega) (by omega) hb (by omega)
  simp only [Int.toNat_natCast] at hr
  exact hr

set_option maxRecDepth 100000 in
theorem newCompressedList_any (c : Nat) (w : World) (hc : c ≤ 1099511627776) :
    Calls Tryd.prog 46 #[.int .i64 c] w fun e w' =>
      ∃ L v, e = .returned (.pointer (some ⟨L, 0, none⟩)) ∧ w.heap.size ≤ L ∧ (∀ g, v.ownBlock = some g → w.heap.size ≤ g) ∧ CList w' L v [] ∧ Only (fun _ => False) w w' := by
  obtain ⟨i0, hi, hz0, hz1, hz2⟩ := info_parts info_u8
  have hmk : ∀ W : World, (Instr.makeSlice 88 (.int .i64 0) (.int .i64 (c : Int))).run Tryd.prog W = .ok (.slice (some ⟨W.heap.size, 0, none⟩) 0 c) (W.alloc (.cells (madeCells #[.int .u8 0] c) 5)) := fun W => by
    have h := run_make_rowN (P := Tryd.prog) 88 5 i0 (.int .u8 0) Tryd.underlying88 hi hz0 .i64 .i64 0 c (Nat.zero_le _) (by rw [hz2]; omega) (by omega) W
    rw [hz1, Nat.mul_one] at h
    exact h
  go_enter Tryd.func46, Tryd.ntmps46
  go_wp2
  go_ret
  refine ⟨w.heap.size, .slice (some ⟨w.heap.size + 1, 0, none⟩) 0 c, rfl, Nat.le_refl _, ?_, ⟨?_, ?_, ?_⟩, ((Only.refl _ w).alloc _).alloc _⟩
  · intro g hg
    simp [Value.ownBlock] at hg
    omega
  · exact (Blk.new w _ _).alloc _
  · have h := World.ownsRow_made (base := 0) (e := 5) (size := 1) (w.alloc (.cells #[.int .u32 0, .int .u32 0, .slice (some ⟨w.heap.size + 1, 0, none⟩) 0 c] 106)) (madeCells #[.int .u8 0] c) c (Nat.zero_le _) (by unfold maxLen; omega) (by rw [size_madeCells, Nat.mul_one])
    have hs : (w.alloc (.cells #[.int .u32 0, .int .u32 0, .slice (some ⟨w.heap.size + 1, 0, none⟩) 0 c] 106)).heap.size = w.heap.size + 1 := by simp
    rw [hs] at h
    exact h
  · intro k hk; cases hk
end Go.Proofs.YtoegfdndoeiolaaDoor

/- Walks: an iterator over a compressed list: its length, whether there is a next key, the next key. Conditions: the list's keys rise and are below 2^32; fewer than 2^31 keys. -/
namespace Go.Proofs.YtoegfdndoeiolaaDoor
open Go.RowKit

/-- Keys that a list may hold: rising, below 2^32, not too many. -/
def Keys (ks : List Nat) : Prop := Rising ks ∧ (∀ k ∈ ks, k < 4294967296) ∧ ks.length < 2147483648
theorem Keys.len {ks : List Nat} (h : Keys ks) : (encFrom 0 ks).length < 1099511627776 := by have := encFrom_le 0 ks h.2.1; have := h.2.2; omega

/-- Where the iterator stands behind the keys 'pre'. -/
def at_ (pre : List Nat) : Nat := (encFrom 0 pre).length
theorem at_nil : at_ [] = 0 := rfl
theorem at_lt (pre : List Nat) (k : Nat) (rest : List Nat) : at_ pre < (encFrom 0 (pre ++ k :: rest)).length := by
  unfold at_
  rw [encFrom_append, List.length_append]
  have := varint_pos (k - lastOr 0 pre)
  simp only [encFrom, List.length_append]
  omega
theorem at_end (pre : List Nat) : at_ pre = (encFrom 0 (pre ++ [])).length := by rw [List.append_nil]; rfl
theorem iter_dec {pre rest : List Nat} {k : Nat} (h : Keys (pre ++ k :: rest)) :
    decN ((encFrom 0 (pre ++ k :: rest)).drop (at_ pre)) = some (k - lastOr 0 pre, (varint (k - lastOr 0 pre)).length) := by
  have hk : k < 4294967296 := h.2.1 k (by simp)
  unfold at_
  rw [encFrom_append, List.drop_left]
  exact decN_varint _ (by omega) _
theorem at_snoc (pre : List Nat) (k : Nat) : at_ pre + (varint (k - lastOr 0 pre)).length = at_ (pre ++ [k]) := by
  unfold at_
  rw [encFrom_snoc, List.length_append]

theorem Len_any (L : Nat) (v : Value) (ks : List Nat) (w : World) (h : CList w L v ks) :
    Calls Tryd.prog 78 #[.pointer (some ⟨L, 0, none⟩)] w fun e w' => e = .returned (.int .i64 ((encFrom 0 ks).length : Nat)) ∧ w = w' := by
  obtain ⟨A, c, rfl, hc, hn, _, _⟩ := h.2.1.nums
  have c2 : w.cell? ⟨L, 2, none⟩ = some (.slice A (encFrom 0 ks).length c) := h.1.cell 2
  clear h hn hc
  go_enter Tryd.func78, Tryd.ntmps78
  go_wp2
  go_ret
  exact ⟨rfl, rfl⟩

theorem listDecode_any (L : Nat) (v : Value) (pre rest : List Nat) (k : Nat) (w : World) (h : CList w L v (pre ++ k :: rest)) (hk : Keys (pre ++ k :: rest)) :
    Calls Tryd.prog 79 #[.pointer (some ⟨L, 0, none⟩), .int .i64 (at_ pre : Nat), .int .u32 (lastOr 0 pre : Nat)] w fun e w' =>
      e = .returned (.tuple #[.int .u32 k, .int .i64 (at_ (pre ++ [k]) : Nat)]) ∧ w = w' := by
  have hk32 : k < 4294967296 := hk.2.1 k (by simp)
  have hle : lastOr 0 pre ≤ k := rising_le hk.1 k rest rfl
  have hlen := hk.len
  have hat : at_ pre ≤ (encFrom 0 (pre ++ k :: rest)).length := Nat.le_of_lt (at_lt pre k rest)
  obtain ⟨A, c, rfl, hc, hn, _, _⟩ := h.2.1.nums
  have c2 : w.cell? ⟨L, 2, none⟩ = some (.slice A (encFrom 0 (pre ++ k :: rest)).length c) := h.1.cell 2
  have hd := decode_any A _ c (at_ pre) _ _ w hn (encFrom_byte _ _) hat hlen
  have HD : Hid (Calls Tryd.prog 77 #[.slice A (encFrom 0 (pre ++ k :: rest)).length c, .int .i64 (at_ pre : Nat)] w fun e w' =>
      e = .returned (.tuple #[.int .u32 (k - lastOr 0 pre : Nat), .int .i64 (at_ (pre ++ [k]) : Nat), .bool true]) ∧ w = w') :=
    hd.mono fun e w' ⟨h1, h2⟩ => ⟨by have := DecPost.some_ (iter_dec hk) h2; rwa [at_snoc] at this, h1⟩
  obtain ⟨d, hd'⟩ : ∃ d : Nat, d = k - lastOr 0 pre := ⟨_, rfl⟩
  rw [← hd'] at HD
  have hsum : (d : Int) + ((lastOr 0 pre : Nat) : Int) = (k : Int) := by omega
  clear hd hd' h hn hc hat hk hlen
  go_enter Tryd.func79, Tryd.ntmps79
  go_wp2_with (go_at_call 77; refine HD.out.mono ?_; rintro e w' ⟨rfl, rfl⟩)
  go_ret2
  exact ⟨ret2_int (by simp) rfl, rfl⟩

/-- The variable I holds an iterator over list L, behind the keys 'pre'. -/
def ItAt (w : World) (I L : Nat) (pre : List Nat) : Prop := Blk w I 82 #[.int .i64 (at_ pre : Nat), .int .u32 (lastOr 0 pre : Nat), .pointer (some ⟨L, 0, none⟩)]

set_option maxRecDepth 100000 in
theorem HasNext_any (L : Nat) (v : Value) (pre rest : List Nat) (w : World) (h : CList w L v (pre ++ rest)) (hk : Keys (pre ++ rest)) :
    Calls Tryd.prog 49 #[.agg #[.int .i64 (at_ pre : Nat), .int .u32 (lastOr 0 pre : Nat), .pointer (some ⟨L, 0, none⟩)]] w fun e w' =>
      e = .returned (.bool (!rest.isEmpty)) ∧ Only (fun _ => False) w w' := by
  have hb : decide (at_ pre < (encFrom 0 (pre ++ rest)).length) = !rest.isEmpty := by
    cases rest with
    | nil => have := at_end pre; rw [decide_eq_false (by omega)]; rfl
    | cons k rest => have := at_lt pre k rest; rw [decide_eq_true (by omega)]; rfl
  have hl := h.1.lt
  have hL : ∀ W, Only (fun _ => False) w W → Calls Tryd.prog 78 #[.pointer (some ⟨L, 0, none⟩)] W fun e w' => e = .returned (.int .i64 ((encFrom 0 (pre ++ rest)).length : Nat)) ∧ w' = W :=
    fun W hW => (Len_any L v _ W (h.only hW (fun hf => hf) (fun _ _ hf => hf))).mono fun _ _ ⟨a, b⟩ => ⟨a, b.symm⟩
  have HL := Lib.hid hL
  have HB := Lib.hid hb
  clear hL hb h hk
  go_enter Tryd.func49, Tryd.ntmps49
  go_wp2_with fail
  go_quiet ((go_at_call 78; exact Calls.quiet_of_same (HL.out _ (((Only.refl _ w).alloc _).drewN _))))
  go_wp2
  go_ret
  exact ⟨ret_bool HB.out, ((Only.refl _ w).alloc _).drewN _⟩

/-- What 'decode' gives in every world that has the list. -/
theorem listDecode_quiet {L : Nat} {v : Value} {pre rest : List Nat} {k : Nat} {w : World} (h : CList w L v (pre ++ k :: rest)) (hk : Keys (pre ++ k :: rest)) : ∀ W, Only (fun _ => False) w W →
    Calls Tryd.prog 79 #[.pointer (some ⟨L, 0, none⟩), .int .i64 (at_ pre : Nat), .int .u32 (lastOr 0 pre : Nat)] W fun e w' =>
      e = .returned (.tuple #[.int .u32 k, .int .i64 (at_ (pre ++ [k]) : Nat)]) ∧ w' = W :=
  fun W hW => (listDecode_any L v pre rest k W (h.only hW (fun hf => hf) (fun _ _ hf => hf)) hk).mono fun _ _ ⟨a, b⟩ => ⟨a, b.symm⟩

set_option maxRecDepth 100000 in
theorem Next_any (I L : Nat) (v : Value) (pre rest : List Nat) (k : Nat) (w : World) (hi : ItAt w I L pre) (h : CList w L v (pre ++ k :: rest)) (hk : Keys (pre ++ k :: rest)) :
    Calls Tryd.prog 50 #[.pointer (some ⟨I, 0, none⟩)] w fun e w' =>
      e = .returned (.int .u32 k) ∧ ItAt w' I L (pre ++ [k]) ∧ Only (fun b => b = I) w w' := by
  have HD := Lib.hid (listDecode_quiet h hk)
  have c0 : w.cell? ⟨I, 0, none⟩ = some (.int .i64 (at_ pre : Nat)) := hi.cell 0
  have c1 : w.cell? ⟨I, 1, none⟩ = some (.int .u32 (lastOr 0 pre : Nat)) := hi.cell 1
  have c2 : w.cell? ⟨I, 2, none⟩ = some (.pointer (some ⟨L, 0, none⟩)) := hi.cell 2
  have f0 := hi.frozen 0
  have f1 := hi.frozen 1
  have HI := Lib.hid hi
  clear hi h hk
  go_enter Tryd.func50, Tryd.ntmps50
  go_wp2_with fail
  go_quiet ((go_at_call 79; exact Calls.quiet_of_same (HD.out _ ((Only.refl _ w).drewN _))))
  go_wp2
  go_ret
  refine ⟨rfl, ?_, ?_⟩
  · have h1 := (HI.out.set_ 1 (.int .u32 k)).set_ 0 (.int .i64 (at_ (pre ++ [k]) : Nat))
    unfold ItAt
    rw [lastOr_snoc]
    exact h1
  · exact (((Only.refl (fun b => b = I) w).drewN _).setCell (fun _ => rfl) _).setCell (fun _ => rfl) _

set_option maxRecDepth 100000 in
theorem Peek_any (I L : Nat) (v : Value) (pre rest : List Nat) (k : Nat) (w : World) (hi : ItAt w I L pre) (h : CList w L v (pre ++ k :: rest)) (hk : Keys (pre ++ k :: rest)) :
    Calls Tryd.prog 92 #[.pointer (some ⟨I, 0, none⟩)] w fun e w' =>
      e = .returned (.tuple #[.int .u32 k, .int .i64 (at_ (pre ++ [k]) : Nat)]) ∧ Only (fun _ => False) w w' := by
  have HD := Lib.hid (listDecode_quiet h hk)
  have c0 : w.cell? ⟨I, 0, none⟩ = some (.int .i64 (at_ pre : Nat)) := hi.cell 0
  have c1 : w.cell? ⟨I, 1, none⟩ = some (.int .u32 (lastOr 0 pre : Nat)) := hi.cell 1
  have c2 : w.cell? ⟨I, 2, none⟩ = some (.pointer (some ⟨L, 0, none⟩)) := hi.cell 2
  clear hi h hk
  go_enter Tryd.func92, Tryd.ntmps92
  go_wp2_with fail
  go_quiet ((go_at_call 79; exact Calls.quiet_of_same (HD.out _ ((Only.refl _ w).drewN _))))
  go_wp2
  go_ret2
  exact ⟨rfl, (Only.refl _ w).drewN _⟩

theorem Advance_any (I L : Nat) (pre : List Nat) (k : Nat) (w : World) (hi : ItAt w I L pre) :
    Calls Tryd.prog 93 #[.pointer (some ⟨I, 0, none⟩), .int .u32 k, .int .i64 (at_ (pre ++ [k]) : Nat)] w fun e w' =>
      e = .returned (.tuple #[]) ∧ ItAt w' I L (pre ++ [k]) ∧ Only (fun b => b = I) w w' := by
  have c0 : w.cell? ⟨I, 0, none⟩ = some (.int .i64 (at_ pre : Nat)) := hi.cell 0
  have c1 : w.cell? ⟨I, 1, none⟩ = some (.int .u32 (lastOr 0 pre : Nat)) := hi.cell 1
  have f0 := hi.frozen 0
  have f1 := hi.frozen 1
  have HI := Lib.hid hi
  clear hi
  go_enter Tryd.func93, Tryd.ntmps93
  go_wp2
  go_end0
  refine ⟨rfl, ?_, ?_⟩
  · have h1 := (HI.out.set_ 1 (.int .u32 k)).set_ 0 (.int .i64 (at_ (pre ++ [k]) : Nat))
    unfold ItAt
    rw [lastOr_snoc]
    exact h1
  · exact ((Only.refl (fun b => b = I) w).setCell (fun _ => rfl) _).setCell (fun _ => rfl) _

theorem Iter_any (L : Nat) (w : World) :
    Calls Tryd.prog 48 #[.pointer (some ⟨L, 0, none⟩)] w fun e w' =>
      e = .returned (.agg #[.int .i64 (at_ [] : Nat), .int .u32 (lastOr 0 [] : Nat), .pointer (some ⟨L, 0, none⟩)]) ∧ Only (fun _ => False) w w' := by
  go_enter Tryd.func48, Tryd.ntmps48
  go_wp2
  refine bodyPost_ret (v := .agg #[.int .i64 (at_ [] : Nat), .int .u32 (lastOr 0 [] : Nat), .pointer (some ⟨L, 0, none⟩)]) (by simp [results, Tryd.results48, go_sem, at_nil, lastOr]) rfl ⟨rfl, (Only.refl _ w).alloc _⟩
end Go.Proofs.YtoegfdndoeiolaaDoor

/- Walks: four bytes as a number; what is said of a length; whether a key may stand in a list. Conditions: the bytes are bytes; the variables of the errors hold errors. -/
namespace Go.Proofs.YtoegfdndoeiolaaDoor
open Go.RowKit

/-- Four bytes as a number. -/
def unbe (a b c d : Nat) : Nat := a * 16777216 + b * 65536 + c * 256 + d
/-- A number's four bytes. -/
def be32 (x : Nat) : List Nat := [x / 16777216 % 256, x / 65536 % 256, x / 256 % 256, x % 256]
theorem unbe_be (x : Nat) (h : x < 4294967296) : unbe (x / 16777216 % 256) (x / 65536 % 256) (x / 256 % 256) (x % 256) = x := by unfold unbe; omega
theorem unbe_lt {a b c d : Nat} (ha : a < 256) (hb : b < 256) (hc : c < 256) (hd : d < 256) : unbe a b c d < 4294967296 := by unfold unbe; omega
theorem be_unbe {a b c d : Nat} (ha : a < 256) (hb : b < 256) (hc : c < 256) (hd : d < 256) : be32 (unbe a b c d) = [a, b, c, d] := by
  unfold be32 unbe
  simp only [List.cons.injEq, and_true]
  omega

theorem be_bits (a b c d : Nat) (ha : a < 256) (hb : b < 256) (hc : c < 256) (hd : d < 256) :
    bits .or .u32 (bits .or .u32 (bits .or .u32 (d : Int) ((c : Int) * 256)) ((b : Int) * 65536)) ((a : Int) * 16777216) = ((unbe a b c d : Nat) : Int) := by
  rw [show ((c : Int) * 256) = ((c * 256 : Nat) : Int) from by omega, u32_or_nat _ _ (by omega) (by omega), Nat.or_comm, nat_join 8 (c * 256) d (by omega) (by omega),
    show ((b : Int) * 65536) = ((b * 65536 : Nat) : Int) from by omega, u32_or_nat _ _ (by omega) (by omega), Nat.or_comm, nat_join 16 (b * 65536) _ (by omega) (by omega),
    show ((a : Int) * 16777216) = ((a * 16777216 : Nat) : Int) from by omega, u32_or_nat _ _ (by omega) (by omega), Nat.or_comm, nat_join 24 (a * 16777216) _ (by omega) (by omega)]
  unfold unbe
  omega

set_option maxRecDepth 100000 in
theorem beUint32_any (A : Option Addr) (cp B a b c d : Nat) (w : World) (h : Nums w B .u8 A 4 [a, b, c, d]) (ha : a < 256) (hb : b < 256) (hc : c < 256) (hd : d < 256) :
    Calls Tryd.prog 67 #[.slice A 4 cp] w fun e w' => e = .returned (.int .u32 (unbe a b c d : Nat)) ∧ ∃ n, w' = w.drewN n := by
  obtain ⟨ad, rfl, hadb, h0⟩ := h.at_ (i := 0) (by omega)
  obtain ⟨ad1, e1, _, h1⟩ := h.at_ (i := 1) (by omega)
  obtain ⟨ad2, e2, _, h2⟩ := h.at_ (i := 2) (by omega)
  obtain ⟨ad3, e3, _, h3⟩ := h.at_ (i := 3) (by omega)
  injection e1 with e1; injection e2 with e2; injection e3 with e3
  subst e1; subst e2; subst e3
  have c0 : w.cell? ad = some (.int .u8 a) := h0
  have c1 : w.cell? ⟨ad.block, ad.off + 1, none⟩ = some (.int .u8 b) := h1
  have c2 : w.cell? ⟨ad.block, ad.off + 2, none⟩ = some (.int .u8 c) := h2
  have c3 : w.cell? ⟨ad.block, ad.off + 3, none⟩ = some (.int .u8 d) := h3
  have HB := Lib.hid (be_bits a b c d ha hb hc hd)
  clear h h0 h1 h2 h3 hadb
  go_enter Tryd.func67, Tryd.ntmps67
  go_wp2_with fail
  go_quiet (fail)
  go_wp2
  go_ret
  exact ⟨ret_int HB.out, _, rfl⟩

/-- An error as errors.New makes it. -/
def errAt (a : Addr) : Value := .iface 152 (.pointer (some a))
/-- The variables of the errors that a list's reader hands on hold errors. -/
def Errs (w : World) : Prop :=
  (∃ a, w.cell? ⟨1, 0, none⟩ = some (.iface 152 (.pointer (some a)))) ∧
  ∃ a, w.cell? ⟨3, 0, none⟩ = some (.iface 152 (.pointer (some a)))
theorem Errs.only {S : Nat → Prop} {w w' : World} (h : Errs w) (ho : Only S w w') (h1 : ¬ S 1) (h2 : ¬ S 3) : Errs w' := by
  obtain ⟨⟨a, ha⟩, b, hb⟩ := h
  exact ⟨⟨a, (ho.cell (World.block_lt_of_cell? w _ ha) h1).trans ha⟩, b, (ho.cell (World.block_lt_of_cell? w _ hb) h2).trans hb⟩
/-- The call ends with an error. -/
def Fails (e : Ending) : Prop := ∃ a, e = .returned (.iface 152 (.pointer (some a)))

theorem maxRho_any (p : Nat) (w : World) (h1 : 4 ≤ p) (h2 : p ≤ 18) :
    Calls Tryd.prog 101 #[.int .u8 p] w fun e w' => e = .returned (.int .u8 (65 - p : Nat)) ∧ w = w' := by
  go_enter Tryd.func101, Tryd.ntmps101
  go_wp2
  go_ret
  exact ⟨ret_int (by omega), rfl⟩

theorem checkSparseKey_ok (k p : Nat) (w : World) (hk : k < 4294967296) (h1 : 4 ≤ p) (h2 : p ≤ 18) (h : decVal k p ≤ 65 - p) :
    Calls Tryd.prog 69 #[.int .u32 k, .int .u8 p] w fun e w' => e = .returned .nilIface ∧ w = w' := by
  have hv := decVal_lt k p
  go_enter Tryd.func69, Tryd.ntmps69
  go_wp2_with (first
    | (go_at_call 101; refine (maxRho_any p _ h1 h2).mono ?_; rintro e w' ⟨rfl, rfl⟩)
    | (go_at_call 100; refine (decodeHash_any k p _ hk h1 h2).mono ?_; rintro e w' ⟨rfl, rfl⟩))
  go_ret
  exact ⟨rfl, rfl⟩
theorem checkSparseKey_bad (k p : Nat) (w : World) (hk : k < 4294967296) (h1 : 4 ≤ p) (h2 : p ≤ 18) (h : ¬ decVal k p ≤ 65 - p) (he : Errs w) :
    Calls Tryd.prog 69 #[.int .u32 k, .int .u8 p] w fun e w' => Fails e ∧ w = w' := by
  have hv := decVal_lt k p
  obtain ⟨_, a, ha⟩ := he
  go_enter Tryd.func69, Tryd.ntmps69
  go_wp2_with (first
    | (go_at_call 101; refine (maxRho_any p _ h1 h2).mono ?_; rintro e w' ⟨rfl, rfl⟩)
    | (go_at_call 100; refine (decodeHash_any k p _ hk h1 h2).mono ?_; rintro e w' ⟨rfl, rfl⟩))
  go_ret
  exact ⟨⟨a, rfl⟩, rfl⟩

theorem exactLen_ok (s : ByteArray) (n : Nat) (w : World) :
    Calls Tryd.prog 71 #[.string s, .int .u64 n, .int .u64 n] w fun e w' => e = .returned .nilIface ∧ w = w' := by
  go_enter Tryd.func71, Tryd.ntmps71
  go_wp2
  go_ret
  exact ⟨rfl, rfl⟩
theorem exactLen_bad (s : ByteArray) (n m : Nat) (w : World) (h : n ≠ m) (he : Errs w) :
    Calls Tryd.prog 71 #[.string s, .int .u64 n, .int .u64 m] w fun e w' => Fails e ∧ w = w' := by
  obtain ⟨⟨b, hb⟩, a, ha⟩ := he
  have hne : ((n : Int) == (m : Int)) = false := by rw [beq_eq_false_iff_ne]; omega
  rcases Nat.lt_or_gt_of_ne h with h | h
  · go_enter Tryd.func71, Tryd.ntmps71
    go_wp2
    go_ret
    exact ⟨⟨b, rfl⟩, rfl⟩
  · go_enter Tryd.func71, Tryd.ntmps71
    go_wp2
    go_ret
    exact ⟨⟨a, rfl⟩, rfl⟩
end Go.Proofs.YtoegfdndoeiolaaDoor

/- Walks: lists of bytes and of keys are written behind bytes. Conditions: the lists are no longer than a machine holds. -/
namespace Go.Proofs.YtoegfdndoeiolaaDoor
open Go.RowKit

section
variable {P : Program} {w : World} {ops : Array Oper} {rest : List Oper} {o : Oper} {a : Act} {Q : Exit → Act → World → Prop}
theorem nums_lits (w : World) (e : TypeId) (k : IntKind) (ys : List Nat) (cs : Array Value) (hcs : cs = (ys.map fun y : Nat => Value.int k (y : Int)).toArray) (n : Nat) (hn : ys.length = n) :
    Nums (w.alloc (.cells cs e)) (w.heap.size + 1) k (some ⟨w.heap.size, 0, none⟩) n ys := by
  refine ⟨hn, fun _ => ⟨_, rfl, by simp, fun j x hx => ?_⟩⟩
  rw [add_lit, (Blk.new w e cs).cell, hcs, Nat.zero_add, List.getElem?_toArray, List.getElem?_map, hx]
  rfl
/-- 'append(v, x, y, ..)' of some numbers: behind the block that is laid for them. -/
theorem wpList_append_lits (hgd : o.guard = none) (s x : Operand) (t : TypeId)
    (ho : o.op = .call { callee := .builtin .append, args := #[s, x], argTypes := #[t, t] })
    (e : TypeId) (i : TypeInfo) (z : Value) (bytes : Nat) (ht : P.underlying t = some (.slice e)) (hi : P.info? e = some i) (hz : i.zero = some z)
    (hsize : i.size = 1) (hby : i.bytes = bytes) (hzs : z.cells.size = 1)
    (k : IntKind) (v : Value) (xs : List Nat) (hs : a.eval s = v) (hrow : Row w e k v xs) (ys : List Nat) (n c : Nat) (hn : ys.length = n) (e' : TypeId) (cs : Array Value) (hcs : cs = (ys.map fun y : Nat => Value.int k (y : Int)).toArray)
    (hx : a.eval x = .slice (some ⟨w.heap.size, 0, none⟩) n c)
    (hb : (xs.length + n) * bytes ≤ 140737488355328) (hb1 : xs.length + n ≤ 140737488355328)
    (h : ∀ v' w', Row w' e k v' (xs ++ ys) → Only (fun g => v.ownBlock = some g) w w' → Lies w v v' → wpList P ops Q rest (a.put o.dst v') w') :
    wpList P ops Q (o :: rest) a (w.alloc (.cells cs e')) := by
  have hr : Row (w.alloc (.cells cs e')) e k v xs := hrow.only ((Only.refl (fun _ => False) w).alloc _) (fun _ _ hf => hf)
  refine wpList_append_nums (w := w.alloc (.cells cs e')) hgd s x t ho e i z bytes ht hi hz hsize hby hzs k v xs hs hr (w.heap.size + 1) _ n c ys hx (nums_lits w e' k ys cs hcs n hn) hb hb1 fun v' w' h2 h3 h4 => ?_
  refine h v' w' h2 (((Only.refl _ w).alloc _).trans h3 (fun _ hk _ => hk)) ?_
  rcases h4 with h4 | h4
  · exact .inl h4
  · exact .inr ⟨_, h4, by simp⟩
theorem wp_append_lits {K : Act → World → Prop} (s x : Operand) (t : TypeId)
    (ho : o.op = .call { callee := .builtin .append, args := #[s, x], argTypes := #[t, t] })
    (e : TypeId) (i : TypeInfo) (z : Value) (bytes : Nat) (ht : P.underlying t = some (.slice e)) (hi : P.info? e = some i) (hz : i.zero = some z)
    (hsize : i.size = 1) (hby : i.bytes = bytes) (hzs : z.cells.size = 1)
    (k : IntKind) (v : Value) (xs : List Nat) (hs : a.eval s = v) (hrow : Row w e k v xs) (ys : List Nat) (n c : Nat) (hn : ys.length = n) (e' : TypeId) (cs : Array Value) (hcs : cs = (ys.map fun y : Nat => Value.int k (y : Int)).toArray)
    (hx : a.eval x = .slice (some ⟨w.heap.size, 0, none⟩) n c)
    (hb : (xs.length + n) * bytes ≤ 140737488355328) (hb1 : xs.length + n ≤ 140737488355328)
    (h : ∀ v' w', Row w' e k v' (xs ++ ys) → Only (fun g => v.ownBlock = some g) w w' → Lies w v v' → K (a.put o.dst v') w') :
    o.wp P a (w.alloc (.cells cs e')) K Q := by
  have hr : Row (w.alloc (.cells cs e')) e k v xs := hrow.only ((Only.refl (fun _ => False) w).alloc _) (fun _ _ hf => hf)
  refine wp_append_nums (w := w.alloc (.cells cs e')) s x t ho e i z bytes ht hi hz hsize hby hzs k v xs hs hr (w.heap.size + 1) _ n c ys hx (nums_lits w e' k ys cs hcs n hn) hb hb1 fun v' w' h2 h3 h4 => ?_
  refine h v' w' h2 (((Only.refl _ w).alloc _).trans h3 (fun _ hk _ => hk)) ?_
  rcases h4 with h4 | h4
  · exact .inl h4
  · exact .inr ⟨_, h4, by simp⟩
/-- At a step of a region that draws its order. -/
theorem step_append_lits {K : Act → World → Prop} {E : Prop} (hgd : o.guard = none) (s x : Operand) (t : TypeId)
    (ho : o.op = .call { callee := .builtin .append, args := #[s, x], argTypes := #[t, t] })
    (e : TypeId) (i : TypeInfo) (z : Value) (bytes : Nat) (ht : P.underlying t = some (.slice e)) (hi : P.info? e = some i) (hz : i.zero = some z)
    (hsize : i.size = 1) (hby : i.bytes = bytes) (hzs : z.cells.size = 1)
    (k : IntKind) (v : Value) (xs : List Nat) (hs : a.eval s = v) (hrow : Row w e k v xs) (ys : List Nat) (n c : Nat) (hn : ys.length = n) (e' : TypeId) (cs : Array Value) (hcs : cs = (ys.map fun y : Nat => Value.int k (y : Int)).toArray)
    (hx : a.eval x = .slice (some ⟨w.heap.size, 0, none⟩) n c)
    (hb : (xs.length + n) * bytes ≤ 140737488355328) (hb1 : xs.length + n ≤ 140737488355328)
    (h : ∀ v' w', Row w' e k v' (xs ++ ys) → Only (fun g => v.ownBlock = some g) w w' → Lies w v v' → K (a.put o.dst v') w') :
    if Region.wanted o (yielded ops a.tmps) = true then Oper.wp P o a (w.alloc (.cells cs e')) K Q else E := by
  have hw : Region.wanted o (yielded ops a.tmps) = true := by simp [Region.wanted, hgd]
  rw [if_pos hw]
  exact wp_append_lits s x t ho e i z bytes ht hi hz hsize hby hzs k v xs hs hrow ys n c hn e' cs hcs hx hb hb1 h

/-- append looks at the second argument's type only for whether it is a number. -/
theorem run_append_type (t t2 ty e e2 : TypeId) (ht : P.underlying t = some (.slice e)) (ht2 : P.underlying t2 = some (.slice e2)) (v x : Value) :
    (Builtin.append_ #[t, t2] ty #[v, x]).run P w = (Builtin.append_ #[t, t] ty #[v, x]).run P w := by
  unfold Builtin.append_
  cases v <;> simp only [Sem.run_bind, run_underlying ht, run_underlying ht2, Result.andThen_ok, Sem.run_pure, List.getElem?_toArray, List.getElem?_cons_zero, List.getElem?_cons_succ]
theorem wpList_append_nums2 (hgd : o.guard = none) (s x : Operand) (t t2 e2 : TypeId)
    (ho : o.op = .call { callee := .builtin .append, args := #[s, x], argTypes := #[t, t2] }) (ht2 : P.underlying t2 = some (.slice e2))
    (e : TypeId) (i : TypeInfo) (z : Value) (bytes : Nat) (ht : P.underlying t = some (.slice e)) (hi : P.info? e = some i) (hz : i.zero = some z)
    (hsize : i.size = 1) (hby : i.bytes = bytes) (hzs : z.cells.size = 1)
    (k : IntKind) (v : Value) (xs : List Nat) (hs : a.eval s = v) (hrow : Row w e k v xs)
    (B : Nat) (A : Option Addr) (m c : Nat) (ys : List Nat) (hx : a.eval x = .slice A m c) (hys : Nums w B k A m ys)
    (hb : (xs.length + m) * bytes ≤ 140737488355328) (hb1 : xs.length + m ≤ 140737488355328)
    (h : ∀ v' w', Row w' e k v' (xs ++ ys) → Only (fun g => v.ownBlock = some g) w w' → (v'.ownBlock = v.ownBlock ∨ v'.ownBlock = some w.heap.size) → wpList P ops Q rest (a.put o.dst v') w') : wpList P ops Q (o :: rest) a w := by
  refine wpList_plain hgd fun _ hK => ?_
  obtain ⟨v', w', hrun, h2, h3, h4⟩ := run_append_nums (P := P) (w := w) t o.type e i z bytes ht hi hz hsize hby hzs k v xs hrow B A m c ys hys hb hb1
  rw [← run_append_type t t2 o.type e e2 ht ht2] at hrun
  unfold Oper.wp execOp
  simp only [ho, resolve, invoke, builtin, Sem.run_bind, Sem.run_pure, Result.andThen_ok, List.map_toArray, List.map_cons, List.map_nil, hs, hx, hrun]
  exact hK _ _ (h v' w' h2 h3 h4)
end

theorem be32_len (x : Nat) : (be32 x).length = 4 := rfl
theorem be32_byte (x : Nat) : ∀ b ∈ be32 x, b < 256 := by
  intro b hb
  simp only [be32, List.mem_cons, List.not_mem_nil, or_false] at hb
  rcases hb with rfl | rfl | rfl | rfl <;> omega
theorem be32_cells (x : Nat) (h : x < 4294967296) : (#[.int .u8 ((x : Int) / 16777216), .int .u8 ((x : Int) / 65536 % 256), .int .u8 ((x : Int) / 256 % 256), .int .u8 ((x : Int) % 256)] : Array Value) = ((be32 x).map fun y : Nat => Value.int .u8 (y : Int)).toArray := by
  have h1 : x / 16777216 % 256 = x / 16777216 := Nat.mod_eq_of_lt (by omega)
  simp [be32, h1]
theorem be32_cells2 (x y : Nat) : (#[.int .u8 (IntKind.u8.wrap ((x : Int) / 16777216)), .int .u8 (IntKind.u8.wrap ((x : Int) / 65536)), .int .u8 (IntKind.u8.wrap ((x : Int) / 256)), .int .u8 (IntKind.u8.wrap (x : Int)),
    .int .u8 (IntKind.u8.wrap ((y : Int) / 16777216)), .int .u8 (IntKind.u8.wrap ((y : Int) / 65536)), .int .u8 (IntKind.u8.wrap ((y : Int) / 256)), .int .u8 (IntKind.u8.wrap (y : Int))] : Array Value) = ((be32 x ++ be32 y).map fun y : Nat => Value.int .u8 (y : Int)).toArray := by
  simp [be32, IntKind.wrap_u8']

set_option maxRecDepth 100000 in
theorem bytesAppend_any (A : Option Addr) (n c B : Nat) (bs : List Nat) (v : Value) (ds : List Nat) (w : World) (hbs : Nums w B .u8 A n bs) (hB : B ≤ w.heap.size) (hn : n < 4294967296) (hv : Row w 5 .u8 v ds)
    (hne : ∀ ad, A = some ad → v.ownBlock ≠ some ad.block) (hl : ds.length < 1099511627776) :
    Calls Tryd.prog 80 #[.slice A n c, v] w fun e w' =>
      ∃ v', e = .returned (.tuple #[v', .nilIface]) ∧ Row w' 5 .u8 v' (ds ++ (be32 n ++ bs)) ∧ Only (fun k => v.ownBlock = some k) w w' ∧ Lies w v v' := by
  obtain ⟨i0, hi, hz0, hz1, hz2⟩ := info_parts info_u8
  have HV := Lib.hid hv
  have HBS := Lib.hid hbs
  have HC := Lib.hid (be32_cells n hn)
  have HN := Lib.hid hne
  clear hv hbs hne
  go_enter Tryd.func80, Tryd.ntmps80
  go_wp2_with (at_builtin; go_must (refine wpList_append_lits rfl (.tmp 9) (.tmp 21) 31 rfl 5 i0 (.int .u8 0) 1 Tryd.underlying31 hi hz0 hz1 hz2 rfl .u8 v ds rfl HV.out (be32 n) 4 4 rfl 5 _ HC.out rfl ?c4 ?c5 ?_))
  case c4 => omega
  case c5 => omega
  intro v1 w1 hrow1 hon1 hlies1
  have hn1 : Nums w1 B .u8 A n bs := HBS.out.only hB hon1 HN.out
  have hl1 : (ds ++ be32 n).length = ds.length + 4 := by rw [List.length_append, be32_len]
  go_wp2_with (at_builtin; go_must (refine wpList_append_nums2 rfl (.tmp 23) (.tmp 24) 31 88 5 rfl Tryd.underlying88 5 i0 (.int .u8 0) 1 Tryd.underlying31 hi hz0 hz1 hz2 rfl .u8 v1 _ rfl hrow1 B A n c bs rfl hn1 ?c6 ?c7 ?_))
  case c6 => omega
  case c7 => omega
  intro v2 w2 hrow2 hon2 hlies2
  go_wp2
  go_ret2
  refine ⟨v2, rfl, hrow2, hon1.trans hon2 (hstep hlies1), hlies1.trans hon1.size ?_⟩
  rcases hlies2 with h | h
  · exact .inl h
  · exact .inr ⟨_, h, Nat.le_refl _⟩

theorem lastOr_lt {ks : List Nat} (h : ∀ k ∈ ks, k < 4294967296) : lastOr 0 ks < 4294967296 := by
  by_cases hn : ks = []
  · subst hn; decide
  · exact h _ (lastOr_mem 0 ks hn)
/-- The bytes of a list of keys. -/
def listBytes (ks : List Nat) : List Nat := be32 ks.length ++ (be32 (lastOr 0 ks) ++ (be32 (encFrom 0 ks).length ++ encFrom 0 ks))

set_option maxHeartbeats 400000 in
set_option maxRecDepth 100000 in
theorem CAppendBinary_any (L : Nat) (v : Value) (ks : List Nat) (d : Value) (ds : List Nat) (w : World) (h : CList w L v ks) (hk : ks.length < 536870912) (hd : Row w 5 .u8 d ds)
    (hne : d.ownBlock ≠ some L) (hne2 : ∀ g, v.ownBlock = some g → d.ownBlock ≠ some g) (hl : ds.length < 549755813888) :
    Calls Tryd.prog 52 #[.pointer (some ⟨L, 0, none⟩), d] w fun e w' =>
      ∃ d', e = .returned (.tuple #[d', .nilIface]) ∧ Row w' 5 .u8 d' (ds ++ listBytes ks) ∧ Only (fun k => d.ownBlock = some k) w w' ∧ Lies w d d' := by
  obtain ⟨i0, hi, hz0, hz1, hz2⟩ := info_parts info_u8
  obtain ⟨hb, hr, hks⟩ := h
  have c0 : w.cell? ⟨L, 0, none⟩ = some (.int .u32 (ks.length : Nat)) := hb.cell 0
  have c1 : w.cell? ⟨L, 1, none⟩ = some (.int .u32 (lastOr 0 ks : Nat)) := hb.cell 1
  have c2 : w.cell? ⟨L, 2, none⟩ = some v := hb.cell 2
  have H : Hid (CList w L v ks) := Lib.hid ⟨hb, hr, hks⟩
  clear hb hr hks
  go_enter Tryd.func52, Tryd.ntmps52
  have hlast : lastOr 0 ks < 4294967296 := lastOr_lt H.out.2.2
  have HC := Lib.hid (be32_cells2 ks.length (lastOr 0 ks))
  have HD := Lib.hid hd
  have hLt : L < w.heap.size := H.out.1.lt
  have h8 : (be32 ks.length ++ be32 (lastOr 0 ks)).length = 8 := rfl
  go_wp2_with fail
  go_region_held3 (fun w' => w'.cell? ⟨L, 0, none⟩ = some (.int .u32 (ks.length : Nat)) ∧ w'.cell? ⟨L, 1, none⟩ = some (.int .u32 (lastOr 0 ks : Nat))) (first | go_keep | exact ⟨c0y, c1y⟩) ((refine step_append_lits (by rfl) (.tmp 6) (.tmp 53) 31 (by rfl) 5 i0 (.int .u8 0) 1 Tryd.underlying31 hi hz0 hz1 hz2 rfl .u8 d ds (by rfl) (HD.out.only ((Only.refl (fun _ => False) w).drew) (fun _ _ hf => hf)) (be32 ks.length ++ be32 (lastOr 0 ks)) 8 8 rfl 5 _ HC.out (by rfl) (by omega) (by omega) ?_; intro v1 w1 hrow1 hon1 hlies1; have c0y := (hon1.cell (p := ⟨L, 0, none⟩) hLt hne).trans c0; have c1y := (hon1.cell (p := ⟨L, 1, none⟩) hLt hne).trans c1))
  clear c0y c1y c0 c1
  replace hon1 : Only (fun g => d.ownBlock = some g) w w1 := (Only.refl _ w).drew.trans hon1 (fun k hk _ => hk)
  have hH1 : CList w1 L v ks := H.out.only hon1 hne (fun g hg he => hne2 g hg he)
  have hlies1' := hlies1
  have hs1 : w.heap.size ≤ w1.heap.size := hon1.size
  have c2y : w1.cell? ⟨L, 2, none⟩ = some v := hH1.1.cell 2
  obtain ⟨A, cp, rfl, hcp, hnums, hA, _⟩ := hH1.2.1.nums
  have hel : (encFrom 0 ks).length < 4294967296 := by have := encFrom_le 0 ks H.out.2.2; omega
  have hlen1 : (ds ++ (be32 ks.length ++ be32 (lastOr 0 ks))).length = ds.length + 8 := by rw [List.length_append, h8]
  have hfar : ∀ ad, A = some ad → v1.ownBlock ≠ some ad.block := by
    intro ad e he
    rcases hlies1 with h | ⟨g, h, hge⟩
    · exact hne2 _ (hA ad e) (h.symm.trans he)
    · rw [he] at h
      injection h with h
      have := H.out.2.1.lt _ (hA ad e)
      have hge' : w.heap.size ≤ g := hge
      omega
  have HB := Lib.hid (bytesAppend_any A (encFrom 0 ks).length cp w1.heap.size (encFrom 0 ks) v1 _ w1 hnums (Nat.le_refl _) hel hrow1 hfar (by omega))
  clear hcp hnums hA hH1 hlies1 hfar hrow1
  go_wp2_with (go_at_call 80; refine HB.out.mono ?_; rintro e w2 ⟨v2, rfl, hrow2, hon2, hlies2⟩)
  go_ret2
  refine ⟨v2, rfl, ?_, hon1.trans hon2 (hstep hlies1'), hlies1'.trans hs1 hlies2⟩
  unfold listBytes
  simpa only [List.append_assoc] using hrow2

end Go.Proofs.YtoegfdndoeiolaaDoor

/- Plain law: keys as their differences are read in one way alone. Conditions: keys rise and are below 2^32. -/
namespace Go.Proofs.YtoegfdndoeiolaaDoor
open Go.RowKit

/-- Keys that a sketch of p bits may hold in its list. -/
def Valid (p : Nat) (ks : List Nat) : Prop := Rising ks ∧ (∀ k ∈ ks, okKey k p) ∧ ks.length < 33554432
theorem Valid.keys {p : Nat} {ks : List Nat} (h : Valid p ks) : Keys ks := ⟨h.1, fun k hk => (h.2.1 k hk).1, by have := h.2.2; omega⟩
theorem Valid.nil (p : Nat) : Valid p [] := by
  refine ⟨List.Pairwise.nil, fun k hk => ?_, by simp⟩
  cases hk

theorem encFrom_prefix : ∀ (pre ks : List Nat) (l : Nat) (r : List Nat), (∀ k ∈ pre, k < 4294967296) → (∀ k ∈ ks, k < 4294967296) → (∀ k ∈ pre, l ≤ k) → (∀ k ∈ ks, l ≤ k) → Rising pre → Rising ks →
    encFrom l pre ++ r = encFrom l ks → ∃ rest, ks = pre ++ rest ∧ encFrom (lastOr l pre) rest = r
  | [], ks, l, r, _, _, _, _, _, _, h => ⟨ks, rfl, h.symm⟩
  | k :: pre, ks, l, r, hp, hk, hlp, hlk, rp, rk, h => by
    cases ks with
    | nil =>
      have h1 := congrArg List.length h
      have := varint_pos (k - l)
      simp only [encFrom, List.length_append, List.length_nil] at h1
      omega
    | cons k' ks =>
      have e1 := hp k (by simp)
      have e2 := hk k' (by simp)
      have l1 := hlp k (by simp)
      have l2 := hlk k' (by simp)
      simp only [encFrom, List.append_assoc] at h
      have d1 := decN_varint (k - l) (by omega) (encFrom k pre ++ r)
      have d2 := decN_varint (k' - l) (by omega) (encFrom k' ks)
      rw [h, d2] at d1
      simp only [Option.some.injEq, Prod.mk.injEq] at d1
      have hkk : k' = k := by omega
      subst hkk
      rw [List.append_cancel_left_eq] at h
      unfold Rising at rp rk
      rw [List.pairwise_cons] at rp rk
      obtain ⟨rest, hr, hr2⟩ := encFrom_prefix pre ks k' r (fun c hc => hp c (by simp [hc])) (fun c hc => hk c (by simp [hc])) (fun c hc => Nat.le_of_lt (rp.1 c hc)) (fun c hc => Nat.le_of_lt (rk.1 c hc)) rp.2 rk.2 h
      exact ⟨rest, by rw [hr]; rfl, hr2⟩
theorem valid_prefix {p : Nat} {pre ks : List Nat} {r : List Nat} (hr : Rising pre) (hp : ∀ k ∈ pre, okKey k p) (hk : Valid p ks) (h : encFrom 0 pre ++ r = encFrom 0 ks) : ∃ rest, ks = pre ++ rest ∧ encFrom (lastOr 0 pre) rest = r :=
  encFrom_prefix pre ks 0 r (fun k hk => (hp k hk).1) (fun c hc => (hk.2.1 c hc).1) (fun _ _ => Nat.zero_le _) (fun _ _ => Nat.zero_le _) hr hk.1 h

/-- What follows in a list behind keys that have been read: nothing, or a key whose difference stands in front. -/
theorem valid_next {p : Nat} {pre ks : List Nat} {r : List Nat} (hr : Rising pre) (hp : ∀ k ∈ pre, okKey k p) (hk : Valid p ks) (h : encFrom 0 pre ++ r = encFrom 0 ks) :
    (r = [] ∧ ks = pre) ∨ ∃ k, decN r = some (k - lastOr 0 pre, (varint (k - lastOr 0 pre)).length) ∧ okKey k p ∧ lastOr 0 pre ≤ k ∧ (pre ≠ [] → lastOr 0 pre < k) := by
  obtain ⟨rest, rfl, hrest⟩ := valid_prefix hr hp hk h
  cases rest with
  | nil => exact .inl ⟨hrest.symm, by simp⟩
  | cons k rest =>
    have hok : okKey k p := hk.2.1 k (by simp)
    refine .inr ⟨k, ?_, hok, rising_le hk.1 k rest rfl, fun hn => rising_lt hk.1 k rest rfl hn⟩
    rw [← hrest]
    exact decN_varint _ (by have := hok.1; omega) _

/-- The head of a list's bytes. -/
theorem head_split (bs : List Nat) (h : 12 ≤ bs.length) (h256 : ∀ b ∈ bs, b < 256) : ∃ cn ls sz st, cn < 4294967296 ∧ ls < 4294967296 ∧ sz < 4294967296 ∧ bs = be32 cn ++ (be32 ls ++ (be32 sz ++ st)) ∧ st.length + 12 = bs.length := by
  match bs, h with
  | a0 :: a1 :: a2 :: a3 :: b0 :: b1 :: b2 :: b3 :: c0 :: c1 :: c2 :: c3 :: st, h =>
    have g : ∀ b ∈ [a0, a1, a2, a3, b0, b1, b2, b3, c0, c1, c2, c3], b < 256 := fun b hb => h256 b (by
      simp only [List.mem_cons, List.not_mem_nil, or_false] at hb ⊢
      rcases hb with h | h | h | h | h | h | h | h | h | h | h | h <;> simp [h])
    have g' := fun b hb => g b hb
    simp only [List.mem_cons, List.not_mem_nil, or_false, forall_eq_or_imp, forall_eq] at g'
    obtain ⟨a0', a1', a2', a3', b0', b1', b2', b3', c0', c1', c2', c3'⟩ := g'
    refine ⟨unbe a0 a1 a2 a3, unbe b0 b1 b2 b3, unbe c0 c1 c2 c3, st, unbe_lt a0' a1' a2' a3', unbe_lt b0' b1' b2' b3', unbe_lt c0' c1' c2' c3', ?_, by simp⟩
    rw [be_unbe a0' a1' a2' a3', be_unbe b0' b1' b2' b3', be_unbe c0' c1' c2' c3']
    rfl
theorem be32_inj {x y : Nat} (hx : x < 4294967296) (hy : y < 4294967296) (h : be32 x = be32 y) : x = y := by
  unfold be32 at h
  simp only [List.cons.injEq, and_true] at h
  omega
theorem be32_app {x y : Nat} (hx : x < 4294967296) (hy : y < 4294967296) {r s : List Nat} (h : be32 x ++ r = be32 y ++ s) : x = y ∧ r = s := by
  have h1 := List.append_inj h rfl
  exact ⟨be32_inj hx hy h1.1, h1.2⟩
/-- What bytes are those of a list of keys. -/
theorem listBytes_iff {p cn ls sz : Nat} {st ks : List Nat} (h1 : cn < 4294967296) (h2 : ls < 4294967296) (h3 : sz < 4294967296) (hk : Valid p ks) :
    be32 cn ++ (be32 ls ++ (be32 sz ++ st)) = listBytes ks ↔ cn = ks.length ∧ ls = lastOr 0 ks ∧ sz = (encFrom 0 ks).length ∧ st = encFrom 0 ks := by
  have hk32 : ∀ k ∈ ks, k < 4294967296 := fun k h => (hk.2.1 k h).1
  have hl := encFrom_le 0 ks hk32
  have hl2 := lastOr_lt hk32
  have hl3 := hk.2.2
  unfold listBytes
  constructor
  · intro h
    obtain ⟨e1, h⟩ := be32_app h1 (by omega) h
    obtain ⟨e2, h⟩ := be32_app h2 (by omega) h
    obtain ⟨e3, h⟩ := be32_app h3 (by omega) h
    exact ⟨e1, e2, e3, h⟩
  · rintro ⟨rfl, rfl, rfl, rfl⟩
    rfl
end Go.Proofs.YtoegfdndoeiolaaDoor

/- Walks: keys are packed into bytes. Conditions: the keys rise and are below 2^32; fewer than 2^29 of them. -/
namespace Go.Proofs.YtoegfdndoeiolaaDoor
open Go.RowKit

theorem list_split (ks : List Nat) (t : Nat) (h : t < ks.length) : ks = ks.take t ++ ks.getD t 0 :: ks.drop (t + 1) := by
  have h1 := drop_split ks 0 t (by omega)
  simpa using h1
theorem list_take_succ (ks : List Nat) (t : Nat) (h : t < ks.length) : ks.take (t + 1) = ks.take t ++ [ks.getD t 0] := by
  have h1 := drop_take_succ ks 0 t (by omega)
  simpa using h1
theorem keys_snoc {xs : List Nat} {k : Nat} (h : Keys (xs ++ [k])) : Keys xs := ⟨(List.pairwise_append.1 h.1).1, fun c hc => h.2.1 c (by simp [hc]), by have := h.2.2; simp at this; omega⟩

set_option maxHeartbeats 400000 in
set_option maxRecDepth 100000 in
theorem ZZPack_any (A : Option Addr) (n c : Nat) (ks : List Nat) (w : World) (hks : Nums w w.heap.size .u32 A n ks) (hk : Keys ks) (hlen : ks.length < 536870912) :
    Calls Tryd.prog 32 #[.slice A n c] w fun e w' =>
      ∃ v', e = .returned v' ∧ Row w' 5 .u8 v' (listBytes ks) ∧ Only (fun _ => False) w w' := by
  have hn := hks.1
  have HK := Lib.hid hks
  have HKK := Lib.hid hk
  clear hks hk
  go_enter Tryd.func32, Tryd.ntmps32
  go_wp2_with (go_at_call 46; refine (newCompressedList_any 0 _ (by omega)).mono ?_; rintro e w1 ⟨L, v, rfl, hL, hvL, hcl, hon⟩)
  go_loopg [11] n (fun g s11 wr => ∃ t : Nat, g + t = n ∧ s11 = .int .i64 (t : Nat) ∧ ∃ u, CList wr L u (ks.take t) ∧ (∀ g, u.ownBlock = some g → w.heap.size ≤ g) ∧ Only (fun _ => False) w wr)
  case atStart => exact ⟨0, by omega, rfl, v, hcl, hvL, hon⟩
  case round =>
    obtain ⟨t, hg, rfl, u, hcu, hu, hwr⟩ := hrel
    by_cases hlt : t < n
    · obtain ⟨k, hkd⟩ : ∃ k, ks.getD t 0 = k := ⟨_, rfl⟩
      obtain ⟨ad, rfl, hadb, hcell⟩ := (HK.out.only (Nat.le_refl _) hwr (fun _ _ hf => hf)).at_ hlt
      rw [hkd] at hcell
      have htl : t < ks.length := by omega
      have hsplit : ks = ks.take t ++ k :: ks.drop (t + 1) := by rw [← hkd]; exact list_split ks t htl
      have htake : ks.take (t + 1) = ks.take t ++ [k] := by rw [← hkd]; exact list_take_succ ks t htl
      have hk32 : k < 4294967296 := HKK.out.2.1 k (by rw [hsplit]; simp)
      have hrise : lastOr 0 (ks.take t) ≤ k := rising_le (a := ks.take t) (b := k :: ks.drop (t + 1)) (by rw [← hsplit]; exact HKK.out.1) k _ rfl
      have HA := Lib.hid (CAppend_any L u (ks.take t) k wr hcu hk32 hrise (by rw [List.length_take]; omega))
      have HT := Lib.hid htake
      clear hsplit htake hcu hrise hkd
      go_wp2_with (go_at_call 51; refine HA.out.mono ?_; rintro e w2 ⟨rfl, u2, hc2, hon2, hlies2⟩)
      go_roundg (n - (t + 1))
      case measure => omega
      case rel =>
        refine ⟨t + 1, by omega, by go_num, u2, by rw [HT.out]; exact hc2, ?_, hwr.trans hon2 ?_⟩
        · intro g hg
          rcases hlies2 with h | ⟨g', h, hge⟩
          · exact hu g (by rw [← h]; exact hg)
          · rw [hg] at h; injection h with h; have := hwr.size; omega
        · intro b hb hblt
          rcases hb with rfl | hb
          · omega
          · have := hu b hb; omega
    · have ht : t = n := by omega
      subst ht
      rw [← hn, List.take_length] at hcu
      have HB := Lib.hid (CAppendBinary_any L u ks (.slice none 0 0) [] wr hcu hlen (Row.nil_ wr _ _) (by simp [Value.ownBlock]) (by simp [Value.ownBlock]) (by simp))
      clear hcu
      go_wp2_with (go_at_call 52; refine HB.out.mono ?_; rintro e w2 ⟨v2, rfl, hrow2, hon2, hlies2⟩)
      go_ret
      exact ⟨v2, rfl, hrow2, hwr.trans hon2 (fun k hk _ => by simp [Value.ownBlock] at hk)⟩
end Go.Proofs.YtoegfdndoeiolaaDoor
