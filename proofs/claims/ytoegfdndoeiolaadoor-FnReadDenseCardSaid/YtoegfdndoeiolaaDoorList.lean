/- Walks: the compressed list of keys: made, appended to. Conditions: keys below 2^32, each not below the one before it; fewer than 2^31 keys. -/
import Derived.Test.YtoegfdndoeiolaaDoorLawVar
import Derived.StillTailTactics
import Derived.Deep.RegionWith
import Derived.Deep.RegionLaw
import Derived.Deep.RegionHeld3
import Derived.Laws.MakeOwn
import Derived.Deep.OwnRows
namespace Go.Proofs.YtoegfdndoeiolaaDoor
open Go.RowKit

/-- Block L is a compressed list of the keys ks; v is its slice of bytes. -/
def CList (w : World) (L : Nat) (v : Value) (ks : List Nat) : Prop :=
  Blk w L 106 #[.int .u32 (ks.length : Nat), .int .u32 (lastOr 0 ks : Nat), v] ∧ Row w 5 .u8 v (encFrom 0 ks) ∧ ∀ k ∈ ks, k < 4294967296
theorem CList.ne {w : World} {L : Nat} {v : Value} {ks : List Nat} (h : CList w L v ks) : v.ownBlock ≠ some L := h.2.1.blk_ne h.1 (by decide)
theorem CList.only {S : Nat → Prop} {w w' : World} {L : Nat} {v : Value} {ks : List Nat} (h : CList w L v ks) (ho : Only S w w') (h1 : ¬ S L) (h2 : ∀ g, v.ownBlock = some g → ¬ S g) : CList w' L v ks :=
  ⟨h.1.only ho h1, h.2.1.only ho h2, h.2.2⟩

set_option maxHeartbeats 400000 in
set_option maxRecDepth 100000 in
theorem CAppend_any (L : Nat) (v : Value) (ks : List Nat) (k : Nat) (w : World) (h : CList w L v ks) (hk : k < 4294967296) (hrise : lastOr 0 ks ≤ k) (hlen : ks.length < 2147483648) :
    Calls Tryd.prog 51 #[.pointer (some ⟨L, 0, none⟩), .int .u32 k] w fun e w' => e = .returned (.tuple #[]) ∧
      ∃ v', CList w' L v' (ks ++ [k]) ∧ Only (fun b => b = L ∨ v.ownBlock = some b) w w' ∧ Lies w v v' := by
  obtain ⟨hb, hr, hks⟩ := h
  have c0 : w.cell? ⟨L, 0, none⟩ = some (.int .u32 (ks.length : Nat)) := hb.cell 0
  have c1 : w.cell? ⟨L, 1, none⟩ = some (.int .u32 (lastOr 0 ks : Nat)) := hb.cell 1
  have c2 : w.cell? ⟨L, 2, none⟩ = some v := hb.cell 2
  have f0 := hb.frozen 0
  have f1 := hb.frozen 1
  have f2 := hb.frozen 2
  have hne := CList.ne ⟨hb, hr, hks⟩
  obtain ⟨wx, hwx⟩ : ∃ wx, wx = w.setCell ⟨L, 0, none⟩ (.int .u32 ((ks.length : Int) + 1)) := ⟨_, rfl⟩
  have hbx : Blk wx L 106 #[.int .u32 ((ks.length : Int) + 1), .int .u32 (lastOr 0 ks : Nat), v] := by rw [hwx]; exact hb.set_ 0 _
  have hox : Only (fun b => b = L ∨ v.ownBlock = some b) w wx := by rw [hwx]; exact (Only.refl _ w).setCell (fun _ => .inl rfl) _
  have hrx : Row wx 5 .u8 v (encFrom 0 ks) := by rw [hwx]; exact hr.only ((Only.refl (fun b => b = L) w).setCell (fun _ => rfl) _) (fun g hg hgl => hne (by rw [hg, hgl]))
  have HX := Lib.hid hwx
  have hll : (encFrom 0 ks).length < 1099511627776 := by have := encFrom_le 0 ks hks; omega
  have HB := Lib.hid hbx
  have HR := Lib.hid hrx
  have HK := Lib.hid (⟨hb, hr, hks⟩ : Blk w L _ _ ∧ Row w _ _ v _ ∧ _)
  clear hbx hrx hb hr hks
  go_enter Tryd.func51, Tryd.ntmps51
  go_wp2_with fail
  rw [← hwx]
  clear c0 c1 c2 f0 f1 f2 hwx
  have c1x : wx.cell? ⟨L, 1, none⟩ = some (.int .u32 (lastOr 0 ks : Nat)) := HB.out.cell 1
  have c2x : wx.cell? ⟨L, 2, none⟩ = some v := HB.out.cell 2
  obtain ⟨d, hd⟩ : ∃ d : Nat, d = k - lastOr 0 ks := ⟨_, rfl⟩
  have hs1 : (k : Int) - ((lastOr 0 ks : Nat) : Int) = (d : Int) := by omega
  have hs2 : IntKind.u32.wrap ((d : Nat) : Int) = (d : Int) := by rw [IntKind.wrap_u32']; omega
  have hd32 : d < 4294967296 := by omega
  have HC := Lib.hid (Append_any v (encFrom 0 ks) d wx.drew hd32 (HR.out.only ((Only.refl (fun _ => False) wx).drew) (fun _ _ hf => hf)) hll)
  have HD := Lib.hid hd
  clear hd
  go_region_law (first | (go_simp; go_at_call 53; refine HC.out.mono ?_; rintro e w1 ⟨v1, rfl, hrow1, hon1, hlies1⟩; obtain ⟨A1, cp1, rfl, _, _, _, _⟩ := hrow1.nums; have hb1 := Lib.hid (HB.out.drew.only hon1 hne); have f2x := hb1.out.frozen 2; have c2y : w1.cell? ⟨L, 2, none⟩ = some v := hb1.out.cell 2; have f1x := hb1.out.frozen 1; have c1y : w1.cell? ⟨L, 1, none⟩ = some (.int .u32 (lastOr 0 ks : Nat)) := hb1.out.cell 1))
  all_goals
    go_wp2_with fail
    go_end0
    have hne1 : (Value.slice A1 ((encFrom 0 ks).length + (varint d).length) cp1).ownBlock ≠ some L := by
      intro he
      rw [List.length_append] at hlies1
      rcases hlies1 with hl | ⟨g, hl, hge⟩
      · exact hne (hl.symm.trans he)
      · rw [he] at hl
        injection hl with hl
        have hlt := HB.out.drew.lt
        rw [← hl] at hge
        exact absurd hge (by simpa using hlt)
    rw [List.length_append] at hrow1 hlies1
    refine ⟨rfl, .slice A1 ((encFrom 0 ks).length + (varint d).length) cp1, ⟨?_, ?_, ?_⟩, ?_, ?_⟩
    · have h1 := (hb1.out.set_ 2 (.slice A1 ((encFrom 0 ks).length + (varint d).length) cp1)).set_ 1 (.int .u32 k)
      rw [List.length_append, lastOr_snoc]
      exact h1
    · rw [encFrom_snoc, ← HD.out]
      exact hrow1.only (((Only.refl (fun b => b = L) w1).setCell (fun _ => rfl) _).setCell (fun _ => rfl) _) (fun g hg hgl => hne1 (by rw [hg, hgl]))
    · intro c hc
      rcases List.mem_append.1 hc with hc | hc
      · exact HK.out.2.2 c hc
      · rw [List.mem_singleton] at hc; subst hc; exact hk
    · exact ((hox.drew.trans hon1 (fun b hb _ => .inr hb)).setCell (fun _ => .inl rfl) _).setCell (fun _ => .inl rfl) _
    · rcases hlies1 with hl | ⟨g, hl, hge⟩
      · exact .inl hl
      · exact .inr ⟨g, hl, by have := hox.size; exact Nat.le_trans this hge⟩

theorem run_make_rowN {P : Program} (t e : TypeId) (i : TypeInfo) (z : Value) (ht : P.underlying t = some (.slice e)) (hi : P.info? e = some i) (hz : i.zero = some z)
    (kl kc : IntKind) (n c : Nat) (hnc : n ≤ c) (hbytes : i.bytes * c ≤ 281474976710656) (h63 : c ≤ 9223372036854775807) (w : World) :
    (Instr.makeSlice t (.int kl (n : Int)) (.int kc (c : Int))).run P w = .ok (.slice (some ⟨w.heap.size, 0, none⟩) n c) (w.alloc (.cells (madeCells z.cells (c * i.size)) e)) := by
  have hb : (i.bytes : Int) * (c : Int) ≤ 281474976710656 := by
    have h : ((i.bytes * c : Nat) : Int) ≤ 281474976710656 := by omega
    rwa [Int.natCast_mul] at h
  have hr := run_make (P := P) w t e i z ht hi hz kl kc n c (by omega) (by omega) hb (by omega)
  simp only [Int.toNat_natCast] at hr
  exact hr

set_option maxRecDepth 100000 in
theorem newCompressedList_any (c : Nat) (w : World) (hc : c ≤ 1099511627776) :
    Calls Tryd.prog 46 #[.int .i64 c] w fun e w' =>
      ∃ L v, e = .returned (.pointer (some ⟨L, 0, none⟩)) ∧ w.heap.size ≤ L ∧ (∀ g, v.ownBlock = some g → w.heap.size ≤ g) ∧ CList w' L v [] ∧ Only (fun _ => False) w w' := by
  obtain ⟨i0, hi, hz0, hz1, hz2⟩ := info_parts info_u8
  have hmk : ∀ W : World, (Instr.makeSlice 88 (.int .i64 0) (.int .i64 (c : Int))).run Tryd.prog W = .ok (.slice (some ⟨W.heap.size, 0, none⟩) 0 c) (W.alloc (.cells (madeCells #[.int .u8 0] c) 5)) := fun W => by
    have h := run_make_rowN (P := Tryd.prog) 88 5 i0 (.int .u8 0) Tryd.underlying88 hi hz0 .i64 .i64 0 c (Nat.zero_le _) (by rw [hz2]; omega) (by omega) W
    rw [hz1, Nat.mul_one] at h
    exact h
  go_enter Tryd.func46, Tryd.ntmps46
  go_wp2
  go_ret
  refine ⟨w.heap.size, .slice (some ⟨w.heap.size + 1, 0, none⟩) 0 c, rfl, Nat.le_refl _, ?_, ⟨?_, ?_, ?_⟩, ((Only.refl _ w).alloc _).alloc _⟩
  · intro g hg
    simp [Value.ownBlock] at hg
    omega
  · exact (Blk.new w _ _).alloc _
  · have h := World.ownsRow_made (base := 0) (e := 5) (size := 1) (w.alloc (.cells #[.int .u32 0, .int .u32 0, .slice (some ⟨w.heap.size + 1, 0, none⟩) 0 c] 106)) (madeCells #[.int .u8 0] c) c (Nat.zero_le _) (by unfold maxLen; omega) (by rw [size_madeCells, Nat.mul_one])
    have hs : (w.alloc (.cells #[.int .u32 0, .int .u32 0, .slice (some ⟨w.heap.size + 1, 0, none⟩) 0 c] 106)).heap.size = w.heap.size + 1 := by simp
    rw [hs] at h
    exact h
  · intro k hk; cases hk
end Go.Proofs.YtoegfdndoeiolaaDoor
