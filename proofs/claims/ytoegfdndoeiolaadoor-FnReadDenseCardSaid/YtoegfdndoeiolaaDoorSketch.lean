/- Walks: a sketch is made, sparse or dense. Condition: the variable of the error holds an error. -/
import Derived.Test.YtoegfdndoeiolaaDoorEach
import Derived.Test.YtoegfdndoeiolaaDoorPlainReg
namespace Go.Proofs.YtoegfdndoeiolaaDoor
open Go.RowKit

/-- Block S is a sketch of p bits with these parts. -/
def SkB (w : World) (S p al : Nat) (tp lp rv : Value) : Prop := Blk w S 74 #[.int .u8 (p : Int), .int .u32 ((2 ^ p : Nat) : Int), .float .f64 al, tp, lp, rv]
/-- A dense sketch with the registers r. -/
structure Dense (w : World) (S p al : Nat) (rv : Value) (r : List Nat) : Prop where
  blk : SkB w S p al (.pointer none) (.pointer none) rv
  row : Row w 5 .u8 rv r
  len : r.length = 2 ^ p
theorem Dense.only {X : Nat → Prop} {w w' : World} {S p al : Nat} {rv : Value} {r : List Nat} (h : Dense w S p al rv r) (ho : Only X w w') (h1 : ¬ X S) (h2 : ∀ g, rv.ownBlock = some g → ¬ X g) : Dense w' S p al rv r :=
  ⟨Blk.only h.blk ho h1, h.row.only ho h2, h.len⟩
/-- A sparse sketch: the keys K that wait, the list ks. -/
structure Sparse (w : World) (S p al : Nat) (T M : Nat) (v : Value) (K : List Nat) (L : Nat) (u : Value) (ks : List Nat) : Prop where
  blk : SkB w S p al (.pointer (some ⟨T, 0, none⟩)) (.pointer (some ⟨L, 0, none⟩)) (.slice none 0 0)
  set : USet w T v M K
  list : CList w L u ks
theorem Sparse.only {X : Nat → Prop} {w w' : World} {S p al T M L : Nat} {v u : Value} {K ks : List Nat} (h : Sparse w S p al T M v K L u ks) (ho : Only X w w') (h1 : ¬ X S) (h2 : ¬ X T) (h3 : ¬ X M) (h4 : ∀ g, v.ownBlock = some g → ¬ X g)
    (h5 : ¬ X L) (h6 : ∀ g, u.ownBlock = some g → ¬ X g) : Sparse w' S p al T M v K L u ks :=
  ⟨Blk.only h.blk ho h1, h.set.only ho h2 h4 h3, h.list.only ho h5 h6⟩

theorem pow_bounds {p : Nat} (h1 : 4 ≤ p) (h2 : p ≤ 18) : 16 ≤ 2 ^ p ∧ 2 ^ p ≤ 262144 :=
  ⟨Nat.pow_le_pow_right (n := 2) (by omega) h1, Nat.pow_le_pow_right (n := 2) (by omega) h2⟩
theorem shl1_word {p m : Nat} (h2 : p ≤ 18) (hm : m = 2 ^ p) : (2 : Int) ^ p % 4294967296 = (m : Int) := by
  have hb : 2 ^ p ≤ 262144 := Nat.pow_le_pow_right (n := 2) (by omega) h2
  have e : (2 : Int) ^ p = ((2 ^ p : Nat) : Int) := by simp
  rw [e, ← hm]
  rw [← hm] at hb
  omega
theorem mk_u8 (m : Nat) (h : m ≤ 1099511627776) (k : IntKind) : ∀ W : World, (Instr.makeSlice 31 (.int k (m : Int)) (.int k (m : Int))).run Tryd.prog W = .ok (.slice (some ⟨W.heap.size, 0, none⟩) m m) (W.alloc (.cells (madeCells #[.int .u8 0] m) 5)) := fun W => by
  obtain ⟨i0, hi, hz0, hz1, hz2⟩ := info_parts info_u8
  have h := run_make_rowN (P := Tryd.prog) 31 5 i0 (.int .u8 0) Tryd.underlying31 hi hz0 k k m m (Nat.le_refl _) (by rw [hz2]; omega) (by omega) W
  rw [hz1, Nat.mul_one] at h
  exact h

set_option maxRecDepth 100000 in
theorem NewSketch_dense (p : Nat) (w : World) (h1 : 4 ≤ p) (h2 : p ≤ 18) :
    Calls Tryd.prog 34 #[.int .u8 p, .bool false] w fun e w' =>
      ∃ S al rv, e = .returned (.tuple #[.pointer (some ⟨S, 0, none⟩), .nilIface]) ∧ Dense w' S p al rv (List.replicate (2 ^ p) 0) ∧ w.heap.size ≤ S ∧ (∀ g, rv.ownBlock = some g → w.heap.size ≤ g) ∧ Only (fun _ => False) w w' := by
  have hpb := pow_bounds h1 h2
  obtain ⟨m, hm⟩ : ∃ m, m = 2 ^ p := ⟨_, rfl⟩
  have hsp := shl1_word h2 hm
  rw [← hm] at hpb
  have mk := mk_u8 m (by omega) .u32
  have HM := Lib.hid hm
  clear hm
  go_enter Tryd.func34, Tryd.ntmps34
  go_wp2_with (first
    | (go_at_call 54; refine (checkPrecision_ok p _ h1 h2).mono ?_; rintro e w' ⟨rfl, rfl⟩)
    | (go_at_call 55; refine (alpha_any _ _).mono ?_; rintro e w1 ⟨⟨al, rfl⟩, hw1⟩; have HW1 : Hid (Only (fun _ => False) w w1) := (by obtain ⟨n, rfl⟩ := hw1; exact (Only.refl _ w).drewN n); clear hw1))
  go_ret2
  have hs1 := HW1.out.size
  refine ⟨w1.heap.size, al, .slice (some ⟨w1.heap.size + 1, 0, none⟩) m m, rfl, ⟨?_, ?_, by simp⟩, hs1, fun g hg => own_ge hg (by simp; omega), (HW1.out.alloc _).alloc _⟩
  · unfold SkB
    rw [← HM.out]
    exact (Blk.new w1 _ _).alloc _
  · have h := row_made (w1.alloc (.cells #[.int .u8 p, .int .u32 m, .float .f64 al, .pointer none, .pointer none, .slice (some ⟨w1.heap.size + 1, 0, none⟩) m m] 74)) 5 .u8 m (by omega)
    rw [show (w1.alloc (.cells #[.int .u8 p, .int .u32 m, .float .f64 al, .pointer none, .pointer none, .slice (some ⟨w1.heap.size + 1, 0, none⟩) m m] 74)).heap.size = w1.heap.size + 1 from by simp] at h
    rw [← HM.out]
    exact h

theorem NewSketch_bad (p : Nat) (b : Bool) (w : World) (h : p < 4 ∨ 18 < p) (he : ErrP w) :
    Calls Tryd.prog 34 #[.int .u8 p, .bool b] w fun e w' =>
      (∃ a, e = .returned (.tuple #[.pointer none, .iface 152 (.pointer (some a))])) ∧ w = w' := by
  have HC := Lib.hid (checkPrecision_bad p w h he)
  clear h
  go_enter Tryd.func34, Tryd.ntmps34
  go_wp2_with (go_at_call 54; refine HC.out.mono ?_; rintro e w' ⟨⟨a, rfl⟩, rfl⟩)
  go_ret2
  exact ⟨⟨a, rfl⟩, rfl⟩

set_option maxRecDepth 100000 in
theorem NewSketch_sparse (p : Nat) (w : World) (h1 : 4 ≤ p) (h2 : p ≤ 18) :
    Calls Tryd.prog 34 #[.int .u8 p, .bool true] w fun e w' =>
      ∃ S al T M v L u, e = .returned (.tuple #[.pointer (some ⟨S, 0, none⟩), .nilIface]) ∧ Sparse w' S p al T M v [] L u [] ∧ w.heap.size ≤ S ∧ w.heap.size ≤ T ∧ w.heap.size ≤ M ∧ w.heap.size ≤ L ∧
        (∀ g, v.ownBlock = some g → w.heap.size ≤ g) ∧ (∀ g, u.ownBlock = some g → w.heap.size ≤ g) ∧ Only (fun _ => False) w w' := by
  have hpb := pow_bounds h1 h2
  obtain ⟨m, hm⟩ : ∃ m, m = 2 ^ p := ⟨_, rfl⟩
  have hsp := shl1_word h2 hm
  rw [← hm] at hpb
  have HM := Lib.hid hm
  clear hm
  go_enter Tryd.func34, Tryd.ntmps34
  go_wp2_with (first
    | (go_at_call 54; refine (checkPrecision_ok p _ h1 h2).mono ?_; rintro e w' ⟨rfl, rfl⟩)
    | (go_at_call 55; refine (alpha_any _ _).mono ?_; rintro e w1 ⟨⟨al, rfl⟩, hw1⟩; have HW1 : Hid (Only (fun _ => False) w w1) := (by obtain ⟨n, rfl⟩ := hw1; exact (Only.refl _ w).drewN n); clear hw1)
    | (go_at_call 56; refine (makeSet_any 0 _).mono ?_; rintro e w2 ⟨T, M, rfl, hT, hM, hset, hon2⟩
       have hb2 := Lib.hid ((Blk.new w1 74 #[.int .u8 p, .int .u32 m, .float .f64 al, .pointer none, .pointer none, .slice none 0 0]).only hon2 (fun hf => hf))
       have f2 := hb2.out.frozen 3
       have c2 : w2.cell? ⟨w1.heap.size, 3, none⟩ = some (.pointer none) := hb2.out.cell 3)
    | (go_at_call 46; refine (newCompressedList_any 0 _ (by omega)).mono ?_; rintro e w3 ⟨L, u, rfl, hL, hu, hlist, hon3⟩
       have hb3 := Lib.hid ((hb2.out.set_ 3 (.pointer (some ⟨T, 0, none⟩))).only hon3 (fun hf => hf))
       have f3 := hb3.out.frozen 4
       have c3 : w3.cell? ⟨w1.heap.size, 4, none⟩ = some (.pointer none) := hb3.out.cell 4))
  go_ret2
  have hs1 := HW1.out.size
  have hT1 : w1.heap.size + 1 ≤ T := by simpa using hT
  have hM1 : w1.heap.size + 1 ≤ M := by simpa using hM
  have hs2 : w1.heap.size + 1 ≤ w2.heap.size := by simpa using hon2.size
  have hL1 : w2.heap.size ≤ L := by simpa [World.setCell] using hL
  have hu1 : ∀ g, u.ownBlock = some g → w2.heap.size ≤ g := fun g hg => by simpa [World.setCell] using hu g hg
  have hset2 : USet (w2.setCell ⟨w1.heap.size, 3, none⟩ (.pointer (some ⟨T, 0, none⟩))) T (.slice none 0 0) M [] := hset.only ((Only.refl (fun b => b = w1.heap.size) w2).setCell (fun _ => rfl) _) (by omega) (by simp [Value.ownBlock]) (by omega)
  have hset3 : USet w3 T (.slice none 0 0) M [] := hset2.only hon3 (fun hf => hf) (by simp [Value.ownBlock]) (fun hf => hf)
  have hO : Only (fun b => b = w1.heap.size) w3 (w3.setCell ⟨w1.heap.size, 4, none⟩ (.pointer (some ⟨L, 0, none⟩))) := (Only.refl (fun b => b = w1.heap.size) w3).setCell (fun _ => rfl) _
  refine ⟨w1.heap.size, al, T, M, .slice none 0 0, L, u, rfl, ⟨?_, hset3.only hO (by omega) (by simp [Value.ownBlock]) (by omega), hlist.only hO (by omega) (fun g hg he => by have := hu1 g hg; omega)⟩, hs1, by omega, by omega, by omega, by simp [Value.ownBlock], fun g hg => by have := hu1 g hg; omega, ?_⟩
  · unfold SkB
    rw [← HM.out]
    exact hb3.out.set_ 4 (.pointer (some ⟨L, 0, none⟩))
  · have h2 : Only (fun _ => False) w w2 := (HW1.out.alloc _).trans hon2 (fun _ hf _ => hf)
    have h3 : Only (fun _ => False) w w3 := (h2.setCell (fun h => by have : w1.heap.size < w.heap.size := h; omega) _).trans hon3 (fun _ hf _ => hf)
    exact h3.setCell (fun h => by have : w1.heap.size < w.heap.size := h; omega) _
end Go.Proofs.YtoegfdndoeiolaaDoor
