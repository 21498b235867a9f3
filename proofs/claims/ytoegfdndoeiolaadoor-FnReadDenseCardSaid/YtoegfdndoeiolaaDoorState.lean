/- Walks: a dense sketch's state is told. No condition. -/
import Derived.Test.YtoegfdndoeiolaaDoorSketch
namespace Go.Proofs.YtoegfdndoeiolaaDoor
open Go.RowKit

theorem sparse_no (S : Nat) (w : World) (h : w.cell? ⟨S, 4, none⟩ = some (.pointer none)) :
    Calls Tryd.prog 61 #[.pointer (some ⟨S, 0, none⟩)] w fun e w' => e = .returned (.bool false) ∧ w = w' := by
  go_enter Tryd.func61, Tryd.ntmps61
  go_wp2
  go_ret
  exact ⟨rfl, rfl⟩
theorem sparse_yes (S : Nat) (a : Addr) (w : World) (h : w.cell? ⟨S, 4, none⟩ = some (.pointer (some a))) :
    Calls Tryd.prog 61 #[.pointer (some ⟨S, 0, none⟩)] w fun e w' => e = .returned (.bool true) ∧ w = w' := by
  go_enter Tryd.func61, Tryd.ntmps61
  go_wp2
  go_ret
  exact ⟨rfl, rfl⟩

/-- What a state's cells hold behind an append onto nothing, and behind the store of what the variable held. -/
theorem state_keep {w2 w3 : World} {S q : Nat} {a0 a1 a2 a3 a4 a5 : Value} (hb : Blk w2 S 74 #[a0, a1, a2, a3, a4, a5]) (hq : Blk w2 q 24 #[.slice none 0 0]) (ho : Only (fun g => (Value.slice none 0 0).ownBlock = some g) w2.drew w3) (hne : S ≠ q) :
    (w3.cell? ⟨S, 0, none⟩ = some a0 ∧ w3.cell? ⟨S, 4, none⟩ = some a4 ∧ w3.cell? ⟨S, 5, none⟩ = some a5 ∧ w3.cell? ⟨q, 0, none⟩ = some (.slice none 0 0) ∧ w3.frozen? ⟨q, 0, none⟩ = false) ∧
    ((w3.setCell ⟨q, 0, none⟩ (.slice none 0 0)).cell? ⟨S, 0, none⟩ = some a0 ∧ (w3.setCell ⟨q, 0, none⟩ (.slice none 0 0)).cell? ⟨S, 4, none⟩ = some a4 ∧ (w3.setCell ⟨q, 0, none⟩ (.slice none 0 0)).cell? ⟨S, 5, none⟩ = some a5 ∧
      (w3.setCell ⟨q, 0, none⟩ (.slice none 0 0)).cell? ⟨q, 0, none⟩ = some (.slice none 0 0) ∧ (w3.setCell ⟨q, 0, none⟩ (.slice none 0 0)).frozen? ⟨q, 0, none⟩ = false) := by
  have hb3 : Blk w3 S 74 #[a0, a1, a2, a3, a4, a5] := hb.drew.only ho (by simp [Value.ownBlock])
  have hq3 : Blk w3 q 24 #[.slice none 0 0] := hq.drew.only ho (by simp [Value.ownBlock])
  have hb4 : Blk (w3.setCell ⟨q, 0, none⟩ (.slice none 0 0)) S 74 #[a0, a1, a2, a3, a4, a5] := hb3.far hne _
  have hq4 := hq3.set_ 0 (.slice none 0 0)
  exact ⟨⟨hb3.cell 0, hb3.cell 4, hb3.cell 5, hq3.cell 0, hq3.frozen 0⟩, hb4.cell 0, hb4.cell 4, hb4.cell 5, hq4.cell 0, hq4.frozen 0⟩

set_option maxHeartbeats 1000000 in
set_option maxRecDepth 100000 in
theorem ZZState_dense (S p al : Nat) (rv : Value) (r : List Nat) (w : World) (h : Dense w S p al rv r) (hl : r.length < 1099511627776) :
    Calls Tryd.prog 37 #[.pointer (some ⟨S, 0, none⟩)] w fun e w' =>
      ∃ v', e = .returned (.tuple #[.int .u8 p, .bool false, .slice none 0 0, .slice none 0 0, v']) ∧ Row w' 5 .u8 v' r ∧ (∀ g, v'.ownBlock = some g → w.heap.size ≤ g) ∧ Only (fun _ => False) w w' := by
  have hmf := hmf
  obtain ⟨i0, hi, hz0, hz1, hz2⟩ := info_parts info_u8
  have H := Lib.hid h
  obtain ⟨A, cc, rfl, hcc, hn, hA, hAn⟩ := h.row.nums
  have hb : Blk w S 74 #[.int .u8 (p : Int), .int .u32 ((2 ^ p : Nat) : Int), .float .f64 al, .pointer none, .pointer none, .slice A r.length cc] := h.blk
  have hSlt : S < w.heap.size := hb.lt
  have c3 : w.cell? ⟨S, 3, none⟩ = some (.pointer none) := hb.cell 3
  have HN := Lib.hid hn
  have HB := Lib.hid hb
  clear h hn hb
  go_enter Tryd.func37, Tryd.ntmps37
  have hoa : Only (fun _ => False) w (w.alloc (.cells #[.slice none 0 0] 24)) := (Only.refl _ w).alloc _
  have HFE := Lib.hid (fun fn first cap => sForEach_nil fn first cap (w.alloc (.cells #[.slice none 0 0] 24)))
  have HOA := Lib.hid hoa
  clear hoa
  go_wp2_with (go_at_call 59; refine (HFE.out _ _ _).mono ?_; rintro e w2 ⟨rfl, hon2⟩
               have hw2 := Lib.hid (HOA.out.trans hon2 (fun _ hf _ => hf))
               have hb2 := Lib.hid (HB.out.only hw2.out (fun hf => hf))
               have hq2 := Lib.hid ((Blk.new w 24 #[.slice none 0 0]).only hon2 (fun hf => hf))
               have c4 : w2.cell? ⟨S, 4, none⟩ = some (.pointer none) := hb2.out.cell 4
               have c5 : w2.cell? ⟨S, 5, none⟩ = some (.slice A r.length cc) := hb2.out.cell 5
               have c0 : w2.cell? ⟨S, 0, none⟩ = some (.int .u8 (p : Int)) := hb2.out.cell 0
               have cq : w2.cell? ⟨w.heap.size, 0, none⟩ = some (.slice none 0 0) := hq2.out.cell 0
               have fq := hq2.out.frozen 0)
  have E : Hid (∀ W, Only (fun _ => False) w2 W → Nums W w.heap.size .u8 A r.length r) := fun W hW => (HN.out.only (Nat.le_refl _) hw2.out (fun _ _ hf => hf)).keep fun q hq _ => hW.cell (Nat.lt_of_lt_of_le hq hw2.out.size) (fun hf => hf)
  have hSq : S ≠ w.heap.size := by omega
  clear hon2
  go_region_held3 (fun w' => w'.cell? ⟨S, 0, none⟩ = some (.int .u8 (p : Int)) ∧ w'.cell? ⟨S, 4, none⟩ = some (.pointer none) ∧ w'.cell? ⟨S, 5, none⟩ = some (.slice A r.length cc) ∧ w'.cell? ⟨w.heap.size, 0, none⟩ = some (.slice none 0 0) ∧ w'.frozen? ⟨w.heap.size, 0, none⟩ = false)
    (first | go_keep | exact ⟨k0, k4, k5, kq, kf⟩ | exact ⟨s0, s4, s5, sq, sf⟩)
    (first
      | (go_at_call 61; refine (sparse_no S _ (by simp [*])).mono ?_; rintro e w' ⟨rfl, rfl⟩)
      | (refine step_append_new (w0 := w) (by rfl) (.const (.slice none 0 0)) (.tmp 42) 31 (by rfl) 5 i0 (.int .u8 0) 1 Tryd.underlying31 hi hz0 hz1 hz2 rfl .u8 (.slice none 0 0) [] (by rfl) (Row.nil_ _ _ _) w.heap.size A r.length cc r (by rfl) (E.out _ ((Only.refl _ w2).drew)) (by simp; omega) (by simp; omega) (hw2.out.drew) (by simp [Value.ownBlock]) ?_
         intro v3 w3 hrow3 hon3 hw3 hnew3 hkeep3
         obtain ⟨⟨k0, k4, k5, kq, kf⟩, s0, s4, s5, sq, sf⟩ := state_keep hb2.out hq2.out hon3 hSq)
      | fail)
  go_wp2_with fail
  refine bodyPost_ret (v := .tuple #[.int .u8 p, .bool false, .slice none 0 0, .slice none 0 0, v3]) (by simp [results, Tryd.results37, go_sem, sq]) rfl ⟨v3, rfl, ?_, hnew3, hw3.setCell (fun h => absurd h (Nat.lt_irrefl _)) _⟩
  refine Row.only hrow3 ((Only.refl (fun b => b = w.heap.size) w3).setCell (fun _ => rfl) _) (fun g hg he => ?_)
  exact hrow3.blk_ne (hq2.out.drew.only hon3 (by simp [Value.ownBlock])) (by decide) (by rw [hg, he])

set_option maxRecDepth 100000 in
theorem regs_dense (S p al : Nat) (rv : Value) (r : List Nat) (w : World) (h : Dense w S p al rv r) (hl : r.length < 1099511627776) :
    Calls Tryd.prog 35 #[.pointer (some ⟨S, 0, none⟩)] w fun e w' =>
      ∃ v', e = .returned v' ∧ Row w' 5 .u8 v' r ∧ (∀ g, v'.ownBlock = some g → w.heap.size ≤ g) ∧ Only (fun _ => False) w w' := by
  obtain ⟨i0, hi, hz0, hz1, hz2⟩ := info_parts info_u8
  have HS : Hid (∀ W, Only (fun _ => False) w W → Calls Tryd.prog 37 #[.pointer (some ⟨S, 0, none⟩)] W fun e w' =>
      ∃ v', e = .returned (.tuple #[.int .u8 p, .bool false, .slice none 0 0, .slice none 0 0, v']) ∧ Row w' 5 .u8 v' r ∧ (∀ g, v'.ownBlock = some g → W.heap.size ≤ g) ∧ Only (fun _ => False) W w') := fun W hW =>
    ZZState_dense S p al rv r W (h.only hW (fun hf => hf) (fun _ _ hf => hf)) hl
  clear h
  go_enter Tryd.func35, Tryd.ntmps35
  go_wp2_with fail
  refine (HS.out w (Only.refl _ w)).mono ?_
  rintro e w1 ⟨v1, rfl, _, _, hon1⟩
  have HON1 := Lib.hid hon1
  have HS1 := Lib.hid (HS.out w1 hon1)
  clear hon1
  go_wp2_with (first
    | (go_at_call 37; refine HS1.out.mono ?_; rintro e w2 ⟨v2, rfl, hrow2, hnew2, hon2⟩
       obtain ⟨A2, c2, rfl, _, hn2, _, _⟩ := hrow2.nums
       have hr2 := row_empty w2 5 .u8
       have hn2' : Nums (w2.alloc (.cells #[] 5)) w2.heap.size .u8 A2 r.length r := hn2.only (Nat.le_refl _) ((Only.refl (fun _ => False) w2).alloc _) (fun _ _ hf => hf)
       have hw2 := Lib.hid ((HON1.out.trans hon2 (fun _ hf _ => hf)).alloc (.cells #[] 5))
       have hs2 : w.heap.size ≤ w2.heap.size := (HON1.out.trans hon2 (fun _ hf _ => hf)).size
       clear hrow2 hn2 hnew2 hon2)
    | (at_builtin; go_must (refine wpList_append_nums rfl (.tmp 32) (.tmp 33) 31 rfl 5 i0 (.int .u8 0) 1 Tryd.underlying31 hi hz0 hz1 hz2 rfl .u8 _ [] rfl hr2 w2.heap.size A2 r.length c2 r rfl hn2' ?c4 ?c5 ?_)))
  case c4 => simp; omega
  case c5 => simp; omega
  intro v3 w3 hrow3 hon3 hl3
  go_wp2
  go_ret
  refine ⟨v3, rfl, hrow3, fun g hg => ?_, hw2.out.trans hon3 (fun g hg hlt => by have h2 : w2.heap.size ≤ g := own_ge hg (Nat.le_refl _); omega)⟩
  rcases hl3 with h | h <;> rw [hg] at h
  · have h2 : w2.heap.size ≤ g := own_ge h.symm (Nat.le_refl _)
    omega
  · injection h with h
    have e : (w2.alloc (.cells #[] 5)).heap.size = w2.heap.size + 1 := by simp
    omega
end Go.Proofs.YtoegfdndoeiolaaDoor
