/- Walks: dense bytes of the second version are read. Conditions: the bytes are bytes; the variables of the errors hold errors. -/
import Derived.Test.YtoegfdndoeiolaaDoorDenseIO
namespace Go.Proofs.YtoegfdndoeiolaaDoor
open Go.RowKit

theorem blk_cells {w : World} {g : Nat} {t : TypeId} {z0 z1 z2 z3 z4 z5 : Value} (h : Blk w g t #[z0, z1, z2, z3, z4, z5]) :
    w.cell? ⟨g, 0, none⟩ = some z0 ∧ w.cell? ⟨g, 1, none⟩ = some z1 ∧ w.cell? ⟨g, 2, none⟩ = some z2 ∧ w.cell? ⟨g, 3, none⟩ = some z3 ∧ w.cell? ⟨g, 4, none⟩ = some z4 ∧ w.cell? ⟨g, 5, none⟩ = some z5 :=
  ⟨h.cell 0, h.cell 1, h.cell 2, h.cell 3, h.cell 4, h.cell 5⟩
theorem blk_frozen {w : World} {g : Nat} {t : TypeId} {cs : Array Value} (h : Blk w g t cs) :
    w.frozen? ⟨g, 0, none⟩ = false ∧ w.frozen? ⟨g, 1, none⟩ = false ∧ w.frozen? ⟨g, 2, none⟩ = false ∧ w.frozen? ⟨g, 3, none⟩ = false ∧ w.frozen? ⟨g, 4, none⟩ = false ∧ w.frozen? ⟨g, 5, none⟩ = false :=
  ⟨h.frozen 0, h.frozen 1, h.frozen 2, h.frozen 3, h.frozen 4, h.frozen 5⟩

theorem set6 {w : World} {g : Nat} {t : TypeId} {z0 z1 z2 z3 z4 z5 : Value} (h : Blk w g t #[z0, z1, z2, z3, z4, z5]) (a0 a1 a2 a3 a4 a5 : Value) :
    Blk ((((((w.setCell ⟨g, 0, none⟩ a0).setCell ⟨g, 1, none⟩ a1).setCell ⟨g, 2, none⟩ a2).setCell ⟨g, 3, none⟩ a3).setCell ⟨g, 4, none⟩ a4).setCell ⟨g, 5, none⟩ a5) g t #[a0, a1, a2, a3, a4, a5] :=
  (((((h.set_ 0 a0).set_ 1 a1).set_ 2 a2).set_ 3 a3).set_ 4 a4).set_ 5 a5
theorem only6 (w : World) (g : Nat) (a0 a1 a2 a3 a4 a5 : Value) :
    Only (fun b => b = g) w ((((((w.setCell ⟨g, 0, none⟩ a0).setCell ⟨g, 1, none⟩ a1).setCell ⟨g, 2, none⟩ a2).setCell ⟨g, 3, none⟩ a3).setCell ⟨g, 4, none⟩ a4).setCell ⟨g, 5, none⟩ a5) :=
  ((((((Only.refl (fun b => b = g) w).setCell (fun _ => rfl) _).setCell (fun _ => rfl) _).setCell (fun _ => rfl) _).setCell (fun _ => rfl) _).setCell (fun _ => rfl) _).setCell (fun _ => rfl) _

/-- The bytes of a dense sketch. -/
def denseBytes (p : Nat) (bs : List Nat) : List Nat := 2 :: p :: 0 :: 0 :: (be32 (2 ^ p) ++ bs)

set_option maxHeartbeats 2000000 in
set_option maxRecDepth 100000 in
theorem UnmDense_any (S0 p : Nat) (z0 z1 z2 z3 z4 z5 : Value) (ad : Addr) (n c : Nat) (bs : List Nat) (w : World) (hb0 : Blk w S0 74 #[z0, z1, z2, z3, z4, z5]) (hbs : Nums w w.heap.size .u8 (some ad) n (denseBytes p bs)) (hnc : n ≤ c) (hc : c ≤ 9223372036854775807)
    (h256 : ∀ b ∈ bs, b < 256) (hlen : bs.length = 2 ^ p) (h1 : 4 ≤ p) (h2 : p ≤ 18) (he : Errs w) :
    Calls Tryd.prog 43 #[.pointer (some ⟨S0, 0, none⟩), .slice (some ad) n c] w fun e w' =>
      (e = .returned .nilIface ∧ (∀ b ∈ bs, b ≤ 65 - p) ∧ ∃ al rv, Dense w' S0 p al rv bs ∧ (∀ g, rv.ownBlock = some g → w.heap.size ≤ g) ∧ Only (fun b => b = S0) w w') ∨
      (Fails e ∧ (¬ ∀ b ∈ bs, b ≤ 65 - p) ∧ Only (fun _ => False) w w') := by
  have hpb := pow_bounds h1 h2
  obtain ⟨m, hm⟩ : ∃ m, m = 2 ^ p := ⟨_, rfl⟩
  have hsp := shl1_word h2 hm
  have hnl : n = m + 8 := by have := hbs.1; simp only [denseBytes, List.length_cons, List.length_append, be32_len, hlen] at this; omega
  have q0 := hbs.at_ (i := 0) (by omega)
  have q1 := hbs.at_ (i := 1) (by omega)
  have q2 := hbs.at_ (i := 2) (by omega)
  have q3 := hbs.at_ (i := 3) (by omega)
  obtain ⟨_, e0, _, d0⟩ := q0
  obtain ⟨_, e1, _, d1⟩ := q1
  obtain ⟨_, e2, _, d2⟩ := q2
  obtain ⟨_, e3, _, d3⟩ := q3
  injection e0 with e0; injection e1 with e1; injection e2 with e2; injection e3 with e3
  subst e0; subst e1; subst e2; subst e3
  have c0 : w.cell? ad = some (.int .u8 2) := d0
  have c1 : w.cell? ⟨ad.block, ad.off + 1, none⟩ = some (.int .u8 (p : Int)) := d1
  have c2 : w.cell? ⟨ad.block, ad.off + 2, none⟩ = some (.int .u8 0) := d2
  have c3 : w.cell? ⟨ad.block, ad.off + 3, none⟩ = some (.int .u8 0) := d3
  have hd4 := hbs.drop (m := 4) (by omega)
  rw [show (denseBytes p bs).drop 4 = be32 (2 ^ p) ++ bs from rfl, ← hm] at hd4
  have hd8 := hbs.drop (m := 8) (by omega)
  rw [show (denseBytes p bs).drop 8 = bs from rfl] at hd8
  rw [← hm] at hpb
  have HBE := Lib.hid (be32_quiet _ _ (c - 4) _ m _ w hd4 (by omega))
  have HB8 := Lib.hid hd8
  have HE := Lib.hid he
  have HB0 := Lib.hid hb0
  have HM := Lib.hid hm
  have HLEN := Lib.hid hlen
  have H256 := Lib.hid h256
  have i1 : (8 : Int) ≤ (n : Int) := by omega
  have i2 : (8 : Int) ≤ (c : Int) := by omega
  have i3 : (n : Int) ≤ (c : Int) := by omega
  have i4 : ¬ (n : Int) < 8 := by omega
  have i5 : ¬ c = 8 := by omega
  have i6 : n - 8 = m := by omega
  clear d0 d1 d2 d3 hd4 hd8 hbs he hb0 hm hlen h256
  go_enter Tryd.func43, Tryd.ntmps43
  go_wp2_with (first
    | (go_at_call 54; refine (checkPrecision_ok p _ h1 h2).mono ?_; rintro e w' ⟨rfl, rfl⟩)
    | (go_at_call 67; refine (HBE.out 0).mono ?_; rintro e w' ⟨rfl, k, rfl⟩)
    | (go_at_call 71; refine (exactLen_ok _ m _).mono ?_; rintro e w' ⟨rfl, rfl⟩))
  refine (newDense_any p _ h1 h2).mono ?_
  rintro e w1 ⟨S, al, rv, rfl, hd, hS, hrv, hon⟩
  have hon' : Only (fun _ => False) w w1 := ((Only.refl _ w).drewN _).trans hon (fun _ hf _ => hf)
  have hS' : w.heap.size ≤ S := hS
  have hrv' : ∀ g, rv.ownBlock = some g → w.heap.size ≤ g := hrv
  have hE1 : Errs w1 := HE.out.only hon' (fun hf => hf) (fun hf => hf)
  have hn8 : Nums w1 w.heap.size .u8 (some ⟨ad.block, ad.off + 8, none⟩) m bs := by rw [← i6]; exact HB8.out.only (Nat.le_refl _) hon' (fun _ _ hf => hf)
  have hidlt : 3 < w.heap.size := by
    obtain ⟨_, b, hb⟩ := HE.out
    exact World.block_lt_of_cell? w _ hb
  have HV := Lib.hid (readV2_any S p al rv _ (some ⟨ad.block, ad.off + 8, none⟩) m (c - 8) w.heap.size bs w1 hd hn8 H256.out HM.out (fun a' he' hg => by
    injection he' with he'
    subst he'
    have h3 := hrv' _ hg
    have h4 : ad.block < w.heap.size := by assumption
    exact absurd h3 (by simp; omega)) h1 h2 hE1 (fun hg => by have := hrv' _ hg; omega))
  have hSne : S ≠ S0 := by have := HB0.out.lt; omega
  have HO1 := Lib.hid hon'
  have hB1 : Blk w1 S0 74 #[z0, z1, z2, z3, z4, z5] := HB0.out.only hon' (fun hf => hf)
  have HB1 := Lib.hid hB1
  clear hd hS hrv hon hon' hE1 hn8 HBE HB8 hB1 c0 c1 c2 c3
  have hS0rv : rv.ownBlock ≠ some S0 := fun hg => by have := hrv' _ hg; have := HB0.out.lt; omega
  go_wp2_with fail
  refine HV.out.mono ?_
  rintro e w2 ⟨hd2, hon2, (⟨rfl, hall⟩ | ⟨⟨a, rfl⟩, hnot⟩)⟩
  · obtain ⟨hl0, hl1, hl2, hl3, hl4, hl5⟩ := blk_cells hd2.blk
    have hb2 := Lib.hid (HB1.out.only hon2 hS0rv)
    obtain ⟨k0, k1, k2, k3, k4, k5⟩ := blk_cells hb2.out
    obtain ⟨f0, f1, f2, f3, f4, f5⟩ := blk_frozen hb2.out
    obtain ⟨A2, cc2, hrv2, _⟩ := hd2.row.nums
    subst hrv2
    have HD2 := Lib.hid hd2
    have HON2 := Lib.hid hon2
    have hst := fun (W : World) (a : Addr) (x : Nat) => run_store Tryd.prog W a (.float .f64 x) .plain rfl
    clear hd2 hon2 HV
    go_wp2_with fail
    go_ret
    have e2 : ((2 : Int) ^ p) = ((2 ^ p : Nat) : Int) := by simp
    rw [e2]
    have hb6 := set6 hb2.out (.int .u8 p) (.int .u32 ((2 ^ p : Nat) : Int)) (.float .f64 al) (.pointer none) (.pointer none) (.slice A2 bs.length cc2)
    have ho6 := only6 w2 S0 (.int .u8 p) (.int .u32 ((2 ^ p : Nat) : Int)) (.float .f64 al) (.pointer none) (.pointer none) (.slice A2 bs.length cc2)
    refine .inl ⟨rfl, hall, al, .slice A2 bs.length cc2, ⟨hb6, HD2.out.row.only ho6 (fun g hg he => hS0rv (by rw [hg, he])), HD2.out.len⟩, hrv', ?_⟩
    exact ((HO1.out.mono (fun _ hf _ => hf.elim)).trans HON2.out (fun g hg hlt => by have := hrv' g hg; omega)).trans ho6 (fun _ h _ => h)
  · clear HV
    go_wp2_with fail
    go_ret
    exact .inr ⟨⟨a, rfl⟩, hnot, HO1.out.trans hon2 (fun g hg hlt => by have := hrv' g hg; omega)⟩
end Go.Proofs.YtoegfdndoeiolaaDoor
