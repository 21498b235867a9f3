/- Walks: dense bytes are read, written and read again. Conditions: the bytes are bytes; the variables of the errors hold errors. -/
import Derived.Test.YtoegfdndoeiolaaDoorMarDense
namespace Go.Proofs.YtoegfdndoeiolaaDoor
open Go.RowKit

theorem denseBytes_length (p : Nat) (bs : List Nat) : (denseBytes p bs).length = bs.length + 8 := by
  simp only [denseBytes, List.length_cons, List.length_append, be32_len]
  omega

theorem row_cap {w : World} {e : TypeId} {k : IntKind} {A : Option Addr} {len c : Nat} {v : Value} {xs : List Nat} (h : Row w e k v xs) (hv : v = .slice A len c) : c ≤ 9223372036854775807 := by
  rcases h.2 with ⟨h1, _⟩ | ⟨g, cap, cur, h1, _, _, _, hm, _⟩ <;> rw [hv] at h1 <;> injection h1 with _ _ h1
  · omega
  · unfold maxLen at hm; omega
/-- A sketch that holds nothing. -/
abbrev zeroSk : Array Value := #[.int .u8 0, .int .u32 0, .float .f64 0, .pointer none, .pointer none, .slice none 0 0]

set_option maxHeartbeats 1000000 in
set_option maxRecDepth 100000 in
theorem ReadDense_any (p : Nat) (ad : Addr) (n c : Nat) (bs : List Nat) (w : World) (hbs : Nums w w.heap.size .u8 (some ad) n (denseBytes p bs)) (hnc : n ≤ c) (hc : c ≤ 9223372036854775807)
    (h256 : ∀ b ∈ bs, b < 256) (hlen : bs.length = 2 ^ p) (h1 : 4 ≤ p) (h2 : p ≤ 18) (he : Errs w) :
    Calls Tryd.prog 27 #[.slice (some ad) n c] w fun e w' => Only (fun _ => False) w w' ∧
      ((∃ v1 v2, e = .returned (.tuple #[v1, v2, .bool true]) ∧ (∀ b ∈ bs, b ≤ 65 - p) ∧ Row w' 5 .u8 v1 bs ∧ Row w' 5 .u8 v2 bs) ∨
       (e = .returned (.tuple #[.slice none 0 0, .slice none 0 0, .bool false]) ∧ ¬ ∀ b ∈ bs, b ≤ 65 - p)) := by
  have hpb := pow_bounds h1 h2
  have ho0 : Only (fun _ => False) w (w.alloc (.cells zeroSk 74)) := (Only.refl _ w).alloc _
  have hs0 : (w.alloc (.cells zeroSk 74)).heap.size = w.heap.size + 1 := by simp
  have HU := Lib.hid (UnmDense_any w.heap.size p (.int .u8 0) (.int .u32 0) (.float .f64 0) (.pointer none) (.pointer none) (.slice none 0 0) ad n c bs (w.alloc (.cells zeroSk 74)) (Blk.new w _ _)
    ((hbs.only (Nat.le_refl _) ho0 (fun _ _ hf => hf)).more (by omega)) hnc hc h256 hlen h1 h2 (he.only ho0 (fun hf => hf) (fun hf => hf)))
  have HE := Lib.hid he
  have H256 := Lib.hid h256
  have HLEN := Lib.hid hlen
  have hbl : bs.length ≤ 262144 := by omega
  clear hbs he h256 hlen hpb
  go_enter Tryd.func27, Tryd.ntmps27
  go_wp2_with fail
  refine HU.out.mono ?_
  rintro e w1 (⟨rfl, hall, al, rv, hd, hrv, hon1⟩ | ⟨⟨a, rfl⟩, hnot, hon1⟩)
  · have ho1 : Only (fun _ => False) w w1 := ho0.trans hon1 (fun b hb hlt => by omega)
    have HD := Lib.hid hd
    have HO1 := Lib.hid ho1
    have HMA := Lib.hid (MarDense_any w.heap.size p al rv bs w1 hd h1 h2)
    clear hd ho1 hon1 HU
    go_wp2_with (go_at_call 44; refine HMA.out.mono ?_; rintro e w2 ⟨v2, rfl, hrow2, hf2, hon2⟩
                 obtain ⟨A2, c2, rfl, hc2, hn2, hA2, _⟩ := hrow2.nums)
    have hdl := denseBytes_length p bs
    obtain ⟨ad2, rfl, _, _⟩ := hn2.2 (by omega)
    have hcm := row_cap hrow2 rfl
    have hon02 : Only (fun _ => False) w2 (w2.alloc (.cells zeroSk 74)) := (Only.refl _ w2).alloc _
    have hw2 : Only (fun _ => False) w (w2.alloc (.cells zeroSk 74)) := (HO1.out.trans hon2 (fun _ hf _ => hf)).alloc _
    have hs2 : (w2.alloc (.cells zeroSk 74)).heap.size = w2.heap.size + 1 := by simp
    have hww2 : w1.heap.size ≤ w2.heap.size := hon2.size
    have hSlt : w.heap.size < w1.heap.size := HD.out.blk.lt
    refine (UnmDense_any w2.heap.size p (.int .u8 0) (.int .u32 0) (.float .f64 0) (.pointer none) (.pointer none) (.slice none 0 0) ad2 _ c2 bs (w2.alloc (.cells zeroSk 74)) (Blk.new w2 _ _)
      ((hn2.only (Nat.le_refl _) hon02 (fun _ _ hf => hf)).more (by omega)) hc2 hcm H256.out HLEN.out h1 h2 (HE.out.only hw2 (fun hf => hf) (fun hf => hf))).mono ?_
    rintro e w3 (⟨rfl, _, al2, rv2, hd2, hrv2, hon3⟩ | ⟨_, hnot, _⟩)
    · have hw13 : Only (fun b => b = w2.heap.size) w1 w3 := ((hon2.mono (fun _ hf _ => hf.elim)).alloc _).trans hon3 (fun b hb _ => hb)
      have hd3 : Dense w3 w.heap.size p al rv bs := HD.out.only hw13 (by omega) (fun g hg he => by have := HD.out.row.lt g hg; omega)
      have hw3 : Only (fun _ => False) w w3 := hw2.trans hon3 (fun b hb hlt => by have := HO1.out.size; omega)
      have hr1 := regs_dense w.heap.size p al rv bs w3 hd3 (by omega)
      have HR1 := Lib.hid hr1
      have HD2 := Lib.hid hd2
      have HO3 := Lib.hid hw3
      clear hrow2 hn2 hon2 hon3 hd2 hd3 hw13 hw3 hr1 hw2 hon02
      go_wp2_with fail
      refine HR1.out.mono ?_
      rintro e w4 ⟨v4, rfl, hrow4, hf4, hon4⟩
      have HR2 := Lib.hid (regs_dense w2.heap.size p al2 rv2 bs w4 (HD2.out.only hon4 (fun hf => hf) (fun _ _ hf => hf)) (by omega))
      have HO4 := Lib.hid hon4
      clear hon4
      go_wp2_with (go_at_call 35; refine HR2.out.mono ?_; rintro e w5 ⟨v5, rfl, hrow5, hf5, hon5⟩)
      go_ret3
      exact ⟨(HO3.out.trans HO4.out (fun _ hf _ => hf)).trans hon5 (fun _ hf _ => hf), .inl ⟨v4, v5, rfl, hall, hrow4.only hon5 (fun _ _ hf => hf), hrow5⟩⟩
    · exact absurd hall hnot
  · have ho1 : Only (fun _ => False) w w1 := ho0.trans hon1 (fun b hb hlt => hb)
    have HO1 := Lib.hid ho1
    clear ho1 hon1 HU
    go_wp2_with fail
    go_ret3
    exact ⟨HO1.out, .inr ⟨rfl, hnot⟩⟩
end Go.Proofs.YtoegfdndoeiolaaDoor
