/- Walks: the law that keys are read back from their differences: it returns true. Condition: the variables of the errors hold errors. -/
import Derived.Test.YtoegfdndoeiolaaDoorSorted
import Derived.Test.YtoegfdndoeiolaaDoorEnc
namespace Go.Proofs.YtoegfdndoeiolaaDoor
open Go.RowKit

theorem run_len_slice {P : Program} (t ty e : TypeId) (ht : P.underlying t = some (.slice e)) (A : Option Addr) (n c : Nat) (W : World) :
    (Builtin.len_ #[t] ty #[.slice A n c]).run P W = .ok (.int .i64 (n : Int)) W := by
  unfold Builtin.len_
  simp [run_underlying ht, goInt]

theorem lawUnpacked_long (A : Option Addr) (n c p : Nat) (w : World) (h : 2147483647 < n) :
    Calls Tryd.prog 3 #[.slice A n c, .int .u8 p] w fun e w' => e = .returned (.bool true) ∧ Below w.heap.size w w' := by
  go_enter Tryd.func3, Tryd.ntmps3
  go_wp2
  go_ret
  exact ⟨rfl, Below.refl _ _⟩

theorem lawUnpacked_not (A : Option Addr) (n c p : Nat) (w : World) (hn : n ≤ 2147483647) (h : p < 4 ∨ 18 < p) :
    Calls Tryd.prog 3 #[.slice A n c, .int .u8 p] w fun e w' => e = .returned (.bool true) ∧ Below w.heap.size w w' := by
  have HR := Lib.hid (Right_no p w h)
  have hn' : ¬ (2147483647 : Int) < (n : Int) := by omega
  clear hn
  go_enter Tryd.func3, Tryd.ntmps3
  go_wp2_with (go_at_call 14; refine HR.out.mono ?_; rintro e w' ⟨rfl, rfl⟩)
  go_ret
  exact ⟨rfl, Below.refl _ _⟩

theorem lawUnpacked_many (A : Option Addr) (n c p : Nat) (w : World) (hn : n ≤ 2147483647) (h1 : 4 ≤ p) (h2 : p ≤ 18) (h : 33554432 ≤ n) :
    Calls Tryd.prog 3 #[.slice A n c, .int .u8 p] w fun e w' => e = .returned (.bool true) ∧ Below w.heap.size w w' := by
  have HR := Lib.hid (Right_yes p w h1 h2)
  have hn' : decide ((2147483647 : Int) < (n : Int)) = false := decide_eq_false (by omega)
  have hb : decide ((33554432 : Int) ≤ (n : Int)) = true := decide_eq_true (by omega)
  clear hn h
  go_enter Tryd.func3, Tryd.ntmps3
  go_wp2_with (go_at_call 14; refine HR.out.mono ?_; rintro e w' ⟨rfl, rfl⟩)
  go_ret
  exact ⟨rfl, Below.refl _ _⟩

set_option maxHeartbeats 1000000 in
set_option maxRecDepth 100000 in
theorem lawUnpacked_any (A : Option Addr) (n c p : Nat) (xs : List Nat) (w : World) (hxs : Nums w w.heap.size .u64 A n xs) (hx64 : ∀ x ∈ xs, x < 18446744073709551616) (hn : n < 33554432) (h1 : 4 ≤ p) (h2 : p ≤ 18) (he : Errs w) :
    Calls Tryd.prog 3 #[.slice A n c, .int .u8 p] w fun e w' => e = .returned (.bool true) ∧ Below w.heap.size w w' := by
  obtain ⟨i0, hi, hz0, hz1, hz2⟩ := info_parts info_u32
  have HR := Lib.hid (Right_yes p w h1 h2)
  have hn' : decide ((2147483647 : Int) < (n : Int)) = false := decide_eq_false (by omega)
  have hb : decide ((33554432 : Int) ≤ (n : Int)) = false := decide_eq_false (by omega)
  have HN : Hid (n < 33554432) := hn
  have hn2 : n < 1099511627776 := by omega
  have hxl := hxs.1
  have HX := Lib.hid hxs
  have H64 := Lib.hid hx64
  have HE := Lib.hid he
  clear hn hxs hx64 he
  go_enter Tryd.func3, Tryd.ntmps3
  go_wp2_with (go_at_call 14; refine HR.out.mono ?_; rintro e w' ⟨rfl, rfl⟩)
  go_loopg [5, 25] n (fun g s5 s25 wr => ∃ t, g + t = n ∧ s25 = .int .i64 (t : Nat) ∧ Row wr 26 .u32 s5 ((xs.take t).map (encN · p)) ∧ (∀ g, s5.ownBlock = some g → w.heap.size ≤ g) ∧ Only (fun _ => False) w wr)
  case atStart => exact ⟨0, by omega, rfl, row_empty w _ _, fun g hg => own_ge hg (Nat.le_refl _), (Only.refl _ w).alloc _⟩
  case round =>
    obtain ⟨t, hg, rfl, hrow, hnew, hwr⟩ := hrel
    by_cases hlt : t < n
    · obtain ⟨x, hxd⟩ : ∃ x, xs.getD t 0 = x := ⟨_, rfl⟩
      obtain ⟨ad, rfl, hadb, hcell⟩ := (HX.out.only (Nat.le_refl _) hwr (fun _ _ hf => hf)).at_ hlt
      rw [hxd] at hcell
      have hx64 : x < 18446744073709551616 := by rw [← hxd]; exact H64.out _ (getD_mem (by omega))
      have htake : (xs.take (t + 1)).map (encN · p) = (xs.take t).map (encN · p) ++ [encN x p] := by
        rw [list_take_succ xs t (by omega), hxd, List.map_append]; rfl
      have HT := Lib.hid htake
      have HC := Lib.hid (implEncodeHash_any x p wr hx64 h1 h2)
      have hel : ((xs.take t).map (encN · p)).length = t := by rw [List.length_map, List.length_take]; omega
      obtain ⟨es, hes⟩ : ∃ es, es = (xs.take t).map (encN · p) := ⟨_, rfl⟩
      rw [← hes] at hrow hel htake
      have HES := Lib.hid hes
      clear htake hxd hes
      go_wp2_with (first
        | (go_at_call 15; refine HC.out.mono ?_; rintro e w' ⟨rfl, rfl⟩)
        | (at_builtin; go_must (refine wpList_append_one rfl (.tmp 29) (.tmp 33) 24 rfl 26 i0 (.int .u32 0) 4 Tryd.underlying24 hi hz0 hz1 hz2 rfl .u32 u5 es rfl hrow (encN x p) 1 26 rfl ?c4 ?c5 ?_)))
      case c4 => omega
      case c5 => omega
      intro v' w1 hrow1 hon1 hlies1
      go_wp2
      go_roundg (n - (t + 1))
      case measure => omega
      case rel =>
        refine ⟨t + 1, by omega, by go_num, by rw [HT.out, ← HES.out]; exact hrow1, fun g hg => ?_, hwr.trans hon1 (fun g hg hlt => by have := hnew g hg; omega)⟩
        rcases hlies1 with h | ⟨g', h, hge⟩ <;> rw [hg] at h
        · exact hnew g h.symm
        · injection h with h; have := hwr.size; omega
    · have ht : t = n := by omega
      subst ht
      rw [← hxl, List.take_length] at hrow
      obtain ⟨A1, c1, rfl, hc1, hn1, hA1, _⟩ := hrow.nums
      have hml : (xs.map (encN · p)).length = t := by rw [List.length_map, hxl]
      rw [hml] at hn1 hrow
      have HS := Lib.hid (Sorted_any A1 t c1 (xs.map (encN · p)) wr hn1 (fun k hk => by
        obtain ⟨x, hx, rfl⟩ := List.mem_map.1 hk
        exact enc_lt x p (H64.out x hx)) hn2)
      have HO1 : Hid (Only (fun _ => False) w wr) := hwr
      clear hrow hn1 hc1 hA1 HR hwr
      go_wp2_with (go_at_call 16; refine HS.out.mono ?_; rintro e w2 ⟨v2, ks, rfl, hrow2, hon2, hris, hmem, hkl⟩)
      have hval : Valid p ks := ⟨hris, fun k hk => by
        obtain ⟨x, hx, rfl⟩ := List.mem_map.1 (hmem k hk)
        exact okKey_enc x p (H64.out x hx) h1 h2, by have := HN.out; omega⟩
      obtain ⟨A2, c2, rfl, hc2, hn2', _, _⟩ := hrow2.nums
      have hw2 : Only (fun _ => False) w w2 := HO1.out.trans hon2 (fun _ hf _ => hf)
      have HU := Lib.hid (implUnpacked_any A2 ks.length c2 p ks w2 hn2' h1 h2 (HE.out.only hw2 (fun hf => hf) (fun hf => hf)) hval)
      have HN2 := Lib.hid hn2'
      have HW2 := Lib.hid hw2
      have hkl2 : ks.length < 1099511627776 := by omega
      clear hrow2 hon2 hris hmem hval hn2' hc2 hw2 HS hkl
      go_wp2_with (go_at_call 17; refine HU.out.mono ?_; rintro e w3 ⟨v3, rfl, hrow3, hon3, hnew3⟩)
      obtain ⟨A3, c3, rfl, hc3, hn3, _, _⟩ := hrow3.nums
      have HN3 := Lib.hid hn3
      have HW3 : Hid (Only (fun _ => False) w w3) := HW2.out.trans hon3 (fun _ hf _ => hf)
      have HN2' : Hid (Nums w3 w2.heap.size .u32 A2 ks.length ks) := HN2.out.only (Nat.le_refl _) hon3 (fun _ _ hf => hf)
      clear hrow3 hnew3 hn3 hc3 HU hon3 HN2
      clear hg hlt hml hxl
      go_wp2_with fail
      go_simp
      go_wp2_with fail
      go_loopg [55] ks.length (fun g s55 wr => ∃ i, g + i = ks.length ∧ s55 = .int .i64 (i : Nat) ∧ ∃ q, wr = w3.drewN q)
      case atStart => exact ⟨0, by omega, rfl, 0, rfl⟩
      case round =>
        obtain ⟨i, hgi, rfl, q, rfl⟩ := hrel
        by_cases hlt : i < ks.length
        · obtain ⟨a3, rfl, _, hcell3⟩ := HN3.out.at_ hlt
          obtain ⟨a2, rfl, _, hcell2⟩ := HN2'.out.at_ hlt
          obtain ⟨x, hx⟩ : ∃ x, ks.getD i 0 = x := ⟨_, rfl⟩
          rw [hx] at hcell3 hcell2
          have hli : (i : Int) < ((ks.length : Nat) : Int) := by omega
          have hl0 : (0 : Int) ≤ (i : Int) := by omega
          clear hx HN3 HN2' HX
          go_wp2_with fail
          go_quiet (fail)
          go_wp2_with fail
          go_roundg (ks.length - (i + 1))
          case measure => omega
          case rel => exact ⟨i + 1, by omega, by go_num, _, rfl⟩
        · have hP : Calls Tryd.prog 18 #[.int .u32 1] (w3.drewN q) fun e w' => (∃ A4 c4, e = .returned (.slice A4 1 c4)) ∧ Only (fun _ => False) w w' := by
            refine (PutVarint_any 1 (w3.drewN q) (by omega)).mono ?_
            rintro e w4 ⟨v4, rfl, hrow4, hon4⟩
            obtain ⟨A4, c4, rfl, _⟩ := hrow4.nums
            have h1 : (varint 1).length = 1 := by rw [varint_small (by omega)]; rfl
            exact ⟨⟨A4, c4, by rw [h1]⟩, (HW3.out.drewN q).trans hon4 (fun _ hf _ => hf)⟩
          have HP := Lib.hid hP
          clear HN3 HN2' HX hP
          go_wp2_with (go_at_call 18; refine HP.out.mono ?_; rintro e w4 ⟨⟨A4, c4, rfl⟩, hon4⟩)
          go_ret
          exact ⟨rfl, hon4.new⟩
end Go.Proofs.YtoegfdndoeiolaaDoor
