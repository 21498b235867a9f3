/- Walks: the law that dense bytes are read as the registers that they have: it returns true. Condition: the variables of the errors hold errors. -/
import Derived.Test.YtoegfdndoeiolaaDoorReadDense
namespace Go.Proofs.YtoegfdndoeiolaaDoor
open Go.RowKit

theorem lawRead_long (A : Option Addr) (n c p : Nat) (w : World) (h : 2147483647 < n) :
    Calls Tryd.prog 11 #[.int .u8 p, .slice A n c] w fun e w' => e = .returned (.bool true) ∧ Below w.heap.size w w' := by
  go_enter Tryd.func11, Tryd.ntmps11
  go_wp2
  go_ret
  exact ⟨rfl, Below.refl _ _⟩
theorem lawRead_not (A : Option Addr) (n c p : Nat) (w : World) (hn : n ≤ 2147483647) (h : p < 4 ∨ 8 < p) :
    Calls Tryd.prog 11 #[.int .u8 p, .slice A n c] w fun e w' => e = .returned (.bool true) ∧ Below w.heap.size w w' := by
  have hn' : ¬ (2147483647 : Int) < (n : Int) := by omega
  clear hn
  rcases h with h | h
  · go_enter Tryd.func11, Tryd.ntmps11
    go_wp2
    go_ret
    exact ⟨rfl, Below.refl _ _⟩
  · go_enter Tryd.func11, Tryd.ntmps11
    go_wp2
    go_ret
    exact ⟨rfl, Below.refl _ _⟩

/-- The registers that the law writes: those given, then noughts. -/
def padded (N : Nat) (xs : List Nat) : List Nat := (List.range N).map (fun k => xs.getD k 0)
theorem padded_length (N : Nat) (xs : List Nat) : (padded N xs).length = N := by simp [padded]
theorem padded_get (N : Nat) (xs : List Nat) (k : Nat) (h : k < N) : (padded N xs).getD k 0 = xs.getD k 0 := by
  unfold padded
  rw [List.getD_eq_getElem?_getD, List.getElem?_map, List.getElem?_range h]
  rfl

theorem pow_word {p : Nat} (h1 : 4 ≤ p) (h2 : p ≤ 8) : ∃ N : Nat, N = 2 ^ p ∧ 16 ≤ N ∧ N ≤ 256 ∧ wrap64 ((2 : Int) ^ p) = (N : Int) ∧ bits .and .i64 (N : Int) 255 = ((N % 256 : Nat) : Int) := by
  rcases (show p = 4 ∨ p = 5 ∨ p = 6 ∨ p = 7 ∨ p = 8 from by omega) with rfl | rfl | rfl | rfl | rfl <;> exact ⟨_, rfl, by decide, by decide, by decide +kernel, by decide +kernel⟩
theorem row_lits (w : World) (e : TypeId) (k : IntKind) (ys : List Nat) (cs : Array Value) (n : Nat) (hn : ys.length = n) (hcs : cs = (ys.map fun y : Nat => Value.int k (y : Int)).toArray) (hm : n ≤ 9223372036854775807) :
    Row (w.alloc (.cells cs e)) e k (.slice (some ⟨w.heap.size, 0, none⟩) n n) ys := by
  refine ⟨by simp, .inr ⟨w.heap.size, n, cs, by rw [hn], Nat.zero_le _, heap_alloc_new w _, by omega, by unfold maxLen; omega, by rw [hcs]; simp [hn], ?_⟩⟩
  rw [hcs]
  simp only [Nat.mul_one]
  exact List.take_of_length_le (by simp)

set_option maxHeartbeats 1000000 in
set_option maxRecDepth 100000 in
theorem lawRead_any (A : Option Addr) (n c p : Nat) (xs : List Nat) (w : World) (hxs : Nums w w.heap.size .u8 A n xs) (h256 : ∀ x ∈ xs, x < 256) (hn : n ≤ 2147483647) (h1 : 4 ≤ p) (h2 : p ≤ 8) (he : Errs w) :
    Calls Tryd.prog 11 #[.int .u8 p, .slice A n c] w fun e w' => e = .returned (.bool true) ∧ Below w.heap.size w w' := by
  obtain ⟨i0, hi, hz0, hz1, hz2⟩ := info_parts info_u8
  obtain ⟨N, hN, hN1, hN2, hwr, hbt⟩ := pow_word h1 h2
  have hn' : ¬ (2147483647 : Int) < (n : Int) := by omega
  have hn2 : n < 1099511627776 := by omega
  have hxl := hxs.1
  have HX := Lib.hid hxs
  have H256 := Lib.hid h256
  have HE := Lib.hid he
  have HN := Lib.hid hN
  have hq : N / 256 % 256 = N / 256 := by omega
  obtain ⟨hd, hhd⟩ : ∃ hd : List Nat, hd = [2, p, 0, 0, 0, 0, N / 256 % 256, N % 256] := ⟨_, rfl⟩
  have hhl : hd.length = 8 := by rw [hhd]; rfl
  have HHD := Lib.hid hhd
  have hr0 : Row (w.alloc (.cells #[.int .u8 2, .int .u8 (p : Int), .int .u8 0, .int .u8 0, .int .u8 0, .int .u8 0, .int .u8 ((N : Int) / 256), .int .u8 ((N : Int) % 256)] 5)) 5 .u8 (.slice (some ⟨w.heap.size, 0, none⟩) 8 8) hd := by
    refine row_lits w _ .u8 hd _ 8 hhl ?_ (by omega)
    rw [hhd]
    simp [hq]
  have HR0 := Lib.hid hr0
  clear hn hxs h256 he hN hr0 hhd
  go_enter Tryd.func11, Tryd.ntmps11
  go_wp2_with fail
  go_loopg [6, 7, 33] N (fun g s6 s7 s33 wr => ∃ k G, g + k = N ∧ s33 = .int .i64 (k : Nat) ∧ s7 = .bool G ∧ Hid (G = true ↔ ∀ b ∈ (padded N xs).take k, b ≤ 65 - p) ∧ Row wr 5 .u8 s6 (hd ++ (padded N xs).take k) ∧ (∀ g, s6.ownBlock = some g → w.heap.size ≤ g) ∧ Only (fun _ => False) w wr)
  case atStart =>
    exact ⟨0, true, by omega, rfl, rfl, ⟨fun _ b hb => by simp at hb, fun _ => rfl⟩, by rw [List.take_zero, List.append_nil]; exact HR0.out, fun g hg => own_ge hg (Nat.le_refl _), (Only.refl _ w).alloc _⟩
  case round =>
    obtain ⟨k, G, hg, rfl, rfl, hG, hrow, hnew, hwo⟩ := hrel
    by_cases hkN : k < N
    · obtain ⟨x, hx⟩ : ∃ x, xs.getD k 0 = x := ⟨_, rfl⟩
      have hx256 : x < 256 := by rw [← hx]; exact getD_lt H256.out (by omega) _
      have hpl := padded_length N xs
      have htk : (padded N xs).take (k + 1) = (padded N xs).take k ++ [x] := by rw [list_take_succ _ k (by omega), padded_get N xs k hkN, hx]
      have HTK := Lib.hid htk
      have hlen : (hd ++ (padded N xs).take k).length = 8 + k := by rw [List.length_append, hhl, List.length_take]; omega
      have hway : (k < n ∧ ∃ ad, A = some ad ∧ wr.cell? (ad.add k) = some (.int .u8 (x : Int))) ∨ (¬ k < n ∧ x = 0) := by
        by_cases hkn : k < n
        · obtain ⟨ad, ha, _, hc⟩ := (HX.out.only (Nat.le_refl _) hwo (fun _ _ hf => hf)).at_ hkn
          rw [hx] at hc
          exact .inl ⟨hkn, ad, ha, hc⟩
        · refine .inr ⟨hkn, ?_⟩
          rw [← hx, List.getD_eq_getElem?_getD, List.getElem?_eq_none (by omega)]
          rfl
      have hstep : Hid (∀ G' : Bool, (G' = true ↔ (G = true ∧ x ≤ 65 - p)) → (G' = true ↔ ∀ b ∈ (padded N xs).take (k + 1), b ≤ 65 - p)) := fun G' h => by
        rw [h, HTK.out, hG.out]
        constructor
        · rintro ⟨h1, h2⟩ b hb
          rcases List.mem_append.1 hb with hb | hb
          · exact h1 b hb
          · rw [List.mem_singleton] at hb; omega
        · intro h
          exact ⟨fun b hb => h b (by simp [hb]), h x (by simp)⟩
      clear hx htk hpl
      obtain ⟨es, hes⟩ : ∃ es, es = hd ++ (padded N xs).take k := ⟨_, rfl⟩
      rw [← hes] at hrow hlen
      have HES := Lib.hid hes
      clear hes HX HR0 HHD
      rcases hway with ⟨hkn, ad, rfl, hc⟩ | ⟨hkn, rfl⟩
      · cases G
        · have hs := Lib.hid hstep
          go_wp2_with (at_builtin; go_must (refine wpList_append_fresh (w0 := w) rfl (.tmp 51) (.tmp 53) 31 rfl 5 i0 (.int .u8 0) 1 Tryd.underlying31 hi hz0 hz1 hz2 rfl .u8 u6 es rfl hrow [x] 1 1 rfl 5 _ (one_cells x) rfl ?c1 ?c2 hwo hnew ?_))
          case c1 => omega
          case c2 => omega
          intro v1 w1 hrow1 ho1 hf1
          go_wp2
          go_roundg (N - (k + 1))
          case measure => omega
          case rel => exact ⟨k + 1, false, by omega, by go_num, rfl, hstep.out false (by simp), by rw [HTK.out, ← List.append_assoc, ← HES.out]; exact hrow1, hf1, ho1⟩
        · by_cases hx : x ≤ 65 - p
          · have hx2 : (x : Int) ≤ 65 - (p : Int) := by omega
            have hx3 : decide ((x : Int) ≤ 65 - (p : Int)) = true := decide_eq_true hx2
            have HXX := Lib.hid hx
            clear hx
            go_wp2_with (at_builtin; go_must (refine wpList_append_fresh (w0 := w) rfl (.tmp 51) (.tmp 53) 31 rfl 5 i0 (.int .u8 0) 1 Tryd.underlying31 hi hz0 hz1 hz2 rfl .u8 u6 es rfl hrow [x] 1 1 rfl 5 _ (one_cells x) rfl ?c1 ?c2 hwo hnew ?_))
            case c1 => omega
            case c2 => omega
            intro v1 w1 hrow1 ho1 hf1
            go_wp2
            go_roundg (N - (k + 1))
            case measure => omega
            case rel => exact ⟨k + 1, true, by omega, by go_num, rfl, hstep.out true (by simp only [true_and]; exact ⟨fun _ => HXX.out, fun _ => trivial⟩), by rw [HTK.out, ← List.append_assoc, ← HES.out]; exact hrow1, hf1, ho1⟩
          · have hx2 : 65 - (p : Int) < (x : Int) := by omega
            have hx3 : decide ((x : Int) ≤ 65 - (p : Int)) = false := decide_eq_false (by omega)
            have HXX := Lib.hid hx
            clear hx
            go_wp2_with (at_builtin; go_must (refine wpList_append_fresh (w0 := w) rfl (.tmp 51) (.tmp 53) 31 rfl 5 i0 (.int .u8 0) 1 Tryd.underlying31 hi hz0 hz1 hz2 rfl .u8 u6 es rfl hrow [x] 1 1 rfl 5 _ (one_cells x) rfl ?c1 ?c2 hwo hnew ?_))
            case c1 => omega
            case c2 => omega
            intro v1 w1 hrow1 ho1 hf1
            go_wp2
            go_roundg (N - (k + 1))
            case measure => omega
            case rel => exact ⟨k + 1, false, by omega, by go_num, rfl, hstep.out false (by simp only [Bool.false_eq_true, false_iff, true_and]; exact HXX.out), by rw [HTK.out, ← List.append_assoc, ← HES.out]; exact hrow1, hf1, ho1⟩
      · cases G
        · have hs := Lib.hid hstep
          go_wp2_with (at_builtin; go_must (refine wpList_append_fresh (w0 := w) rfl (.tmp 51) (.tmp 53) 31 rfl 5 i0 (.int .u8 0) 1 Tryd.underlying31 hi hz0 hz1 hz2 rfl .u8 u6 es rfl hrow [0] 1 1 rfl 5 _ (one_cells 0) rfl ?c1 ?c2 hwo hnew ?_))
          case c1 => omega
          case c2 => omega
          intro v1 w1 hrow1 ho1 hf1
          go_wp2
          go_roundg (N - (k + 1))
          case measure => omega
          case rel => exact ⟨k + 1, false, by omega, by go_num, rfl, hstep.out false (by simp), by rw [HTK.out, ← List.append_assoc, ← HES.out]; exact hrow1, hf1, ho1⟩
        · have hx2 : (0 : Int) ≤ 65 - (p : Int) := by omega
          have hx3 : decide ((p : Int) ≤ 65) = true := decide_eq_true (by omega)
          go_wp2_with (at_builtin; go_must (refine wpList_append_fresh (w0 := w) rfl (.tmp 51) (.tmp 53) 31 rfl 5 i0 (.int .u8 0) 1 Tryd.underlying31 hi hz0 hz1 hz2 rfl .u8 u6 es rfl hrow [0] 1 1 rfl 5 _ (one_cells 0) rfl ?c1 ?c2 hwo hnew ?_))
          case c1 => omega
          case c2 => omega
          intro v1 w1 hrow1 ho1 hf1
          go_wp2
          go_roundg (N - (k + 1))
          case measure => omega
          case rel => exact ⟨k + 1, true, by omega, by go_num, rfl, hstep.out true (by simp), by rw [HTK.out, ← List.append_assoc, ← HES.out]; exact hrow1, hf1, ho1⟩
    · have hk : k = N := by omega
      have hpl := padded_length N xs
      have htk : (padded N xs).take k = padded N xs := List.take_of_length_le (by omega)
      rw [htk] at hG hrow
      obtain ⟨bs, hbs⟩ : ∃ bs, bs = padded N xs := ⟨_, rfl⟩
      rw [← hbs] at hG hrow hpl
      have hb256 : ∀ b ∈ bs, b < 256 := by
        intro b hb
        rw [hbs] at hb
        obtain ⟨j, hj, rfl⟩ := List.mem_map.1 hb
        by_cases hjn : j < n
        · exact getD_lt H256.out (by omega) _
        · rw [List.getD_eq_getElem?_getD, List.getElem?_eq_none (by omega)]; exact Nat.zero_lt_succ _
      have hden : hd ++ bs = denseBytes p bs := by
        rw [HHD.out]
        unfold denseBytes be32
        rw [← HN.out]
        have e1 : N / 16777216 % 256 = 0 := by omega
        have e2 : N / 65536 % 256 = 0 := by omega
        rw [e1, e2]
        rfl
      rw [hden] at hrow
      obtain ⟨A6, c6, rfl, hc6, hn6, _, _⟩ := hrow.nums
      have hdl := denseBytes_length p bs
      obtain ⟨ad6, rfl, _, _⟩ := hn6.2 (by omega)
      have hcm := row_cap hrow rfl
      have hN8 : (denseBytes p bs).length = N + 8 := by omega
      have hRD := (ReadDense_any p ad6 _ c6 bs wr hn6 hc6 hcm hb256 (by rw [hpl, HN.out]) h1 (by omega) (HE.out.only hwo (fun hf => hf) (fun hf => hf)))
      have hd8 := hn6.drop (m := 8) (by omega)
      rw [show (denseBytes p bs).drop 8 = bs from rfl, hN8, Nat.add_sub_cancel] at hd8
      have HD8 := Lib.hid hd8
      have hc8 : (N : Int) + 8 ≤ (c6 : Int) := by omega
      have hc9 : ¬ c6 = 8 := by omega
      rw [hN8] at hRD
      have HRD := Lib.hid hRD
      have HBL : Hid (bs.length = N) := hpl
      have HROW := Lib.hid hrow
      have HWO := Lib.hid hwo
      have HG := Lib.hid hG.out
      clear hrow hn6 hc6 hwo hG hden hb256 htk HX HR0 HHD hbs hRD hd8 hpl hdl hg hk hxl
      go_wp2_with fail
      refine HRD.out.mono ?_
      rintro e w2 ⟨ho2, (⟨v1, v2, rfl, hall, hr1, hr2⟩ | ⟨rfl, hnot⟩)⟩
      · obtain rfl : G = true := HG.out.2 hall
        obtain ⟨A1, c1, rfl, _, hn1, _, _⟩ := hr1.nums
        obtain ⟨A2, c2, rfl, _, hn2', _, _⟩ := hr2.nums
        rw [HBL.out] at hn1 hn2'
        have h8 : Nums w2 w2.heap.size .u8 (some ⟨ad6.block, ad6.off + 8, none⟩) N bs := (HD8.out.only (Nat.le_refl _) ho2 (fun _ _ hf => hf)).more ho2.size
        have hS1 : ∀ q, Calls Tryd.prog 21 #[.slice A1 N c1, .slice (some ⟨ad6.block, ad6.off + 8, none⟩) N (c6 - 8)] (w2.drewN q) fun e w' => e = .returned (.bool true) ∧ ∃ q, w' = w2.drewN q := fun q =>
          (Same_any A1 _ N N c1 (c6 - 8) w2.heap.size bs bs (w2.drewN q) hn1 h8 (by omega) (by omega)).mono fun e w' ⟨h1, q', h2⟩ => ⟨by rw [h1]; simp, q + q', by rw [h2]; simp⟩
        have hS2 : ∀ q, Calls Tryd.prog 21 #[.slice A2 N c2, .slice (some ⟨ad6.block, ad6.off + 8, none⟩) N (c6 - 8)] (w2.drewN q) fun e w' => e = .returned (.bool true) ∧ ∃ q, w' = w2.drewN q := fun q =>
          (Same_any A2 _ N N c2 (c6 - 8) w2.heap.size bs bs (w2.drewN q) hn2' h8 (by omega) (by omega)).mono fun e w' ⟨h1, q', h2⟩ => ⟨by rw [h1]; simp, q + q', by rw [h2]; simp⟩
        have HS1 := Lib.hid hS1
        have HS2 := Lib.hid hS2
        have HO2 := Lib.hid ho2
        have hbN : bs.length = N := HBL.out
        clear hr1 hr2 hn1 hn2' h8 hS1 hS2 ho2 hall HRD
        rw [hbN]
        go_wp2_with fail
        refine (HS1.out 0).mono ?_
        rintro e w3 ⟨rfl, q1, rfl⟩
        go_wp2_with fail
        refine (HS2.out q1).mono ?_
        rintro e w4 ⟨rfl, q2, rfl⟩
        go_wp2_with fail
        go_ret
        exact ⟨rfl, ((HWO.out.trans HO2.out (fun _ hf _ => hf)).drewN q2).new⟩
      · obtain rfl : G = false := by
          cases G
          · rfl
          · exact absurd (HG.out.1 rfl) hnot
        have hP : Calls Tryd.prog 18 #[.int .u32 1] w2 fun e w' => (∃ A4 c4, e = .returned (.slice A4 1 c4)) ∧ Only (fun _ => False) w w' := by
          refine (PutVarint_any 1 w2 (by omega)).mono ?_
          rintro e w4 ⟨v4, rfl, hrow4, hon4⟩
          obtain ⟨A4, c4, rfl, _⟩ := hrow4.nums
          have h1 : (varint 1).length = 1 := by rw [varint_small (by omega)]; rfl
          exact ⟨⟨A4, c4, by rw [h1]⟩, (HWO.out.trans ho2 (fun _ hf _ => hf)).trans hon4 (fun _ hf _ => hf)⟩
        have HP := Lib.hid hP
        clear hP ho2 hnot HRD
        go_wp2_with (go_at_call 18; refine HP.out.mono ?_; rintro e w4 ⟨⟨A4, c4, rfl⟩, hon4⟩)
        go_ret
        exact ⟨rfl, hon4.new⟩
end Go.Proofs.YtoegfdndoeiolaaDoor
