/- Walks: a dense sketch is read from bytes, registers compared. Conditions: the bytes are bytes; the variables of the errors hold errors. -/
import Derived.Test.YtoegfdndoeiolaaDoorState
namespace Go.Proofs.YtoegfdndoeiolaaDoor
open Go.RowKit

theorem newDense_any (p : Nat) (w : World) (h1 : 4 ≤ p) (h2 : p ≤ 18) :
    Calls Tryd.prog 68 #[.int .u8 p, .bool false] w fun e w' =>
      ∃ S al rv, e = .returned (.pointer (some ⟨S, 0, none⟩)) ∧ Dense w' S p al rv (List.replicate (2 ^ p) 0) ∧ w.heap.size ≤ S ∧ (∀ g, rv.ownBlock = some g → w.heap.size ≤ g) ∧ Only (fun _ => False) w w' := by
  have HN := Lib.hid (NewSketch_dense p w h1 h2)
  go_enter Tryd.func68, Tryd.ntmps68
  go_wp2_with (go_at_call 34; refine HN.out.mono ?_; rintro e w' ⟨S, al, rv, rfl, hd, hS, hrv, hon⟩)
  go_ret
  exact ⟨S, al, rv, rfl, hd, hS, hrv, hon⟩
theorem newSparse_any (p : Nat) (w : World) (h1 : 4 ≤ p) (h2 : p ≤ 18) :
    Calls Tryd.prog 68 #[.int .u8 p, .bool true] w fun e w' =>
      ∃ S al T M v L u, e = .returned (.pointer (some ⟨S, 0, none⟩)) ∧ Sparse w' S p al T M v [] L u [] ∧ w.heap.size ≤ S ∧ w.heap.size ≤ T ∧ w.heap.size ≤ M ∧ w.heap.size ≤ L ∧
        (∀ g, v.ownBlock = some g → w.heap.size ≤ g) ∧ (∀ g, u.ownBlock = some g → w.heap.size ≤ g) ∧ Only (fun _ => False) w w' := by
  have HN := Lib.hid (NewSketch_sparse p w h1 h2)
  go_enter Tryd.func68, Tryd.ntmps68
  go_wp2_with (go_at_call 34; refine HN.out.mono ?_; rintro e w' ⟨S, al, T, M, v, L, u, rfl, hd⟩)
  go_ret
  exact ⟨S, al, T, M, v, L, u, rfl, hd⟩

set_option maxRecDepth 100000 in
theorem Same_any (A A2 : Option Addr) (n n2 c c2 B : Nat) (xs ys : List Nat) (w : World) (hx : Nums w B .u8 A n xs) (hy : Nums w B .u8 A2 n2 ys) (hn : n < 1099511627776) (hn2 : n2 < 1099511627776) :
    Calls Tryd.prog 21 #[.slice A n c, .slice A2 n2 c2] w fun e w' => e = .returned (.bool (decide (xs = ys))) ∧ ∃ q, w' = w.drewN q := by
  have hxl := hx.1
  have hyl := hy.1
  have HX := Lib.hid hx
  have HY := Lib.hid hy
  clear hx hy
  by_cases hnn : n = n2
  · subst hnn
    have HXL := Lib.hid hxl
    have HYL := Lib.hid hyl
    clear hxl hyl
    go_enter Tryd.func21, Tryd.ntmps21
    go_wp2_with fail
    go_loopg [13] n (fun g s13 wr => ∃ i, g + i = n ∧ s13 = .int .i64 (i : Nat) ∧ (∃ q, wr = w.drewN q) ∧ Hid (xs.take i = ys.take i))
    case atStart => exact ⟨0, by omega, rfl, ⟨0, rfl⟩, by simp [Hid]⟩
    case round =>
      obtain ⟨i, hg, rfl, ⟨q, rfl⟩, heq⟩ := hrel
      by_cases hlt : i < n
      · obtain ⟨a1, rfl, _, hc1⟩ := HX.out.at_ hlt
        obtain ⟨a2, rfl, _, hc2⟩ := HY.out.at_ hlt
        obtain ⟨x, hxd⟩ : ∃ x, xs.getD i 0 = x := ⟨_, rfl⟩
        obtain ⟨y, hyd⟩ : ∃ y, ys.getD i 0 = y := ⟨_, rfl⟩
        rw [hxd] at hc1
        rw [hyd] at hc2
        have hli : (i : Int) < (n : Int) := by omega
        have hl0 : (0 : Int) ≤ (i : Int) := by omega
        have HXD := Lib.hid hxd
        have HYD := Lib.hid hyd
        clear hxd hyd
        by_cases hxy : x = y
        · have hb : ((x : Int) != (y : Int)) = false := by rw [bne_eq_false_iff_eq]; omega
          have HE : Hid (xs.take (i + 1) = ys.take (i + 1)) := by
            show xs.take (i + 1) = ys.take (i + 1)
            rw [list_take_succ xs i (by have := HXL.out; omega), list_take_succ ys i (by have := HYL.out; omega), heq.out, HXD.out, HYD.out, hxy]
          clear hxy
          go_wp2_with fail
          go_quiet (fail)
          go_wp2_with fail
          go_roundg (n - (i + 1))
          case measure => omega
          case rel => exact ⟨i + 1, by omega, by go_num, (by first | exact ⟨_, rfl⟩ | (simp only [World.drewN_drewN]; exact ⟨_, rfl⟩)), HE.out⟩
        · have hb : ((x : Int) != (y : Int)) = true := by rw [bne_iff_ne]; omega
          have HD : Hid (decide (xs = ys) = false) := decide_eq_false (fun h => hxy (by rw [← HXD.out, ← HYD.out, h]))
          clear hxy
          go_wp2_with fail
          go_quiet (fail)
          go_wp2_with fail
          go_ret
          exact ⟨ret_bool HD.out.symm, by first | exact ⟨_, rfl⟩ | (simp only [World.drewN_drewN]; exact ⟨_, rfl⟩)⟩
      · have hi : i = n := by omega
        have HD : Hid (decide (xs = ys) = true) := decide_eq_true (by
          have h := heq.out
          rw [hi] at h
          rwa [List.take_of_length_le (Nat.le_of_eq HXL.out), List.take_of_length_le (Nat.le_of_eq HYL.out)] at h)
        clear hi
        go_wp2_with fail
        go_ret
        exact ⟨ret_bool HD.out.symm, _, rfl⟩
  · have HD : Hid (decide (xs = ys) = false) := decide_eq_false (fun h => hnn (by rw [← hxl, ← hyl, h]))
    have hb : ((n : Int) != (n2 : Int)) = true := by rw [bne_iff_ne]; omega
    clear hnn hxl hyl
    go_enter Tryd.func21, Tryd.ntmps21
    go_wp2
    go_ret
    exact ⟨ret_bool HD.out.symm, 0, rfl⟩

set_option maxHeartbeats 400000 in
set_option maxRecDepth 100000 in
theorem readV2_any (S p al : Nat) (rv : Value) (r : List Nat) (A : Option Addr) (n c B : Nat) (bs : List Nat) (w : World) (h : Dense w S p al rv r) (hbs : Nums w B .u8 A n bs) (h256 : ∀ b ∈ bs, b < 256) (hn : n = 2 ^ p)
    (hA : ∀ ad, A = some ad → rv.ownBlock ≠ some ad.block) (h1 : 4 ≤ p) (h2 : p ≤ 18) (he : Errs w) (hne : rv.ownBlock ≠ some 3) :
    Calls Tryd.prog 73 #[.pointer (some ⟨S, 0, none⟩), .slice A n c] w fun e w' =>
      Dense w' S p al rv bs ∧ Only (fun b => rv.ownBlock = some b) w w' ∧ ((e = .returned .nilIface ∧ ∀ b ∈ bs, b ≤ 65 - p) ∨ (Fails e ∧ ¬ ∀ b ∈ bs, b ≤ 65 - p)) := by
  have hpb := pow_bounds h1 h2
  have hbl := hbs.1
  have hrl := h.len
  obtain ⟨w1, hcopy, hrow1, hon1⟩ := run_copy_nums (P := Tryd.prog) 31 31 3 5 Tryd.underlying31 (by kernel_rfl) .u8 _ _ h.row B n c A bs hbs (by rw [hrl, hn])
  obtain ⟨A0, c0', hv0, _⟩ := h.row.nums
  have hSr : rv.ownBlock ≠ some S := h.row.blk_ne h.blk (by decide)
  have hb1 : Blk w1 S 74 #[.int .u8 (p : Int), .int .u32 ((2 ^ p : Nat) : Int), .float .f64 al, .pointer none, .pointer none, rv] := Blk.only h.blk hon1 hSr
  have hb0 : Blk w S 74 #[.int .u8 (p : Int), .int .u32 ((2 ^ p : Nat) : Int), .float .f64 al, .pointer none, .pointer none, rv] := h.blk
  rw [hrl, ← hn] at hv0
  subst hv0
  have c0 : w.cell? ⟨S, 0, none⟩ = some (.int .u8 (p : Int)) := hb0.cell 0
  have c5 : w.cell? ⟨S, 5, none⟩ = some (.slice A0 n c0') := hb0.cell 5
  have d5 : w1.cell? ⟨S, 5, none⟩ = some (.slice A0 n c0') := hb1.cell 5
  obtain ⟨_, be, hbe⟩ := id he
  have hbe1 : w1.cell? ⟨3, 0, none⟩ = some (.iface 152 (.pointer (some be))) := (hon1.cell (World.block_lt_of_cell? w _ hbe) hne).trans hbe
  have HD : Hid (Dense w1 S p al (.slice A0 n c0') bs) := ⟨hb1, hrow1, by rw [hbl, hn]⟩
  have HO := Lib.hid hon1
  have hnn : n ≤ 262144 := by omega
  have HBL := Lib.hid hbl
  have H256 := Lib.hid h256
  clear h hbs hrow1 hon1 hb1 hb0 he hbe hA hrl hbl h256 hn hpb
  go_enter Tryd.func73, Tryd.ntmps73
  go_wp2_with (go_at_call 101; refine (maxRho_any p _ h1 h2).mono ?_; rintro e w' ⟨rfl, rfl⟩)
  go_loopg [24] n (fun g s24 wr => wr = w1 ∧ ∃ i, g + i = n ∧ s24 = .int .i64 (i : Nat) ∧ Hid (∀ b ∈ bs.take i, b ≤ 65 - p))
  case atStart => exact ⟨rfl, 0, by omega, rfl, fun b hb => by simp at hb⟩
  case round =>
    obtain ⟨rfl, i, hg, rfl, hI⟩ := hrel
    by_cases hlt : i < n
    · obtain ⟨A', c', hv', _, hnums, _⟩ := HD.out.row.nums
      injection hv' with e1 _ e3
      subst e1
      subst e3
      rw [HBL.out] at hnums
      obtain ⟨ad, rfl, _, hcell⟩ := hnums.at_ hlt
      obtain ⟨x, hxd⟩ : ∃ x, bs.getD i 0 = x := ⟨_, rfl⟩
      rw [hxd] at hcell
      have hx256 : x < 256 := by rw [← hxd]; exact H256.out _ (getD_mem (by have := HBL.out; omega))
      have HXD := Lib.hid hxd
      clear hnums hxd
      by_cases hx : x ≤ 65 - p
      · have HI2 : Hid (∀ b ∈ bs.take (i + 1), b ≤ 65 - p) := fun b hb => by
          rw [list_take_succ bs i (by have := HBL.out; omega), HXD.out] at hb
          rcases List.mem_append.1 hb with hb | hb
          · exact hI.out b hb
          · rw [List.mem_singleton] at hb; omega
        have hx' : (x : Int) ≤ 65 - (p : Int) := by omega
        have hxb : decide ((((65 - p : Nat)) : Int) < (x : Int)) = false := decide_eq_false (by omega)
        go_wp2_with fail
        go_roundg (n - (i + 1))
        case measure => omega
        case rel => exact ⟨rfl, i + 1, by omega, by go_num, HI2.out⟩
      · have hxb : (((65 - p : Nat)) : Int) < (x : Int) := by omega
        have HBAD : Hid (¬ ∀ b ∈ bs, b ≤ 65 - p) := fun hall => hx (by rw [← HXD.out]; exact hall _ (getD_mem (by have := HBL.out; omega)))
        clear hx
        go_wp2_with fail
        go_ret
        exact ⟨HD.out, HO.out, .inr ⟨⟨be, rfl⟩, HBAD.out⟩⟩
    · have HALL : Hid (∀ b ∈ bs, b ≤ 65 - p) := by
        have h := hI.out
        rwa [List.take_of_length_le (by have := HBL.out; omega)] at h
      go_wp2_with fail
      go_ret
      exact ⟨HD.out, HO.out, .inl ⟨rfl, HALL.out⟩⟩
end Go.Proofs.YtoegfdndoeiolaaDoor
