/- Walks and plain laws, one behind the other (MergeSp, ToNormal, Sk, Ins, StateS); their conditions stand at each. -/
import Derived.Test.YtoegfdndoeiolaaDoorQ24
import Derived.Test.YtoegfdndoeiolaaDoorQ23
import Derived.Deep.DeepCutAuto

/- Walks: the waiting keys are merged into the list. Conditions: the list's keys rise and are below 2^32; fewer than 2^29 keys. -/
namespace Go.Proofs.YtoegfdndoeiolaaDoor
open Go.RowKit

theorem mk_u32 (m : Nat) (h : m ≤ 1099511627776) : ∀ W : World, (Instr.makeSlice 24 (.int .i64 0) (.int .i64 (m : Int))).run Tryd.prog W = .ok (.slice (some ⟨W.heap.size, 0, none⟩) 0 m) (W.alloc (.cells (madeCells #[.int .u32 0] m) 26)) := fun W => by
  obtain ⟨i0, hi, hz0, hz1, hz2⟩ := info_parts info_u32
  have h := run_make_rowN (P := Tryd.prog) 24 26 i0 (.int .u32 0) Tryd.underlying24 hi hz0 .i64 .i64 0 m (Nat.zero_le _) (by rw [hz2]; omega) (by omega) W
  rw [hz1, Nat.mul_one] at h
  exact h

theorem cap_word {n m k : Nat} (h : n + k < 536870912) (hm : m ≤ 5 * k) : IntKind.i64.wrap (IntKind.i64.wrap (4 * (n : Int)) + (m : Int)) = ((4 * n + m : Nat) : Int) := by
  have e1 : IntKind.i64.wrap (4 * (n : Int)) = 4 * (n : Int) := by rw [IntKind.wrap_i64]; omega
  rw [e1, IntKind.wrap_i64]
  omega

/-- What a merge leaves: a sparse sketch without waiting keys. -/
def MergedP (w : World) (S p al T M L : Nat) (v u : Value) (K ks : List Nat) (w' : World) : Prop :=
  ∃ M' v' L' u', Sparse w' S p al T M' v' [] L' u' (mrg ks (srt K)) ∧ Only (fun b => b = S ∨ b = T) w w' ∧ (M' = M ∨ w.heap.size ≤ M') ∧ v'.ownBlock = v.ownBlock ∧ (L' = L ∨ w.heap.size ≤ L') ∧ (∀ g, u'.ownBlock = some g → u.ownBlock = some g ∨ w.heap.size ≤ g)

theorem mergeSparse_nil (S p al T M L : Nat) (v u : Value) (ks : List Nat) (w : World) (h : Sparse w S p al T M v [] L u ks) :
    Calls Tryd.prog 62 #[.pointer (some ⟨S, 0, none⟩)] w fun e w' => e = .returned (.tuple #[]) ∧ MergedP w S p al T M L v u [] ks w' := by
  have c3 : w.cell? ⟨S, 3, none⟩ = some (.pointer (some ⟨T, 0, none⟩)) := h.blk.cell 3
  have HL : Hid (Calls Tryd.prog 89 #[.agg #[.pointer (some ⟨T, 0, none⟩)]] w fun e w' => e = .returned (.int .i64 0) ∧ Only (fun _ => False) w w') := sLen_any T M v [] w h.set
  have H := Lib.hid h
  clear h
  go_enter Tryd.func62, Tryd.ntmps62
  go_wp2_with fail
  refine HL.out.mono ?_
  rintro e w1 ⟨rfl, ho1⟩
  go_wp2_with fail
  refine bodyPost_ret (results_none rfl _ _ _) rfl ⟨rfl, M, v, L, u, ?_, ho1.mono (fun _ hf _ => hf.elim), .inl rfl, rfl, .inl rfl, fun g hg => .inl hg⟩
  have e : mrg ks (srt []) = ks := by rw [srt_nil, mrg_nil_right]
  rw [e]
  exact H.out.only ho1 (fun hf => hf) (fun hf => hf) (fun hf => hf) (fun _ _ hf => hf) (fun hf => hf) (fun _ _ hf => hf)

set_option maxHeartbeats 2000000 in
set_option maxRecDepth 100000 in
theorem mergeSparse_some (S p al T M L : Nat) (v u : Value) (K ks : List Nat) (w : World) (h : Sparse w S p al T M v K L u ks) (hk : Keys ks) (h0 : 0 < K.length) (hl : K.length + ks.length < 536870912) :
    Calls Tryd.prog 62 #[.pointer (some ⟨S, 0, none⟩)] w fun e w' => e = .returned (.tuple #[]) ∧ MergedP w S p al T M L v u K ks w' := by
  have hmf := hmf
  obtain ⟨n, hn⟩ : ∃ n, K.length = n := ⟨_, rfl⟩
  obtain ⟨m, hm⟩ : ∃ m, (encFrom 0 ks).length = m := ⟨_, rfl⟩
  have hm1 : m ≤ 5 * ks.length := by rw [← hm]; exact encFrom_le 0 ks hk.2.1
  have hT : T < w.heap.size := h.set.blk.lt
  have hS : S < w.heap.size := Blk.lt h.blk
  have hLlt : L < w.heap.size := h.list.1.lt
  have hV : ∀ W, Only (fun _ => False) w W → Sparse W S p al T M v K L u ks := fun W hW => h.only hW (fun hf => hf) (fun hf => hf) (fun hf => hf) (fun _ _ hf => hf) (fun hf => hf) (fun _ _ hf => hf)
  have HC : Hid (∀ W, Only (fun _ => False) w W → W.cell? ⟨S, 3, none⟩ = some (.pointer (some ⟨T, 0, none⟩)) ∧ W.cell? ⟨S, 4, none⟩ = some (.pointer (some ⟨L, 0, none⟩)) ∧ W.frozen? ⟨S, 4, none⟩ = false) := fun W hW =>
    ⟨(hV W hW).blk.cell 3, (hV W hW).blk.cell 4, (hV W hW).blk.frozen 4⟩
  have HL : Hid (∀ W, Only (fun _ => False) w W → Calls Tryd.prog 89 #[.agg #[.pointer (some ⟨T, 0, none⟩)]] W fun e w' => e = .returned (.int .i64 (n : Nat)) ∧ Only (fun _ => False) W w') := fun W hW => by
    rw [← hn]; exact sLen_any T M v K W (hV W hW).set
  have HLL : Hid (∀ W, Only (fun _ => False) w W → Calls Tryd.prog 78 #[.pointer (some ⟨L, 0, none⟩)] W fun e w' => e = .returned (.int .i64 (m : Nat)) ∧ W = w') := fun W hW => by
    rw [← hm]; exact Len_any L u ks W (hV W hW).list
  have HV := Lib.hid hV
  have HK := Lib.hid hk
  have hn0 : 0 < n := by omega
  have hn1 : ((n : Int) == 0) = false := by rw [beq_eq_false_iff_ne]; omega
  have hkl : n + ks.length < 536870912 := by omega
  have hUlt : Hid (∀ g, u.ownBlock = some g → g < w.heap.size) := h.list.2.1.lt
  have mk := mk_u32 n (by omega)
  have HN := Lib.hid hn
  clear h hk h0 hl hn hm hV
  obtain ⟨c3, c4, f4⟩ := HC.out w (Only.refl _ w)
  go_enter Tryd.func62, Tryd.ntmps62
  go_wp2_with fail
  refine (HL.out w (Only.refl _ w)).mono ?_
  rintro e w1 ⟨rfl, ho1⟩
  obtain ⟨c31, c41, f41⟩ := HC.out w1 ho1
  have HO1 := Lib.hid ho1
  clear ho1
  go_wp2_with fail
  refine (HL.out w1 HO1.out).mono ?_
  rintro e w2 ⟨rfl, ho2⟩
  have HO2 := Lib.hid (HO1.out.trans ho2 (fun _ hf _ => hf))
  obtain ⟨c32, c42, f42⟩ := HC.out w2 HO2.out
  clear ho2
  have c33 := (HC.out _ ((HO2.out.alloc (.cells (madeCells #[.int .u32 0] n) 26)).alloc (.cells #[.slice (some ⟨w2.heap.size, 0, none⟩) 0 n] 24))).1
  go_wp2_with fail
  obtain ⟨w3, hw3⟩ : ∃ w3, w3 = (w2.alloc (.cells (madeCells #[.int .u32 0] n) 26)).alloc (.cells #[.slice (some ⟨w2.heap.size, 0, none⟩) 0 n] 24) := ⟨_, rfl⟩
  rw [← hw3] at c33 ⊢
  have ho3 : Only (fun _ => False) w w3 := by rw [hw3]; exact (HO2.out.alloc _).alloc _
  have hs2 := HO2.out.size
  have hr3 : Row w3 26 .u32 (.slice (some ⟨w2.heap.size, 0, none⟩) 0 n) [] := by
    have h := World.ownsRow_made (base := 0) (e := 26) (size := 1) w2 (madeCells #[.int .u32 0] n) n (Nat.zero_le _) (by unfold maxLen; omega) (by rw [size_madeCells, Nat.mul_one])
    rw [hw3]
    exact Row.only (xs := []) h ((Only.refl (fun _ => False) _).alloc _) (fun _ _ hf => hf)
  have hq3 : Blk w3 (w2.heap.size + 1) 24 #[.slice (some ⟨w2.heap.size, 0, none⟩) 0 n] := by
    have h := Blk.new (w2.alloc (.cells (madeCells #[.int .u32 0] n) 26)) 24 #[.slice (some ⟨w2.heap.size, 0, none⟩) 0 n]
    rw [show (w2.alloc (.cells (madeCells #[.int .u32 0] n) 26)).heap.size = w2.heap.size + 1 from by simp] at h
    rw [hw3]
    exact h
  have hvn : ∀ g, (Value.slice (some ⟨w2.heap.size, 0, none⟩) 0 n).ownBlock = some g → v.ownBlock ≠ some g := fun g hg he => by
    have h1 := (HV.out w (Only.refl _ w)).set.row.lt g he
    have h2 : w2.heap.size ≤ g := own_ge hg (Nat.le_refl _)
    omega
  refine (collectMerge_any T M (w2.heap.size + 1) v (.slice (some ⟨w2.heap.size, 0, none⟩) 0 n) K w3 (HV.out w3 ho3).set hq3 hr3 hvn (by have := HN.out; omega)).mono ?_
  rintro e w4 ⟨rfl, v4, hq4, hr4, ho4', hl4⟩
  have ho4 : Only (fun _ => False) w w4 := ho3.trans ho4' (by
    rintro b (e | e) hlt
    · omega
    · have h2 : w2.heap.size ≤ b := own_ge e (Nat.le_refl _)
      omega)
  have hv4 : ∀ g, v4.ownBlock = some g → w.heap.size ≤ g := by
    intro g hg
    rcases hl4 with e | ⟨g', e, hge⟩
    · rw [hg] at e
      have h2 : w2.heap.size ≤ g := own_ge e.symm (Nat.le_refl _)
      omega
    · rw [hg] at e; injection e with e; have := ho3.size; omega
  have q4 := hq4.cell 0
  have HS4 := Lib.hid (sort32_any v4 K w4 hr4 (by have := HN.out; omega))
  have HQ4 := Lib.hid hq4
  have HR4 := Lib.hid hr4
  have HO4 := Lib.hid ho4
  clear c33 hw3 ho3 hr3 hq3 hvn hq4 hr4 ho4' hl4 ho4 c3 c4 f4 c31 c41 f41 c32 c42 f42
  go_wp2_with fail
  refine HS4.out.mono ?_
  rintro e w5 ⟨rfl, hr5, ho5'⟩
  have hq5 := HQ4.out.only ho5' (HR4.out.blk_ne HQ4.out (by decide))
  have ho5 : Only (fun _ => False) w w5 := HO4.out.trans ho5' (fun b e hlt => by have := hv4 b e; omega)
  rcases hr5.form with ⟨_, hnil⟩ | ⟨g, cp, rfl, hcp, hglt, hown⟩
  · have h1 := congrArg List.length hnil
    rw [srt_length, HN.out, List.length_nil] at h1
    omega
  rw [srt_length, HN.out] at hr5 hq5 hown hcp
  have HQ5 := Lib.hid hq5
  have HR5 := Lib.hid hr5
  have HO5 := Lib.hid ho5
  have HG : Hid (w.heap.size ≤ g) := hv4 g (by rw [srt_length, HN.out]; exact hown)
  obtain ⟨c35, c45, f45⟩ := HC.out w5 ho5
  clear hr5 hq5 ho5 ho5' hown hv4 q4 HS4 HQ4 HR4 HO4 hcp
  have HW := Lib.hid (fun W (hW : Only (fun _ => False) w5 W) => HC.out W (HO5.out.trans hW (fun _ hf _ => hf)))
  have HL5 := Lib.hid (fun W (hW : Only (fun _ => False) w5 W) => HL.out W (HO5.out.trans hW (fun _ hf _ => hf)))
  have HLL5 := Lib.hid (fun W (hW : Only (fun _ => False) w5 W) => HLL.out W (HO5.out.trans hW (fun _ hf _ => hf)))
  have HWR := Lib.hid (cap_word hkl hm1)
  go_wp2_with fail
  go_region_held3 (fun w' => w'.cell? ⟨S, 3, none⟩ = some (.pointer (some ⟨T, 0, none⟩)) ∧ w'.cell? ⟨S, 4, none⟩ = some (.pointer (some ⟨L, 0, none⟩)))
    (first | go_keep | exact ⟨k3, k4⟩)
    (first
      | (go_at_call 89; refine (HL5.out _ ((Only.refl _ w5).drew)).mono ?_; rintro e w6 ⟨rfl, ho6⟩; have HO6 := Lib.hid (((Only.refl (fun _ => False) w5).drew).trans ho6 (fun _ hf _ => hf)); obtain ⟨k3, k4, _⟩ := HW.out w6 HO6.out)
      | (go_at_call 78; refine (HLL5.out _ HO6.out).mono ?_; rintro e w7 ⟨rfl, rfl⟩)
      | (go_at_call 46; rw [HWR.out]; refine (newCompressedList_any (4 * n + m) _ (by omega)).mono ?_; rintro e w8 ⟨L2, u2, rfl, hL2, hu2, hcl2, ho8⟩; have HO8 := Lib.hid (HO6.out.trans ho8 (fun _ hf _ => hf)); obtain ⟨k3, k4, _⟩ := HW.out w8 HO8.out)
      | fail)
  have HCL8 := Lib.hid hcl2
  have hL2n : w.heap.size ≤ L2 := by have := HO5.out.size; have := HO6.out.size; omega
  have hU2n : Hid (∀ g, u2.ownBlock = some g → w.heap.size ≤ g) := fun g hg => by have := HO5.out.size; have := HO6.out.size; have := hu2 g hg; omega
  clear hcl2 hu2 hL2 ho8 c35 c45 f45
  go_wp2_with fail
  refine (Iter_any L w8).mono ?_
  rintro e w9 ⟨rfl, ho9⟩
  have HO9 := Lib.hid (HO8.out.trans ho9 (fun _ hf _ => hf))
  have hM : MInv w (w2.heap.size + 1) L L2 (.slice (some ⟨g, 0, none⟩) n cp) u ks (srt K) w9.heap.size 0 0 0 u2 [] (w9.alloc (.cells #[.int .i64 (at_ [] : Nat), .int .u32 (lastOr 0 [] : Nat), .pointer (some ⟨L, 0, none⟩)] 82)) := by
    have hO9 : Only (fun _ => False) w w9 := HO5.out.trans HO9.out (fun _ hf _ => hf)
    have hA : Only (fun _ => False) w9 (w9.alloc (.cells #[.int .i64 (at_ [] : Nat), .int .u32 (lastOr 0 [] : Nat), .pointer (some ⟨L, 0, none⟩)] 82)) := (Only.refl _ w9).alloc _
    refine ⟨ItInv.start (HV.out w9 hO9).list HK.out, (HQ5.out.only HO9.out (fun hf => hf)).only hA (fun hf => hf), (HR5.out.only HO9.out (fun _ _ hf => hf)).only hA (fun _ _ hf => hf), (HCL8.out.only ho9 (fun hf => hf) (fun _ _ hf => hf)).only hA (fun hf => hf) (fun _ _ hf => hf),
      hO9.trans hA (fun _ hf _ => hf), hO9.size, hL2n, hU2n.out, hLlt, hUlt.out, rfl, Nat.zero_le _, Nat.zero_le _⟩
  have HM0 := Lib.hid hM
  clear hM ho9
  go_wp2_with fail
  have HYL : Hid ((srt K).length = n) := (srt_length K).trans HN.out
  have HYR : Hid (Rising (srt K)) := rising_srt (HV.out w (Only.refl _ w)).set.nodup
  have HY32 : Hid (∀ i, i < n → (srt K).getD i 0 < 4294967296) := fun i hi => by
    refine (HV.out w (Only.refl _ w)).set.lt _ (mem_srt.1 ?_)
    rw [List.getD_eq_getElem?_getD, List.getElem?_eq_getElem (by rw [HYL.out]; exact hi)]
    exact List.getElem_mem _
  have HSH : Hid (ks.length + (srt K).length < 2147483648) := by
    show _ < _
    rw [HYL.out]; omega
  obtain ⟨ys, hys⟩ : ∃ ys, ys = srt K := ⟨_, rfl⟩
  rw [← hys] at HM0 HYL HYR HY32 HSH
  have HYS := Lib.hid hys
  clear hys HR5 HQ5 HCL8 hUlt hglt HW HL5 HLL5 HWR
  go_loopg [4, 5] (ks.length + n) (fun g4 s4 s5 wr => ∃ t i I u3 o, g4 + (t + i) = ks.length + n ∧ s4 = .pointer (some ⟨I, 0, none⟩) ∧ s5 = .int .i64 (i : Nat) ∧ Hid (MInv w (w2.heap.size + 1) L L2 (.slice (some ⟨g, 0, none⟩) n cp) u ks ys I t t i u3 o wr))
  case atStart => exact ⟨0, 0, w9.heap.size, u2, [], by omega, rfl, rfl, HM0.out⟩
  case round =>
    obtain ⟨t, i, I, u3, o, hg, rfl, rfl, HM⟩ := hrel
    have htl := HM.out.lt
    have hil : i ≤ n := by have := HM.out.li; rw [HYL.out] at this; exact this
    obtain ⟨a0, b0, d0⟩ := HM.out.it.cells
    have q0 : wr.cell? ⟨w2.heap.size + 1, 0, none⟩ = some (.slice (some ⟨g, 0, none⟩) n cp) := HM.out.blk.cell 0
    have hRow : Hid (∀ W, Row W 26 .u32 (.slice (some ⟨g, 0, none⟩) n cp) ys → i < n → W.cell? ⟨g, i, none⟩ = some (.int .u32 (ys.getD i 0 : Nat))) := fun W hW hi => hW.cell rfl i (by rw [HYL.out]; exact hi)
    have hsh : Hid (o.length < 2147483648) := HM.out.short HSH.out
    by_cases ht : t < ks.length
    · have HN1 : Hid (∀ W, MInv w (w2.heap.size + 1) L L2 (.slice (some ⟨g, 0, none⟩) n cp) u ks ys I t t i u3 o W → Calls Tryd.prog 49 #[.agg #[.int .i64 (at_ (ks.take t) : Nat), .int .u32 (lastOr 0 (ks.take t) : Nat), .pointer (some ⟨L, 0, none⟩)]] W fun e w' => e = .returned (.bool true) ∧ Only (fun _ => False) W w') := fun W hW => by
        have h := hasNext_i hW.it hW.lt
        rw [decide_eq_true ht] at h
        exact h
      obtain ⟨k, hkk⟩ : ∃ k, ks.getD t 0 = k := ⟨_, rfl⟩
      have hk32 : k < 4294967296 := by rw [← hkk]; exact HM.out.it.key ht
      go_wp2_with fail
      refine (HN1.out wr HM.out).mono ?_
      rintro e wa ⟨rfl, hoa⟩
      have HMa := Lib.hid (HM.out.same hoa)
      clear hoa
      obtain ⟨a1, b1, d1⟩ := HMa.out.it.cells
      have q1 : wa.cell? ⟨w2.heap.size + 1, 0, none⟩ = some (.slice (some ⟨g, 0, none⟩) n cp) := HMa.out.blk.cell 0
      go_wp2_with fail
      refine (HN1.out wa HMa.out).mono ?_
      rintro e wb ⟨rfl, hob⟩
      have HMb := Lib.hid (HMa.out.same hob)
      clear hob
      obtain ⟨a2, b2, d2⟩ := HMb.out.it.cells
      have q2 : wb.cell? ⟨w2.heap.size + 1, 0, none⟩ = some (.slice (some ⟨g, 0, none⟩) n cp) := HMb.out.blk.cell 0
      by_cases hi : i < n
      · have hlt2 : (i : Int) < (n : Int) := by omega
        have HPK := Lib.hid (peek_i HMb.out.it ht)
        rw [hkk] at HPK
        obtain ⟨y, hyy⟩ : ∃ y, ys.getD i 0 = y := ⟨_, rfl⟩
        have hy32 : y < 4294967296 := by rw [← hyy]; exact HY32.out i hi
        obtain ⟨adv, hadv⟩ : ∃ adv, at_ (ks.take (t + 1)) = adv := ⟨_, rfl⟩
        rw [hadv] at HPK
        have hcell : Hid (∀ W, MInv w (w2.heap.size + 1) L L2 (.slice (some ⟨g, 0, none⟩) n cp) u ks ys I t t i u3 o W → W.cell? ⟨g, i, none⟩ = some (.int .u32 (y : Nat))) := fun W hW => by rw [← hyy]; exact hRow.out W hW.row hi
        have HAV : Hid (∀ W u4 i' o', MInv w (w2.heap.size + 1) L L2 (.slice (some ⟨g, 0, none⟩) n cp) u ks ys I t (t + 1) i' u4 o' W → Calls Tryd.prog 93 #[.pointer (some ⟨I, 0, none⟩), .int .u32 (k : Nat), .int .i64 (adv : Nat)] W fun e w' => e = .returned (.tuple #[]) ∧ MInv w (w2.heap.size + 1) L L2 (.slice (some ⟨g, 0, none⟩) n cp) u ks ys I (t + 1) (t + 1) i' u4 o' w') := fun W u4 i' o' hW => by
          have h := advance_i hW.it ht
          rw [hkk, hadv] at h
          exact h.mono fun e w' ⟨h1, h2, h3⟩ => ⟨h1, hW.moved h2 h3⟩
        go_wp2_with fail
        refine HPK.out.mono ?_
        rintro e wc ⟨rfl, hoc⟩
        have HMc := Lib.hid (HMb.out.same hoc)
        clear hoc
        have q3 : wc.cell? ⟨w2.heap.size + 1, 0, none⟩ = some (.slice (some ⟨g, 0, none⟩) n cp) := HMc.out.blk.cell 0
        have y3 := hcell.out wc HMc.out
        rcases Nat.lt_trichotomy k y with hky | hky | hky
        · have hc1 : ((k : Int) == (y : Int)) = false := by rw [beq_eq_false_iff_ne]; omega
          have hc2 : decide ((y : Int) < (k : Int)) = false := decide_eq_false (by omega)
          have hmst := mrg_less (ks := ks) (ys := ys) ht (by rw [HYL.out]; exact hi) (by rw [hkk, hyy]; exact hky)
          rw [hkk] at hmst
          have HAP := Lib.hid (HMc.out.append hk32 (HMc.out.rises HYR.out hmst) hsh.out (step_on HMc.out.step hmst) (show t + 1 ≤ ks.length by omega) HMc.out.li)
          clear hmst
          go_wp2_with fail
          refine HAP.out.mono ?_
          rintro e wd ⟨rfl, u4, hmd⟩
          have HMd := Lib.hid hmd
          have HAd := Lib.hid (HAV.out wd u4 i _ hmd)
          clear hmd
          go_wp2_with fail
          refine HAd.out.mono ?_
          rintro e we ⟨rfl, hme⟩
          have HMe := Lib.hid hme
          clear hme
          obtain ⟨a5, b5, d5⟩ := HMe.out.it.cells
          go_wp2_with fail
          go_roundg (ks.length + n - (t + 1 + i))
          case measure => omega
          case rel => exact ⟨t + 1, i, we.heap.size, u4, o ++ [k], by omega, rfl, rfl, by have h := HMe.out.again; rw [hadv] at h; exact h⟩
        · have hc1 : ((k : Int) == (y : Int)) = true := by rw [beq_iff_eq]; omega
          have hmst := mrg_both (ks := ks) (ys := ys) ht (by rw [HYL.out]; exact hi) (by rw [hkk, hyy]; exact hky)
          rw [hkk] at hmst
          have HAP := Lib.hid (HMc.out.append hk32 (HMc.out.rises HYR.out hmst) hsh.out (step_on HMc.out.step hmst) (show t + 1 ≤ ks.length by omega) (show i + 1 ≤ ys.length by rw [HYL.out]; omega))
          clear hmst
          subst hky
          go_wp2_with fail
          refine HAP.out.mono ?_
          rintro e wd ⟨rfl, u4, hmd⟩
          have HMd := Lib.hid hmd
          have HAd := Lib.hid (HAV.out wd u4 (i + 1) _ hmd)
          clear hmd
          go_wp2_with fail
          refine HAd.out.mono ?_
          rintro e we ⟨rfl, hme⟩
          have HMe := Lib.hid hme
          clear hme
          obtain ⟨a5, b5, d5⟩ := HMe.out.it.cells
          go_wp2_with fail
          go_roundg (ks.length + n - (t + 1 + (i + 1)))
          case measure => omega
          case rel => exact ⟨t + 1, i + 1, we.heap.size, u4, o ++ [k], by omega, rfl, by go_num, by have h := HMe.out.again; rw [hadv] at h; exact h⟩
        · have hc1 : ((k : Int) == (y : Int)) = false := by rw [beq_eq_false_iff_ne]; omega
          have hc2 : decide ((y : Int) < (k : Int)) = true := decide_eq_true (by omega)
          have hmst := mrg_more (ks := ks) (ys := ys) ht (by rw [HYL.out]; exact hi) (by rw [hkk, hyy]; exact hky)
          rw [hyy] at hmst
          have HAP := Lib.hid (HMc.out.append hy32 (HMc.out.rises HYR.out hmst) hsh.out (step_on HMc.out.step hmst) HMc.out.lt (show i + 1 ≤ ys.length by rw [HYL.out]; omega))
          clear hmst
          go_wp2_with fail
          refine HAP.out.mono ?_
          rintro e wd ⟨rfl, u4, hmd⟩
          have HMd := Lib.hid hmd
          clear hmd
          obtain ⟨a5, b5, d5⟩ := HMd.out.it.cells
          go_wp2_with fail
          go_roundg (ks.length + n - (t + (i + 1)))
          case measure => omega
          case rel => exact ⟨t, i + 1, wd.heap.size, u4, o ++ [y], by omega, rfl, by go_num, HMd.out.again⟩
      · have hin : i = n := by omega
        subst hin
        have HNX := Lib.hid (next_i HMb.out.it ht)
        rw [hkk] at HNX
        have hmst := mrg_first (ks := ks) (ys := ys) (i := i) ht (by rw [HYL.out]; exact hi)
        rw [hkk] at hmst
        have HST := Lib.hid hmst
        clear hmst
        go_wp2_with fail
        refine HNX.out.mono ?_
        rintro e wc ⟨rfl, hic, hoc⟩
        have HMc := Lib.hid (HMb.out.moved hic hoc)
        clear hic hoc
        have HAP := Lib.hid (HMc.out.append hk32 (HMc.out.rises HYR.out HST.out) hsh.out (step_on HMc.out.step HST.out) (show t + 1 ≤ ks.length by omega) HMc.out.li)
        go_wp2_with fail
        refine HAP.out.mono ?_
        rintro e wd ⟨rfl, u4, hmd⟩
        have HMd := Lib.hid hmd
        clear hmd
        obtain ⟨a5, b5, d5⟩ := HMd.out.it.cells
        go_wp2_with fail
        go_roundg (ks.length + i - (t + 1 + i))
        case measure => omega
        case rel => exact ⟨t + 1, i, wd.heap.size, u4, o ++ [k], by omega, rfl, rfl, HMd.out.again⟩
    · have HT := Lib.hid ht
      have HN1 : Hid (∀ W, MInv w (w2.heap.size + 1) L L2 (.slice (some ⟨g, 0, none⟩) n cp) u ks ys I t t i u3 o W → Calls Tryd.prog 49 #[.agg #[.int .i64 (at_ (ks.take t) : Nat), .int .u32 (lastOr 0 (ks.take t) : Nat), .pointer (some ⟨L, 0, none⟩)]] W fun e w' => e = .returned (.bool false) ∧ Only (fun _ => False) W w') := fun W hW => by
        have h := hasNext_i hW.it hW.lt
        rw [decide_eq_false ht] at h
        exact h
      by_cases hi : i < n
      · have hlt2 : (i : Int) < (n : Int) := by omega
        obtain ⟨y, hyy⟩ : ∃ y, ys.getD i 0 = y := ⟨_, rfl⟩
        have hy32 : y < 4294967296 := by rw [← hyy]; exact HY32.out i hi
        have hmst := mrg_second (ks := ks) (ys := ys) ht (by rw [HYL.out]; exact hi)
        rw [hyy] at hmst
        have HST := Lib.hid hmst
        clear hmst ht
        go_wp2_with fail
        refine (HN1.out wr HM.out).mono ?_
        rintro e wa ⟨rfl, hoa⟩
        have HMa := Lib.hid (HM.out.same hoa)
        clear hoa
        obtain ⟨a1, b1, d1⟩ := HMa.out.it.cells
        have q1 : wa.cell? ⟨w2.heap.size + 1, 0, none⟩ = some (.slice (some ⟨g, 0, none⟩) n cp) := HMa.out.blk.cell 0
        go_wp2_with fail
        refine (HN1.out wa HMa.out).mono ?_
        rintro e wb ⟨rfl, hob⟩
        have HMb := Lib.hid (HMa.out.same hob)
        clear hob
        obtain ⟨a2, b2, d2⟩ := HMb.out.it.cells
        have q2 : wb.cell? ⟨w2.heap.size + 1, 0, none⟩ = some (.slice (some ⟨g, 0, none⟩) n cp) := HMb.out.blk.cell 0
        have y3 : wb.cell? ⟨g, i, none⟩ = some (.int .u32 (y : Nat)) := by rw [← hyy]; exact hRow.out wb HMb.out.row hi
        have HAP := Lib.hid (HMb.out.append hy32 (HMb.out.rises HYR.out HST.out) hsh.out (step_on HMb.out.step HST.out) HMb.out.lt (show i + 1 ≤ ys.length by rw [HYL.out]; omega))
        go_wp2_with fail
        refine HAP.out.mono ?_
        rintro e wd ⟨rfl, u4, hmd⟩
        have HMd := Lib.hid hmd
        clear hmd
        obtain ⟨a5, b5, d5⟩ := HMd.out.it.cells
        go_wp2_with fail
        go_roundg (ks.length + n - (t + (i + 1)))
        case measure => omega
        case rel => exact ⟨t, i + 1, wd.heap.size, u4, o ++ [y], by omega, rfl, by go_num, HMd.out.again⟩
      · have hin : i = n := by omega
        subst hin
        clear ht
        go_wp2_with fail
        refine (HN1.out wr HM.out).mono ?_
        rintro e wa ⟨rfl, hoa⟩
        have HMa := Lib.hid (HM.out.same hoa)
        clear hoa
        obtain ⟨a1, b1, d1⟩ := HMa.out.it.cells
        have q1 : wa.cell? ⟨w2.heap.size + 1, 0, none⟩ = some (.slice (some ⟨g, 0, none⟩) i cp) := HMa.out.blk.cell 0
        obtain ⟨z3, z4, fz4⟩ := HC.out wa HMa.out.only
        have hoz : Only (fun b => b = S) wa (wa.setCell ⟨S, 4, none⟩ (.pointer (some ⟨L2, 0, none⟩))) := (Only.refl (fun b => b = S) wa).setCell (fun _ => rfl) _
        have hsp := HV.out wa HMa.out.only
        have hbz : SkB (wa.setCell ⟨S, 4, none⟩ (.pointer (some ⟨L2, 0, none⟩))) S p al (.pointer (some ⟨T, 0, none⟩)) (.pointer (some ⟨L2, 0, none⟩)) (.slice none 0 0) := Blk.set_ hsp.blk 4 _
        have hTS : T ≠ S := hsp.set.blk.ne_ hsp.blk (by decide)
        have hsz : USet (wa.setCell ⟨S, 4, none⟩ (.pointer (some ⟨L2, 0, none⟩))) T v M K := hsp.set.only hoz hTS (fun g hg e => hsp.set.row.blk_ne hsp.blk (by decide) (by rw [hg, e])) (hsp.set.map.ne hsp.blk)
        have hcz : CList (wa.setCell ⟨S, 4, none⟩ (.pointer (some ⟨L2, 0, none⟩))) L2 u3 o := HMa.out.out.only hoz (by omega) (fun g hg e => by have := HMa.out.newU g hg; omega)
        have z33 : (wa.setCell ⟨S, 4, none⟩ (.pointer (some ⟨L2, 0, none⟩))).cell? ⟨S, 3, none⟩ = some (.pointer (some ⟨T, 0, none⟩)) := hbz.cell 3
        have ho : o = mrg ks ys := by
          have h := HMa.out.step
          rw [List.drop_eq_nil_of_le (show ks.length ≤ t by have := HT.out; omega), mrg_nil, List.drop_eq_nil_of_le (show ys.length ≤ i by rw [HYL.out]; omega), List.append_nil] at h
          exact h
        have HBZ := Lib.hid hbz
        have HSZ := Lib.hid hsz
        have HCZ := Lib.hid hcz
        have HOZ := Lib.hid hoz
        have HOO := Lib.hid ho
        have HCLR := Lib.hid (sclear_any T M v K _ hsz)
        have hszz : (wa.setCell ⟨S, 4, none⟩ (.pointer (some ⟨L2, 0, none⟩))).heap.size = wa.heap.size := by simp [World.setCell]
        clear hbz hsz hcz hoz ho hsp
        go_wp2_with fail
        refine HCLR.out.mono ?_
        rintro e wy ⟨rfl, v', M', hset', hoy, hv', hM'⟩
        have HSY := Lib.hid hset'
        have HOY := Lib.hid hoy
        clear hset' hoy
        go_wp2_with fail
        go_end0
        have hw := HMa.out.only.size
        refine ⟨rfl, M', v', L2, u3, ⟨Blk.only HBZ.out HOY.out (fun e => hTS e.symm), HSY.out, ?_⟩, ?_, .inr (by omega), hv', .inr hL2n, fun g hg => .inr (HMa.out.newU g hg)⟩
        · rw [← HYS.out, ← HOO.out]
          exact HCZ.out.only HOY.out (by omega) (fun g hg e => by have := HMa.out.newU g hg; omega)
        · exact ((HMa.out.only.mono (fun _ hf _ => hf.elim)).trans HOZ.out (fun b hb _ => .inl hb)).trans HOY.out (fun b hb _ => .inr hb)

theorem mergeSparse_any (S p al T M L : Nat) (v u : Value) (K ks : List Nat) (w : World) (h : Sparse w S p al T M v K L u ks) (hk : Keys ks) (hl : K.length + ks.length < 536870912) :
    Calls Tryd.prog 62 #[.pointer (some ⟨S, 0, none⟩)] w fun e w' => e = .returned (.tuple #[]) ∧ MergedP w S p al T M L v u K ks w' := by
  cases K with
  | nil => exact mergeSparse_nil S p al T M L v u ks w h
  | cons k K => exact mergeSparse_some S p al T M L v u (k :: K) ks w h hk (by simp) hl
end Go.Proofs.YtoegfdndoeiolaaDoor

/- Walks: a sparse sketch is made dense. Conditions: 4 to 18 bits; the list's keys rise and are below 2^32; fewer than 2^29 keys. -/
namespace Go.Proofs.YtoegfdndoeiolaaDoor
open Go.RowKit

theorem table_byte {p : Nat} {ks : List Nat} : ∀ v ∈ table p (ks.map (kv p)), v < 256 := by
  intro v hv
  have h := mem_table (p := p) (P := ks.map (kv p)) (b := 255) (fun q hq => by
    obtain ⟨k, _, rfl⟩ := List.mem_map.1 hq
    have := decVal_lt k p
    show decVal k p ≤ 255
    omega) v hv
  omega

set_option maxHeartbeats 2000000 in
set_option maxRecDepth 100000 in
theorem toNormal_any (S p al T M L : Nat) (v u : Value) (K ks : List Nat) (w : World) (h : Sparse w S p al T M v K L u ks) (hk : Keys ks) (h1 : 4 ≤ p) (h2 : p ≤ 18) (hl : K.length + ks.length < 536870912) :
    Calls Tryd.prog 82 #[.pointer (some ⟨S, 0, none⟩)] w fun e w' => e = .returned (.tuple #[]) ∧
      ∃ rv, Dense w' S p al rv (table p ((K ++ ks).map (kv p))) ∧ Only (fun b => b = S ∨ b = T) w w' ∧ ∀ g, rv.ownBlock = some g → w.heap.size ≤ g := by
  have hpb := pow_bounds h1 h2
  obtain ⟨N, hN⟩ : ∃ N, N = 2 ^ p := ⟨_, rfl⟩
  rw [← hN] at hpb
  have mk := mk_u8 N (by omega) .u32
  have HNp := Lib.hid hN
  clear hN
  have hS : S < w.heap.size := Blk.lt h.blk
  have hT : T < w.heap.size := h.set.blk.lt
  have hLlt : L < w.heap.size := h.list.1.lt
  have hUlt : Hid (∀ g, u.ownBlock = some g → g < w.heap.size) := h.list.2.1.lt
  have c3 : w.cell? ⟨S, 3, none⟩ = some (.pointer (some ⟨T, 0, none⟩)) := h.blk.cell 3
  obtain ⟨n, hn⟩ : ∃ n, K.length = n := ⟨_, rfl⟩
  have HL : Hid (Calls Tryd.prog 89 #[.agg #[.pointer (some ⟨T, 0, none⟩)]] w fun e w' => e = .returned (.int .i64 (n : Nat)) ∧ Only (fun _ => False) w w') := by
    rw [← hn]; exact sLen_any T M v K w h.set
  have hV : ∀ W, Only (fun _ => False) w W → Sparse W S p al T M v K L u ks := fun W hW => h.only hW (fun hf => hf) (fun hf => hf) (fun hf => hf) (fun _ _ hf => hf) (fun hf => hf) (fun _ _ hf => hf)
  have HV := Lib.hid hV
  have HMG : Hid (∀ W, Only (fun _ => False) w W → Calls Tryd.prog 62 #[.pointer (some ⟨S, 0, none⟩)] W fun e w' => e = .returned (.tuple #[]) ∧ MergedP W S p al T M L v u K ks w') := fun W hW =>
    mergeSparse_any S p al T M L v u K ks W (hV W hW) hk hl
  have HK := Lib.hid hk
  have HNn := Lib.hid hn
  have HLN := Lib.hid hl
  clear h hk hV hn hl
  go_enter Tryd.func82, Tryd.ntmps82
  go_wp2_with fail
  refine HL.out.mono ?_
  rintro e w1 ⟨rfl, ho1⟩
  have HO1 := Lib.hid ho1
  clear ho1
  go_upto_if 10 with fail
  go_cut [] (fun wc => ∃ M' v' L' u', Sparse wc S p al T M' v' [] L' u' (mrg ks (srt K)) ∧ Only (fun b => b = S ∨ b = T) w wc ∧ (L' = L ∨ w.heap.size ≤ L') ∧ (∀ g, u'.ownBlock = some g → u.ownBlock = some g ∨ w.heap.size ≤ g))
  case first =>
    by_cases hn0 : 0 < n
    · go_wp2_with fail
      refine (HMG.out w1 HO1.out).mono ?_
      rintro e w2 ⟨rfl, M', v', L', u', hsp, hon, _, _, hL', hu'⟩
      have hs1 := HO1.out.size
      have HR : Hid (∃ M' v' L' u', Sparse w2 S p al T M' v' [] L' u' (mrg ks (srt K)) ∧ Only (fun b => b = S ∨ b = T) w w2 ∧ (L' = L ∨ w.heap.size ≤ L') ∧ (∀ g, u'.ownBlock = some g → u.ownBlock = some g ∨ w.heap.size ≤ g)) :=
        ⟨M', v', L', u', hsp, (HO1.out.mono (fun _ hf _ => hf.elim)).trans hon (fun b hb _ => hb), hL'.imp id (fun h => by omega), fun g hg => (hu' g hg).imp id (fun h => by omega)⟩
      clear hsp hon hL' hu'
      go_wp2_with fail
      go_meet
      case rel => exact HR.out
    · have hK : K = [] := List.eq_nil_of_length_eq_zero (by have := HNn.out; omega)
      have HR : Hid (∃ M' v' L' u', Sparse w1 S p al T M' v' [] L' u' (mrg ks (srt K)) ∧ Only (fun b => b = S ∨ b = T) w w1 ∧ (L' = L ∨ w.heap.size ≤ L') ∧ (∀ g, u'.ownBlock = some g → u.ownBlock = some g ∨ w.heap.size ≤ g)) := by
        refine ⟨M, v, L, u, ?_, HO1.out.mono (fun _ hf _ => hf.elim), .inl rfl, fun g hg => .inl hg⟩
        have := HV.out w1 HO1.out
        rw [hK] at this ⊢
        rw [srt_nil, mrg_nil_right]
        exact this
      clear hK
      go_wp2_with fail
      go_meet
      case rel => exact HR.out
  case rest =>
    obtain ⟨M', v', L', u', hsp, hon, hL', hu'⟩ := hcut
    have c1 : wc.cell? ⟨S, 1, none⟩ = some (.int .u32 (N : Nat)) := by rw [HNp.out]; exact hsp.blk.cell 1
    have c4 : wc.cell? ⟨S, 4, none⟩ = some (.pointer (some ⟨L', 0, none⟩)) := hsp.blk.cell 4
    have hba : SkB (wc.alloc (.cells (madeCells #[.int .u8 0] N) 5)) S p al (.pointer (some ⟨T, 0, none⟩)) (.pointer (some ⟨L', 0, none⟩)) (.slice none 0 0) := Blk.alloc hsp.blk _
    have f5 := hba.frozen 5
    have c5 : (wc.alloc (.cells (madeCells #[.int .u8 0] N) 5)).cell? ⟨S, 5, none⟩ = some (.slice none 0 0) := hba.cell 5
    have hbb : SkB ((wc.alloc (.cells (madeCells #[.int .u8 0] N) 5)).setCell ⟨S, 5, none⟩ (.slice (some ⟨wc.heap.size, 0, none⟩) N N)) S p al (.pointer (some ⟨T, 0, none⟩)) (.pointer (some ⟨L', 0, none⟩)) (.slice (some ⟨wc.heap.size, 0, none⟩) N N) := Blk.set_ hba 5 _
    have c4b := hbb.cell 4
    have HBB := Lib.hid hbb
    have HSP := Lib.hid hsp
    have HON := Lib.hid hon
    have HU' := Lib.hid hu'
    clear hsp hon hu' c3 hba hbb c4
    obtain ⟨w2, hw2⟩ : ∃ w2, w2 = (wc.alloc (.cells (madeCells #[.int .u8 0] N) 5)).setCell ⟨S, 5, none⟩ (.slice (some ⟨wc.heap.size, 0, none⟩) N N) := ⟨_, rfl⟩
    have hwcs := HON.out.size
    have hon2' : Only (fun b => b = S) wc w2 := by rw [hw2]; exact ((Only.refl (fun b => b = S) wc).alloc _).setCell (fun _ => rfl) _
    have hon2 : Only (fun b => b = S ∨ b = T) w w2 := HON.out.trans hon2' (fun b hb _ => .inl hb)
    have hLc : L' < wc.heap.size := HSP.out.list.1.lt
    have hUc : ∀ g, u'.ownBlock = some g → g < wc.heap.size := HSP.out.list.2.1.lt
    have hl2 : CList w2 L' u' (mrg ks (srt K)) := HSP.out.list.only hon2' (HSP.out.list.1.ne_ HSP.out.blk (by decide)) (fun g hg e => HSP.out.list.2.1.blk_ne HSP.out.blk (by decide) (by rw [hg, e]))
    have hr2 : Row w2 5 .u8 (.slice (some ⟨wc.heap.size, 0, none⟩) N N) (table p ([].map (kv p))) := by
      have h := row_made wc 5 .u8 N (by omega)
      rw [List.map_nil, table_nil, ← HNp.out, hw2]
      exact h.only ((Only.refl (fun b => b = S) _).setCell (fun _ => rfl) _) (fun g hg e => by have h2 : wc.heap.size ≤ g := own_ge hg (Nat.le_refl _); have := Blk.lt HSP.out.blk; omega)
    have hw2s : wc.heap.size < w2.heap.size := by rw [hw2]; simp [World.setCell]
    obtain ⟨qs, hqs⟩ : ∃ qs, qs = mrg ks (srt K) := ⟨_, rfl⟩
    have hkq : Keys qs := by
      rw [hqs]
      refine ⟨rising_mrg _ _ HK.out.1 (rising_srt (HV.out w (Only.refl _ w)).set.nodup), fun k hk => ?_, ?_⟩
      · rcases (mem_mrg _ _).1 hk with h | h
        · exact HK.out.2.1 k h
        · exact (HV.out w (Only.refl _ w)).set.lt k (mem_srt.1 h)
      · have h3 := mrg_length ks (srt K)
        rw [srt_length] at h3
        have := HLN.out
        omega
    have hmem : table p (qs.map (kv p)) = table p ((K ++ ks).map (kv p)) := by
      refine table_congr fun q => ?_
      rw [hqs, List.mem_map, List.mem_map]
      constructor
      · rintro ⟨k, hk, rfl⟩
        refine ⟨k, ?_, rfl⟩
        rcases (mem_mrg _ _).1 hk with h | h
        · exact List.mem_append.2 (.inr h)
        · exact List.mem_append.2 (.inl (mem_srt.1 h))
      · rintro ⟨k, hk, rfl⟩
        refine ⟨k, (mem_mrg _ _).2 ?_, rfl⟩
        rcases List.mem_append.1 hk with h | h
        · exact .inr (mem_srt.2 h)
        · exact .inl h
    rw [← hqs] at hl2
    rw [← hw2] at HBB
    have HMEM := Lib.hid hmem
    have HKQ := Lib.hid hkq
    have HL2 := Lib.hid hl2
    have HR2 := Lib.hid hr2
    have HO2 := Lib.hid hon2
    have HUC := Lib.hid hUc
    have HW2 := Lib.hid hw2
    clear hw2 hon2' hon2 hUc hl2 hr2 hqs hkq hmem
    go_wp2_with fail
    rw [← HW2.out]
    refine (Iter_any L' w2).mono ?_
    rintro e w3 ⟨rfl, ho3⟩
    have hit0 : ItInv (w3.alloc (.cells #[.int .i64 (at_ [] : Nat), .int .u32 (lastOr 0 [] : Nat), .pointer (some ⟨L', 0, none⟩)] 82)) L' w3.heap.size u' qs 0 := ItInv.start (HL2.out.only ho3 (fun hf => hf) (fun _ _ hf => hf)) HKQ.out
    have ho3a : Only (fun _ => False) w2 (w3.alloc (.cells #[.int .i64 (at_ [] : Nat), .int .u32 (lastOr 0 [] : Nat), .pointer (some ⟨L', 0, none⟩)] 82)) := ho3.alloc _
    have HI0 := Lib.hid hit0
    have HO3 := Lib.hid ho3a
    have hs3 := ho3.size
    clear hit0 ho3a ho3 c4b c1 c5 f5
    go_wp2_with fail
    go_loopg [2] qs.length (fun g2 s2 wr => ∃ t I, g2 + t = qs.length ∧ s2 = .pointer (some ⟨I, 0, none⟩) ∧ w.heap.size ≤ I ∧ Hid (ItInv wr L' I u' qs t) ∧ Hid (SkB wr S p al (.pointer (some ⟨T, 0, none⟩)) (.pointer (some ⟨L', 0, none⟩)) (.slice (some ⟨wc.heap.size, 0, none⟩) N N)) ∧ Hid (Row wr 5 .u8 (.slice (some ⟨wc.heap.size, 0, none⟩) N N) (table p ((qs.take t).map (kv p)))) ∧ Hid (Only (fun b => b = S ∨ b = T) w wr) ∧ w2.heap.size ≤ wr.heap.size)
    case atStart =>
      exact ⟨0, w3.heap.size, by omega, rfl, by omega, HI0.out, Blk.only HBB.out HO3.out (fun hf => hf), by rw [List.take_zero]; exact HR2.out.only HO3.out (fun _ _ hf => hf), HO2.out.trans HO3.out (fun _ hf _ => hf.elim), HO3.out.size⟩
    case round =>
      obtain ⟨t, I, hg, rfl, hI, HIT, HB, HR, HO, hsz⟩ := hrel
      obtain ⟨a0, b0, d0⟩ := HIT.out.cells
      by_cases ht : t < qs.length
      · have HN1 := Lib.hid (hasNext_i HIT.out (Nat.le_of_lt ht))
        rw [decide_eq_true ht] at HN1
        obtain ⟨k, hkk⟩ : ∃ k, qs.getD t 0 = k := ⟨_, rfl⟩
        have hk32 : k < 4294967296 := by rw [← hkk]; exact HIT.out.key ht
        go_wp2_with fail
        refine HN1.out.mono ?_
        rintro e wa ⟨rfl, hoa⟩
        have hba := Blk.only HB.out hoa (fun hf => hf)
        have ka : wa.cell? ⟨S, 0, none⟩ = some (.int .u8 (p : Int)) := hba.cell 0
        have HNX : Hid (∀ W, Only (fun _ => False) wa W → Calls Tryd.prog 50 #[.pointer (some ⟨I, 0, none⟩)] W fun e w' => e = .returned (.int .u32 (k : Nat)) ∧ ItInv w' L' I u' qs (t + 1) ∧ Only (fun b => b = I) W w') := fun W hW => by
          have h := next_i ((HIT.out.same hoa).same hW) ht
          rw [hkk] at h
          exact h
        have HBA := Lib.hid hba
        have HOA := Lib.hid hoa
        have hSI : ¬ S = I := by omega
        clear hba hoa
        go_wp2_with fail
        go_region_held3 (fun w' => w'.cell? ⟨S, 0, none⟩ = some (.int .u8 (p : Int)))
          (first | go_keep | exact kb)
          (first
            | (go_at_call 50; refine (HNX.out _ ((Only.refl _ wa).drew)).mono ?_; rintro e wb ⟨rfl, hib, hob⟩; have HIB := Lib.hid hib; have HOB := Lib.hid (((Only.refl (fun b => b = I) wa).drew).trans hob (fun b hb _ => hb)); have HBBB := Lib.hid (Blk.only HBA.out HOB.out hSI); have kb : wb.cell? ⟨S, 0, none⟩ = some (.int .u8 (p : Int)) := HBBB.out.cell 0)
            | (go_at_call 100; refine (decodeHash_any k p _ hk32 h1 h2).mono ?_; rintro e wx ⟨rfl, rfl⟩)
            | fail)
        have hrow : Row wb 5 .u8 (.slice (some ⟨wc.heap.size, 0, none⟩) N N) (table p ((qs.take t).map (kv p))) := by
          refine (HR.out.only HOA.out (fun _ _ hf => hf)).only HOB.out (fun g hg e => ?_)
          exact HR.out.blk_ne HIT.out.at_ (by decide) (by rw [hg, e])
        have hlen : (table p ((qs.take t).map (kv p))).length = N := by rw [table_length, HNp.out]
        have HINS := Lib.hid (insert_any S p al (decIdx k p) (decVal k p) _ _ _ _ wb HBBB.out hrow (by rw [table_length]; exact decIdx_lt k p) (by have := decVal_lt k p; omega) table_byte (by omega))
        have HROW := Lib.hid hrow
        clear hrow hlen
        go_wp2_with fail
        refine HINS.out.mono ?_
        rintro e wd ⟨rfl, hrd, hod⟩
        have hown : (Value.slice (some ⟨wc.heap.size, 0, none⟩) N N).ownBlock = some wc.heap.size := rfl
        have hid : ItInv wd L' I u' qs (t + 1) := by
          refine HIB.out.only hod ?_ ?_ ?_
          · exact HROW.out.blk_ne HIB.out.at_ (by decide)
          · exact HROW.out.blk_ne HIB.out.list.1 (by decide)
          · intro g hg e
            rw [hown] at e
            injection e with e
            have := HUC.out g hg
            omega
        have hbd := Blk.only HBBB.out hod (HROW.out.blk_ne HBBB.out (by decide))
        have hrd' : Row wd 5 .u8 (.slice (some ⟨wc.heap.size, 0, none⟩) N N) (table p ((qs.take (t + 1)).map (kv p))) := by
          rw [list_take_succ qs t ht, List.map_append, hkk]
          rw [up_table] at hrd
          exact hrd
        have hwod : Only (fun b => b = S ∨ b = T) w wd := ((HO.out.trans HOA.out (fun _ hf _ => hf.elim)).trans HOB.out (fun b e hlt => by omega)).trans hod (fun b e hlt => by rw [hown] at e; injection e with e; omega)
        have hszd : w2.heap.size ≤ wd.heap.size := by have := HOA.out.size; have := HOB.out.size; have := hod.size; omega
        have HID := Lib.hid hid
        have HBD := Lib.hid hbd
        have HRD := Lib.hid hrd'
        have HOD := Lib.hid hwod
        obtain ⟨a5, b5, d5⟩ := hid.cells
        clear hid hbd hrd hrd' hod hwod hown
        go_wp2_with fail
        go_roundg (qs.length - (t + 1))
        case measure => omega
        case rel =>
          have hal : Only (fun _ => False) wd (wd.alloc (.cells #[.int .i64 (at_ (qs.take (t + 1)) : Nat), .int .u32 (lastOr 0 (qs.take (t + 1)) : Nat), .pointer (some ⟨L', 0, none⟩)] 82)) := (Only.refl _ wd).alloc _
          exact ⟨t + 1, wd.heap.size, by omega, rfl, by omega, HID.out.again, Blk.only HBD.out hal (fun hf => hf), HRD.out.only hal (fun _ _ hf => hf), HOD.out.trans hal (fun _ hf _ => hf.elim), by have := hal.size; omega⟩
      · have htt : qs.take t = qs := List.take_of_length_le (by omega)
        have HRT : Hid (Row wr 5 .u8 (.slice (some ⟨wc.heap.size, 0, none⟩) N N) (table p ((K ++ ks).map (kv p)))) := by
          have := HR.out
          rw [htt, HMEM.out] at this
          exact this
        have HN1 := Lib.hid (hasNext_i HIT.out (by omega))
        rw [decide_eq_false ht] at HN1
        clear htt ht
        go_wp2_with fail
        refine HN1.out.mono ?_
        rintro e wa ⟨rfl, hoa⟩
        have hba := Blk.only HB.out hoa (fun hf => hf)
        have f3 := hba.frozen 3
        have g3 := hba.cell 3
        have hb3 := Blk.set_ hba 3 (.pointer none)
        have f4 := hb3.frozen 4
        have g4 := hb3.cell 4
        have hb4 : SkB ((wa.setCell ⟨S, 3, none⟩ (.pointer none)).setCell ⟨S, 4, none⟩ (.pointer none)) S p al (.pointer none) (.pointer none) (.slice (some ⟨wc.heap.size, 0, none⟩) N N) := Blk.set_ hb3 4 (.pointer none)
        have ho4 : Only (fun b => b = S) wa ((wa.setCell ⟨S, 3, none⟩ (.pointer none)).setCell ⟨S, 4, none⟩ (.pointer none)) := ((Only.refl (fun b => b = S) wa).setCell (fun _ => rfl) _).setCell (fun _ => rfl) _
        have hr4 := (HRT.out.only hoa (fun _ _ hf => hf)).only ho4 (fun g hg e => (HRT.out.blk_ne HB.out (by decide)) (by rw [hg, e]))
        have HB4 := Lib.hid hb4
        have HR4 := Lib.hid hr4
        have HOE := Lib.hid ((HO.out.trans hoa (fun _ hf _ => hf.elim)).trans ho4 (fun b hb _ => .inl hb))
        clear hba hb3 hb4 ho4 hr4 hoa
        go_wp2_with fail
        go_end0
        refine ⟨rfl, _, ⟨HB4.out, HR4.out, by rw [table_length]⟩, HOE.out, fun g hg => ?_⟩
        have h2 : wc.heap.size ≤ g := own_ge hg (Nat.le_refl _)
        omega
end Go.Proofs.YtoegfdndoeiolaaDoor

/- Walks: a sketch, sparse or dense, as what its registers are; it is made dense where it has grown. Conditions: 4 to 18 bits; the keys are ones that a sketch may hold. -/
namespace Go.Proofs.YtoegfdndoeiolaaDoor
open Go.RowKit

/-- What is asked of the waiting keys and of the list; q: the bounds of a sketch in use hold too. -/
structure Fit (p : Nat) (q : Prop) (K ks : List Nat) : Prop where
  okK : ∀ k ∈ K, okKey k p
  lenK : K.length ≤ 2 ^ p
  valid : Valid p ks
  live : q → 100 * K.length ≤ 2 ^ p ∧ (encFrom 0 ks).length ≤ 2 ^ p

/-- A sketch at S whose registers are t; all its blocks are in F. -/
def SkD (w : World) (S p : Nat) (t : List Nat) (F : Nat → Prop) : Prop := ∃ al rv, Dense w S p al rv t ∧ (∀ v ∈ t, v ≤ 65 - p) ∧ ∀ g, rv.ownBlock = some g → F g
def SkS (w : World) (S p : Nat) (t : List Nat) (q : Prop) (F : Nat → Prop) : Prop :=
  ∃ al T M v K L u ks, Sparse w S p al T M v K L u ks ∧ Fit p q K ks ∧ t = table p ((K ++ ks).map (kv p)) ∧ F T ∧ F M ∧ F L ∧ (∀ g, v.ownBlock = some g → F g) ∧ ∀ g, u.ownBlock = some g → F g
structure Sk (w : World) (S p : Nat) (t : List Nat) (q : Prop) (F : Nat → Prop) : Prop where
  own : F S
  lt : ∀ b, F b → b < w.heap.size
  lo : 4 ≤ p
  hi : p ≤ 18
  is : SkD w S p t F ∨ SkS w S p t q F
section
variable {w w' : World} {S p : Nat} {t : List Nat} {q q' : Prop} {F X : Nat → Prop}
theorem SkD.only (h : SkD w S p t F) (ho : Only X w w') (hS : ¬ X S) (hn : ∀ b, F b → ¬ X b) : SkD w' S p t F := by
  obtain ⟨al, rv, hd, h1, h2⟩ := h
  exact ⟨al, rv, hd.only ho hS (fun g hg => hn g (h2 g hg)), h1, h2⟩
theorem SkS.only (h : SkS w S p t q F) (ho : Only X w w') (hS : ¬ X S) (hn : ∀ b, F b → ¬ X b) : SkS w' S p t q F := by
  obtain ⟨al, T, M, v, K, L, u, ks, hs, h1, h2, h3, h4, h5, h6, h7⟩ := h
  exact ⟨al, T, M, v, K, L, u, ks, hs.only ho hS (hn _ h3) (hn _ h4) (fun g hg => hn g (h6 g hg)) (hn _ h5) (fun g hg => hn g (h7 g hg)), h1, h2, h3, h4, h5, h6, h7⟩
theorem Sk.only (h : Sk w S p t q F) (ho : Only X w w') (hn : ∀ b, F b → ¬ X b) : Sk w' S p t q F :=
  ⟨h.own, fun b hb => Nat.lt_of_lt_of_le (h.lt b hb) ho.size, h.lo, h.hi, h.is.imp (fun k => k.only ho (hn _ h.own) hn) (fun k => k.only ho (hn _ h.own) hn)⟩
theorem Sk.same (h : Sk w S p t q F) (ho : Only (fun _ => False) w w') : Sk w' S p t q F := h.only ho (fun _ _ hf => hf)
theorem Fit.weak {K ks : List Nat} (h : Fit p q K ks) (hq : q' → q) : Fit p q' K ks := ⟨h.okK, h.lenK, h.valid, fun k => h.live (hq k)⟩
theorem Sk.weak (h : Sk w S p t q F) (hq : q' → q) : Sk w S p t q' F :=
  ⟨h.own, h.lt, h.lo, h.hi, h.is.imp id (fun ⟨al, T, M, v, K, L, u, ks, hs, h1, h2⟩ => ⟨al, T, M, v, K, L, u, ks, hs, h1.weak hq, h2⟩)⟩
theorem Sk.len (h : Sk w S p t q F) : t.length = 2 ^ p := by
  rcases h.is with ⟨al, rv, hd, _⟩ | ⟨al, T, M, v, K, L, u, ks, _, _, rfl, _⟩
  · exact hd.len
  · exact table_length _ _
theorem table_le {K : List Nat} (h : ∀ k ∈ K, okKey k p) : ∀ v ∈ table p (K.map (kv p)), v ≤ 65 - p := mem_table fun q hq => by
  obtain ⟨k, hk, rfl⟩ := List.mem_map.1 hq
  exact (h k hk).2
theorem Sk.le (h : Sk w S p t q F) : ∀ v ∈ t, v ≤ 65 - p := by
  rcases h.is with ⟨al, rv, _, h1, _⟩ | ⟨al, T, M, v, K, L, u, ks, _, hf, rfl, _⟩
  · exact h1
  · exact table_le fun k hk => by
      rcases List.mem_append.1 hk with h | h
      · exact hf.okK k h
      · exact hf.valid.2.1 k h
end
/-- What a sketch owns behind a step: what it owned, and what is new. -/
def Grown (F : Nat → Prop) (w w' : World) : Nat → Prop := fun b => b < w'.heap.size ∧ (F b ∨ w.heap.size ≤ b)
/-- What a step on the sketch gives: its registers are t, nothing else of what was there has turned. -/
def Turns (w : World) (S p : Nat) (t : List Nat) (q : Prop) (F : Nat → Prop) (w' : World) : Prop := ∃ F', Sk w' S p t q F' ∧ Only F w w' ∧ ∀ b, F' b → F b ∨ w.heap.size ≤ b
theorem Turns.refl {w : World} {S p : Nat} {t : List Nat} {q : Prop} {F : Nat → Prop} (h : Sk w S p t q F) : Turns w S p t q F w := ⟨F, h, Only.refl _ _, fun _ hb => .inl hb⟩
theorem Turns.trans {w w1 w2 : World} {S p : Nat} {t' : List Nat} {q' : Prop} {F F1 : Nat → Prop} (ho : Only F w w1) (hF : ∀ b, F1 b → F b ∨ w.heap.size ≤ b) (k : Turns w1 S p t' q' F1 w2) : Turns w S p t' q' F w2 := by
  obtain ⟨F2, hs, ho2, hF2⟩ := k
  refine ⟨F2, hs, ho.trans ho2 (fun b hb hlt => (hF b hb).elim id (fun h => by omega)), fun b hb => ?_⟩
  rcases hF2 b hb with h | h
  · exact hF b h
  · have := ho.size; exact .inr (by omega)
theorem enc_length_le : ∀ (ks : List Nat) (l : Nat), ks.length ≤ (encFrom l ks).length
  | [], l => by simp [encFrom]
  | k :: ks, l => by
    have h1 := enc_length_le ks k
    have h2 := varint_pos (k - l)
    simp only [encFrom, List.length_append, List.length_cons]
    omega
theorem mrg_table {p : Nat} {K ks : List Nat} : table p ((mrg ks (srt K)).map (kv p)) = table p ((K ++ ks).map (kv p)) := by
  refine table_congr fun q => ?_
  rw [List.mem_map, List.mem_map]
  constructor
  · rintro ⟨k, hk, rfl⟩
    refine ⟨k, ?_, rfl⟩
    rcases (mem_mrg _ _).1 hk with h | h
    · exact List.mem_append.2 (.inr h)
    · exact List.mem_append.2 (.inl (mem_srt.1 h))
  · rintro ⟨k, hk, rfl⟩
    refine ⟨k, (mem_mrg _ _).2 ?_, rfl⟩
    rcases List.mem_append.1 hk with h | h
    · exact .inr (mem_srt.2 h)
    · exact .inl h
theorem mrg_valid {p : Nat} {K ks : List Nat} (hK : ∀ k ∈ K, okKey k p) (hn : K.Nodup) (hk : Valid p ks) (hl : (mrg ks (srt K)).length < 33554432) : Valid p (mrg ks (srt K)) := by
  refine ⟨rising_mrg _ _ hk.1 (rising_srt hn), fun k h => ?_, hl⟩
  rcases (mem_mrg _ _).1 h with h | h
  · exact hk.2.1 k h
  · exact hK k (mem_srt.1 h)

/-- The registers of a sparse sketch, made dense. -/
theorem toNormal_sk (S p al T M L : Nat) (v u : Value) (K ks : List Nat) (w : World) (F : Nat → Prop) (h : Sparse w S p al T M v K L u ks) (h1 : 4 ≤ p) (h2 : p ≤ 18) (hK : ∀ k ∈ K, okKey k p) (hk : ∀ k ∈ ks, okKey k p) (hkk : Keys ks) (hl : K.length + ks.length < 536870912) (hFS : F S) (hFT : F T) :
    Calls Tryd.prog 82 #[.pointer (some ⟨S, 0, none⟩)] w fun e w' => e = .returned (.tuple #[]) ∧ ∃ F', SkD w' S p (table p ((K ++ ks).map (kv p))) F' ∧ Sk w' S p (table p ((K ++ ks).map (kv p))) True F' ∧ Only F w w' ∧ ∀ b, F' b → F b ∨ w.heap.size ≤ b := by
  refine (toNormal_any S p al T M L v u K ks w h hkk h1 h2 hl).mono ?_
  rintro e w' ⟨rfl, rv, hd, ho, hn⟩
  have hle : ∀ v ∈ table p ((K ++ ks).map (kv p)), v ≤ 65 - p := table_le fun k hk' => by
    rcases List.mem_append.1 hk' with h | h
    · exact hK k h
    · exact hk k h
  have hS := ho.size
  have hD : SkD w' S p (table p ((K ++ ks).map (kv p))) (fun b => b = S ∨ rv.ownBlock = some b) := ⟨al, rv, hd, hle, fun g hg => .inr hg⟩
  refine ⟨rfl, fun b => b = S ∨ rv.ownBlock = some b, hD, ⟨.inl rfl, ?_, h1, h2, .inl hD⟩, ho.mono (fun b hb _ => hb.elim (fun e => e ▸ hFS) (fun e => e ▸ hFT)), ?_⟩
  · rintro b (rfl | hb)
    · exact Blk.lt hd.blk
    · exact hd.row.lt b hb
  · rintro b (rfl | hb)
    · exact .inl hFS
    · exact .inr (hn b hb)

theorem cnt_word {n N : Nat} (h : n ≤ 1000000) : decide ((N : Int) < IntKind.u32.wrap (IntKind.u32.wrap (n : Int) * 100)) = decide (N < 100 * n) := by
  rw [IntKind.wrap_u32', IntKind.wrap_u32']
  apply decide_eq_decide.2
  omega
theorem len_word {n N : Nat} (h : n ≤ 4000000000) : decide ((N : Int) < IntKind.u32.wrap (n : Int)) = decide (N < n) := by
  rw [IntKind.wrap_u32']
  apply decide_eq_decide.2
  omega

set_option maxHeartbeats 1000000 in
set_option maxRecDepth 100000 in
theorem maybeToNormal_any (S p al T M L : Nat) (v u : Value) (K ks : List Nat) (w : World) (F : Nat → Prop) (h : Sparse w S p al T M v K L u ks) (h1 : 4 ≤ p) (h2 : p ≤ 18) (hK : ∀ k ∈ K, okKey k p) (hk : Valid p ks) (hb : (encFrom 0 ks).length ≤ 2 ^ p) (hl : K.length ≤ 1000000)
    (hFS : F S) (hFT : F T) (hFM : F M) (hFL : F L) (hFv : ∀ g, v.ownBlock = some g → F g) (hFu : ∀ g, u.ownBlock = some g → F g) (hlt : ∀ b, F b → b < w.heap.size) :
    Calls Tryd.prog 84 #[.pointer (some ⟨S, 0, none⟩)] w fun e w' => e = .returned (.tuple #[]) ∧ Turns w S p (table p ((K ++ ks).map (kv p))) True F w' := by
  have hpb := pow_bounds h1 h2
  obtain ⟨N, hN⟩ : ∃ N, N = 2 ^ p := ⟨_, rfl⟩
  have hkl : ks.length ≤ N := by have := enc_length_le ks 0; omega
  rw [← hN] at hpb
  obtain ⟨n, hn⟩ : ∃ n, K.length = n := ⟨_, rfl⟩
  have hnl : n ≤ 1000000 := by omega
  have hV : ∀ W, Only (fun _ => False) w W → Sparse W S p al T M v K L u ks := fun W hW => h.only hW (fun hf => hf) (fun hf => hf) (fun hf => hf) (fun _ _ hf => hf) (fun hf => hf) (fun _ _ hf => hf)
  have HL : Hid (∀ W, Only (fun _ => False) w W → Calls Tryd.prog 89 #[.agg #[.pointer (some ⟨T, 0, none⟩)]] W fun e w' => e = .returned (.int .i64 (n : Nat)) ∧ Only (fun _ => False) W w') := fun W hW => by
    rw [← hn]; exact sLen_any T M v K W (hV W hW).set
  have HC : Hid (∀ W, Only (fun _ => False) w W → W.cell? ⟨S, 3, none⟩ = some (.pointer (some ⟨T, 0, none⟩)) ∧ W.cell? ⟨S, 1, none⟩ = some (.int .u32 (N : Nat))) := fun W hW => by
    rw [hN]; exact ⟨(hV W hW).blk.cell 3, (hV W hW).blk.cell 1⟩
  have HMG : Hid (∀ W, Only (fun _ => False) w W → Calls Tryd.prog 62 #[.pointer (some ⟨S, 0, none⟩)] W fun e w' => e = .returned (.tuple #[]) ∧ MergedP W S p al T M L v u K ks w') := fun W hW =>
    mergeSparse_any S p al T M L v u K ks W (hV W hW) hk.keys (by omega)
  have HV := Lib.hid hV
  have HF : Hid (F S ∧ F T ∧ F M ∧ F L ∧ (∀ g, v.ownBlock = some g → F g) ∧ (∀ g, u.ownBlock = some g → F g) ∧ ∀ b, F b → b < w.heap.size) := ⟨hFS, hFT, hFM, hFL, hFv, hFu, hlt⟩
  have HNp := Lib.hid hN
  have HNn := Lib.hid hn
  have HK := Lib.hid hK
  have HKS := Lib.hid hk
  have HB := Lib.hid hb
  obtain ⟨c3, c1⟩ := HC.out w (Only.refl _ w)
  clear h hN hn hV hK hk hb hFS hFT hFM hFL hFv hFu hlt hl
  go_enter Tryd.func84, Tryd.ntmps84
  by_cases hgt : N < 100 * n
  · have hg2 : decide ((N : Int) < IntKind.u32.wrap (IntKind.u32.wrap (n : Int) * 100)) = true := by rw [cnt_word hnl]; exact decide_eq_true hgt
    clear hgt
    go_wp2_with fail
    go_region_held3 (fun w' => w'.cell? ⟨S, 3, none⟩ = some (.pointer (some ⟨T, 0, none⟩)) ∧ w'.cell? ⟨S, 1, none⟩ = some (.int .u32 (N : Nat)))
      (first | go_keep | exact ⟨k3, k1⟩)
      (first
        | (go_at_call 89; refine (HL.out _ ((Only.refl _ w).drew)).mono ?_; rintro e w1 ⟨rfl, ho1⟩; have HO1 := Lib.hid (((Only.refl (fun _ => False) w).drew).trans ho1 (fun _ hf _ => hf)); obtain ⟨k3, k1⟩ := HC.out w1 HO1.out)
        | fail)
    have HMW := Lib.hid (HMG.out w1 HO1.out)
    clear ho1
    go_wp2_with fail
    refine HMW.out.mono ?_
    rintro e w2 ⟨rfl, M', v', L', u', hsp, hon, hM', hv', hL', hu'⟩
    obtain ⟨m, hm⟩ : ∃ m, (encFrom 0 (mrg ks (srt K))).length = m := ⟨_, rfl⟩
    have hml : (mrg ks (srt K)).length ≤ ks.length + n := by have h3 := mrg_length ks (srt K); rw [srt_length, HNn.out] at h3; exact h3
    have hm1 : m ≤ 4000000000 := by
      rw [← hm]
      have h3 := encFrom_le 0 (mrg ks (srt K)) hsp.list.2.2
      omega
    have hqv : Valid p (mrg ks (srt K)) := mrg_valid HK.out (HV.out w (Only.refl _ w)).set.nodup HKS.out (by omega)
    have hs1 := HO1.out.size
    have hF1 : ∀ b, F b → b < w1.heap.size := fun b hb => by have := HF.out.2.2.2.2.2.2 b hb; omega
    have honF : Only F w w2 := (HO1.out.mono (fun _ hf _ => hf.elim)).trans hon (fun b hb _ => hb.elim (fun e => e ▸ HF.out.1) (fun e => e ▸ HF.out.2.1))
    have hT2 : ∃ F2 : Nat → Prop, F2 S ∧ F2 T ∧ F2 M' ∧ F2 L' ∧ (∀ g, v'.ownBlock = some g → F2 g) ∧ (∀ g, u'.ownBlock = some g → F2 g) ∧ (∀ b, F2 b → b < w2.heap.size) ∧ ∀ b, F2 b → F b ∨ w.heap.size ≤ b := by
      refine ⟨fun b => b < w2.heap.size ∧ (F b ∨ w.heap.size ≤ b), ⟨Blk.lt hsp.blk, .inl HF.out.1⟩, ⟨hsp.set.blk.lt, .inl HF.out.2.1⟩, ⟨hsp.set.map.lt, ?_⟩, ⟨hsp.list.1.lt, ?_⟩, fun g hg => ⟨hsp.set.row.lt g hg, ?_⟩, fun g hg => ⟨hsp.list.2.1.lt g hg, ?_⟩, fun b hb => hb.1, fun b hb => hb.2⟩
      · rcases hM' with rfl | h
        · exact .inl HF.out.2.2.1
        · exact .inr (by omega)
      · rcases hL' with rfl | h
        · exact .inl HF.out.2.2.2.1
        · exact .inr (by omega)
      · rw [hv'] at hg
        exact .inl (HF.out.2.2.2.2.1 g hg)
      · rcases hu' g hg with h | h
        · exact .inl (HF.out.2.2.2.2.2.1 g h)
        · exact .inr (by omega)
    obtain ⟨F2, f1, f2, f3, f4, f5, f6, f7, f8⟩ := hT2
    have HF2 : Hid (F2 S ∧ F2 T ∧ F2 M' ∧ F2 L' ∧ (∀ g, v'.ownBlock = some g → F2 g) ∧ (∀ g, u'.ownBlock = some g → F2 g) ∧ (∀ b, F2 b → b < w2.heap.size) ∧ ∀ b, F2 b → F b ∨ w.heap.size ≤ b) := ⟨f1, f2, f3, f4, f5, f6, f7, f8⟩
    have d4 : w2.cell? ⟨S, 4, none⟩ = some (.pointer (some ⟨L', 0, none⟩)) := hsp.blk.cell 4
    have d1 : w2.cell? ⟨S, 1, none⟩ = some (.int .u32 (N : Nat)) := by rw [HNp.out]; exact hsp.blk.cell 1
    have hV2 : ∀ W, Only (fun _ => False) w2 W → Sparse W S p al T M' v' [] L' u' (mrg ks (srt K)) := fun W hW => hsp.only hW (fun hf => hf) (fun hf => hf) (fun hf => hf) (fun _ _ hf => hf) (fun hf => hf) (fun _ _ hf => hf)
    have HLL : Hid (∀ W, Only (fun _ => False) w2 W → Calls Tryd.prog 78 #[.pointer (some ⟨L', 0, none⟩)] W fun e w' => e = .returned (.int .i64 (m : Nat)) ∧ W = w') := fun W hW => by
      rw [← hm]; exact Len_any L' u' _ W (hV2 W hW).list
    have HC2 : Hid (∀ W, Only (fun _ => False) w2 W → W.cell? ⟨S, 4, none⟩ = some (.pointer (some ⟨L', 0, none⟩)) ∧ W.cell? ⟨S, 1, none⟩ = some (.int .u32 (N : Nat))) := fun W hW => by
      rw [HNp.out]; exact ⟨(hV2 W hW).blk.cell 4, (hV2 W hW).blk.cell 1⟩
    have HV2 := Lib.hid hV2
    have HON := Lib.hid honF
    have HQV := Lib.hid hqv
    have HM := Lib.hid hm
    clear hsp hon hM' hv' hL' hu' f1 f2 f3 f4 f5 f6 f7 f8 hV2 honF hF1 hqv hm k3 k1 hml
    by_cases hbig : N < m
    · have hb2 : decide ((N : Int) < IntKind.u32.wrap (m : Int)) = true := by rw [len_word hm1]; exact decide_eq_true hbig
      clear hbig
      go_wp2_with fail
      go_region_held3 (fun w' => w'.cell? ⟨S, 4, none⟩ = some (.pointer (some ⟨L', 0, none⟩)) ∧ w'.cell? ⟨S, 1, none⟩ = some (.int .u32 (N : Nat)))
        (first | go_keep | exact HC2.out _ ((Only.refl _ w2).drew))
        (first
          | (go_at_call 78; refine (HLL.out _ ((Only.refl _ w2).drew)).mono ?_; rintro e w3 ⟨rfl, rfl⟩)
          | fail)
      have hd := (Only.refl (fun _ => False) w2).drew
      have HTN := Lib.hid (toNormal_sk S p al T M' L' v' u' [] (mrg ks (srt K)) _ F2 (HV2.out _ hd) h1 h2 (fun k hk => by cases hk) HQV.out.2.1 HQV.out.keys (by have := HQV.out.2.2; simp only [List.length_nil]; omega) HF2.out.1 HF2.out.2.1)
      clear hd
      go_wp2_with fail
      refine HTN.out.mono ?_
      rintro e w4 ⟨rfl, F4, _, hsk4, ho4, hF4⟩
      go_wp2_with fail
      go_end0
      rw [List.nil_append, mrg_table] at hsk4
      refine ⟨rfl, F4, hsk4, HON.out.drew.trans ho4 (fun b hb hlt => (HF2.out.2.2.2.2.2.2.2 b hb).elim id (fun h => by omega)), fun b hb => ?_⟩
      rcases hF4 b hb with h | h
      · exact HF2.out.2.2.2.2.2.2.2 b h
      · have := HON.out.size
        have e : w2.drew.heap.size = w2.heap.size := rfl
        exact .inr (by omega)
    · have hb2 : decide ((N : Int) < IntKind.u32.wrap (m : Int)) = false := by rw [len_word hm1]; exact decide_eq_false hbig
      go_wp2_with fail
      go_region_held3 (fun w' => w'.cell? ⟨S, 4, none⟩ = some (.pointer (some ⟨L', 0, none⟩)) ∧ w'.cell? ⟨S, 1, none⟩ = some (.int .u32 (N : Nat)))
        (first | go_keep | exact HC2.out _ ((Only.refl _ w2).drew))
        (first
          | (go_at_call 78; refine (HLL.out _ ((Only.refl _ w2).drew)).mono ?_; rintro e w3 ⟨rfl, rfl⟩)
          | fail)
      go_wp2_with fail
      go_end0
      have hsp := HV2.out _ ((Only.refl _ w2).drew)
      have hfit : Fit p True [] (mrg ks (srt K)) := ⟨fun k hk => (List.not_mem_nil hk).elim, Nat.zero_le _, HQV.out, fun _ => ⟨Nat.zero_le _, by rw [HM.out, ← HNp.out]; omega⟩⟩
      have htab : table p ((K ++ ks).map (kv p)) = table p (([] ++ mrg ks (srt K)).map (kv p)) := by rw [List.nil_append, mrg_table]
      exact ⟨rfl, F2, ⟨HF2.out.1, HF2.out.2.2.2.2.2.2.1, h1, h2, .inr ⟨al, T, M', v', [], L', u', _, hsp, hfit, htab, HF2.out.2.1, HF2.out.2.2.1, HF2.out.2.2.2.1, HF2.out.2.2.2.2.1, HF2.out.2.2.2.2.2.1⟩⟩, HON.out.drew, HF2.out.2.2.2.2.2.2.2⟩
  · have hg2 : decide ((N : Int) < IntKind.u32.wrap (IntKind.u32.wrap (n : Int) * 100)) = false := by rw [cnt_word hnl]; exact decide_eq_false hgt
    go_wp2_with fail
    go_region_held3 (fun w' => w'.cell? ⟨S, 3, none⟩ = some (.pointer (some ⟨T, 0, none⟩)) ∧ w'.cell? ⟨S, 1, none⟩ = some (.int .u32 (N : Nat)))
      (first | go_keep | exact ⟨k3, k1⟩)
      (first
        | (go_at_call 89; refine (HL.out _ ((Only.refl _ w).drew)).mono ?_; rintro e w1 ⟨rfl, ho1⟩; have HO1 := Lib.hid (((Only.refl (fun _ => False) w).drew).trans ho1 (fun _ hf _ => hf)); obtain ⟨k3, k1⟩ := HC.out w1 HO1.out)
        | fail)
    go_wp2_with fail
    go_end0
    have hsp := HV.out w1 HO1.out
    have hs1 := HO1.out.size
    obtain ⟨f1, f2, f3, f4, f5, f6, f7⟩ := HF.out
    refine ⟨rfl, F, ⟨f1, fun b hb => by have := f7 b hb; omega, h1, h2, .inr ⟨al, T, M, v, K, L, u, ks, hsp, ⟨HK.out, ?_, HKS.out, fun _ => ⟨?_, HB.out⟩⟩, rfl, f2, f3, f4, f5, f6⟩⟩, HO1.out.mono (fun _ hf _ => hf.elim), fun b hb => .inl hb⟩
    · rw [HNn.out, ← HNp.out]; omega
    · rw [HNn.out, ← HNp.out]; omega
end Go.Proofs.YtoegfdndoeiolaaDoor

/- Walks: a hash is put into a sketch, and hashes one after the other. Conditions: the sketch is one in use; the hashes are 64-bit numbers. -/
namespace Go.Proofs.YtoegfdndoeiolaaDoor
open Go.RowKit

/-- What 'add' says, as a Bool. -/
theorem add_b (T M k : Nat) (v : Value) (K : List Nat) (w : World) (h : USet w T v M K) (hk : k < 4294967296) (hl : K.length < 1099511627776) :
    Calls Tryd.prog 70 #[.agg #[.pointer (some ⟨T, 0, none⟩)], .int .u32 k] w fun e w' => ∃ b, e = .returned (.bool b) ∧
      ((b = false ∧ k ∈ K ∧ Only (fun _ => False) w w') ∨ (b = true ∧ k ∉ K ∧ ∃ v', USet w' T v' M (K ++ [k]) ∧ Only (fun b => b = T ∨ b = M ∨ v.ownBlock = some b) w w' ∧ Lies w v v')) := by
  refine (add_any T M k v K w h hk hl).mono ?_
  rintro e w' (⟨h1, h2, _, h4⟩ | ⟨h1, h2, h3⟩)
  · exact ⟨false, h2, .inl ⟨rfl, h1, h4⟩⟩
  · exact ⟨true, h2, .inr ⟨rfl, h1, h3⟩⟩

set_option maxRecDepth 100000 in
theorem InsertHash_dense (S p x : Nat) (t : List Nat) (w : World) (F : Nat → Prop) (h : SkD w S p t F) (hx : x < 18446744073709551616) (h1 : 4 ≤ p) (h2 : p ≤ 18) (hFS : F S) (hlt : ∀ b, F b → b < w.heap.size) :
    Calls Tryd.prog 58 #[.pointer (some ⟨S, 0, none⟩), .int .u64 x] w fun e w' => e = .returned (.tuple #[]) ∧ Turns w S p (up t (posN x p) (valN x p)) True F w' := by
  obtain ⟨al, rv, hd, hle, hF⟩ := h
  have hpb := pow_bounds h1 h2
  have hpos : posN x p < 2 ^ p := pos_lt x p hx h2
  have hp0 : ((p : Int) == 0) = false := by rw [beq_eq_false_iff_ne]; omega
  have c0 : w.cell? ⟨S, 0, none⟩ = some (.int .u8 (p : Int)) := hd.blk.cell 0
  have c4 : w.cell? ⟨S, 4, none⟩ = some (.pointer none) := hd.blk.cell 4
  have hvl := val_le x p
  have HI := Lib.hid (insert_any S p al (posN x p) (valN x p) _ _ rv t w hd.blk hd.row (by rw [hd.len]; exact hpos) (by omega) (fun v hv => by have := hle v hv; omega) (by rw [hd.len]; omega))
  have HP : Hid (posN x p < 4294967296) := by show _ < _; omega
  have hwr : IntKind.u32.wrap ((posN x p : Nat) : Int) = ((posN x p : Nat) : Int) := by rw [IntKind.wrap_u32']; have := HP.out; omega
  have HD := Lib.hid hd
  have HLE := Lib.hid hle
  have HF := Lib.hid hF
  have HLT := Lib.hid hlt
  clear hd hle hF hpos hvl hlt
  go_enter Tryd.func58, Tryd.ntmps58
  go_wp2_with fail
  refine (sparse_no S w c4).mono ?_
  rintro e w1 ⟨rfl, rfl⟩
  go_wp2_with fail
  refine (getPosVal_any x p w hx h1 h2).mono ?_
  rintro e w1 ⟨rfl, rfl⟩
  go_wp2_with fail
  refine HI.out.mono ?_
  rintro e w1 ⟨rfl, hr, ho⟩
  go_wp2_with fail
  go_end0
  have hd1 : Dense w1 S p al rv (up t (posN x p) (valN x p)) := ⟨Blk.only HD.out.blk ho (HD.out.row.blk_ne HD.out.blk (by decide)), hr, by rw [up_length]; exact HD.out.len⟩
  refine ⟨rfl, F, ⟨hFS, fun b hb => Nat.lt_of_lt_of_le (HLT.out b hb) ho.size, h1, h2, .inl ⟨al, rv, hd1, fun v hv => ?_, HF.out⟩⟩, ho.mono (fun b hb _ => HF.out b hb), fun b hb => .inl hb⟩
  unfold up at hv
  rcases List.mem_or_eq_of_mem_set hv with h | rfl
  · exact HLE.out v h
  · have h3 := val_le x p
    have h4 : t.getD (posN x p) 0 ≤ 65 - p := by
      rw [List.getD_eq_getElem?_getD, List.getElem?_eq_getElem (by rw [HD.out.len]; exact pos_lt x p hx h2)]
      exact HLE.out _ (List.getElem_mem _)
    omega

set_option maxHeartbeats 1000000 in
set_option maxRecDepth 100000 in
theorem InsertHash_sparse (S p x : Nat) (t : List Nat) (w : World) (F : Nat → Prop) (h : SkS w S p t True F) (hx : x < 18446744073709551616) (h1 : 4 ≤ p) (h2 : p ≤ 18) (hFS : F S) (hlt : ∀ b, F b → b < w.heap.size) :
    Calls Tryd.prog 58 #[.pointer (some ⟨S, 0, none⟩), .int .u64 x] w fun e w' => e = .returned (.tuple #[]) ∧ Turns w S p (up t (posN x p) (valN x p)) True F w' := by
  obtain ⟨al, T, M, v, K, L, u, ks, hs, hfit, rfl, hFT, hFM, hFL, hFv, hFu⟩ := h
  have hpb := pow_bounds h1 h2
  have hp0 : ((p : Int) == 0) = false := by rw [beq_eq_false_iff_ne]; omega
  have c0 : w.cell? ⟨S, 0, none⟩ = some (.int .u8 (p : Int)) := hs.blk.cell 0
  have c3 : w.cell? ⟨S, 3, none⟩ = some (.pointer (some ⟨T, 0, none⟩)) := hs.blk.cell 3
  have c4 : w.cell? ⟨S, 4, none⟩ = some (.pointer (some ⟨L, 0, none⟩)) := hs.blk.cell 4
  have hok := okKey_enc x p hx h1 h2
  obtain ⟨k, hk⟩ : ∃ k, encN x p = k := ⟨_, rfl⟩
  have hkv : kv p k = hv p x := by rw [← hk]; exact kv_enc hx h1 h2
  rw [hk] at hok
  have hk32 : k < 4294967296 := hok.1
  have hlive := hfit.live trivial
  have hKl : K.length ≤ 2621 := by omega
  have hV : ∀ W, Only (fun _ => False) w W → Sparse W S p al T M v K L u ks := fun W hW => hs.only hW (fun hf => hf) (fun hf => hf) (fun hf => hf) (fun _ _ hf => hf) (fun hf => hf) (fun _ _ hf => hf)
  have HA : Hid (∀ W, Only (fun _ => False) w W → Calls Tryd.prog 70 #[.agg #[.pointer (some ⟨T, 0, none⟩)], .int .u32 k] W fun e w' => ∃ b, e = .returned (.bool b) ∧
      ((b = false ∧ k ∈ K ∧ Only (fun _ => False) W w') ∨ (b = true ∧ k ∉ K ∧ ∃ v', USet w' T v' M (K ++ [k]) ∧ Only (fun b => b = T ∨ b = M ∨ v.ownBlock = some b) W w' ∧ Lies W v v'))) := fun W hW =>
    add_b T M k v K W (hV W hW).set hk32 (by omega)
  have HE : Hid (∀ W, Calls Tryd.prog 45 #[.int .u64 x, .int .u8 p, .int .u8 25] W fun e w' => e = .returned (.int .u32 (k : Nat)) ∧ W = w') := fun W => by
    rw [← hk]; exact encodeHash_any x p W hx h1 h2
  obtain ⟨t0, ht0⟩ : ∃ t0, t0 = up (table p ((K ++ ks).map (kv p))) (posN x p) (valN x p) := ⟨_, rfl⟩
  rw [← ht0]
  have HT : Hid (t0 = table p ((K ++ [k] ++ ks).map (kv p))) := by
    show _ = _
    rw [ht0, up_table]
    refine table_congr fun q => ?_
    have hq : (posN x p, valN x p) = kv p k := hkv.symm
    rw [hq]
    simp only [List.mem_append, List.mem_map, List.mem_singleton]
    constructor
    · rintro (⟨c, hc, rfl⟩ | rfl)
      · exact ⟨c, hc.elim (fun h => .inl (.inl h)) .inr, rfl⟩
      · exact ⟨k, .inl (.inr rfl), rfl⟩
    · rintro ⟨c, (hc | rfl) | hc, rfl⟩
      · exact .inl ⟨c, .inl hc, rfl⟩
      · exact .inr rfl
      · exact .inl ⟨c, .inr hc, rfl⟩
  have HV := Lib.hid hV
  have HFIT := Lib.hid hfit
  have HOK := Lib.hid hok
  have HLV := Lib.hid hlive
  have HF : Hid (F S ∧ F T ∧ F M ∧ F L ∧ (∀ g, v.ownBlock = some g → F g) ∧ (∀ g, u.ownBlock = some g → F g) ∧ ∀ b, F b → b < w.heap.size) := ⟨hFS, hFT, hFM, hFL, hFv, hFu, hlt⟩
  clear hs hfit hFT hFM hFL hFv hFu hV hlive hok hk hkv hlt hFS ht0
  go_enter Tryd.func58, Tryd.ntmps58
  go_wp2_with fail
  refine (sparse_yes S _ w c4).mono ?_
  rintro e w1 ⟨rfl, rfl⟩
  go_wp2_with fail
  go_region_held3 (fun w' => w'.cell? ⟨S, 0, none⟩ = some (.int .u8 (p : Int)) ∧ w'.cell? ⟨S, 3, none⟩ = some (.pointer (some ⟨T, 0, none⟩)))
    (first | go_keep | exact hkeep)
    (first
      | (go_at_call 45; refine (HE.out _).mono ?_; rintro e wx ⟨rfl, rfl⟩)
      | (go_at_call 70; refine (HA.out _ ((Only.refl _ w).drew)).mono ?_; rintro e wb ⟨b, rfl, hb⟩
         have HBP := Lib.hid hb
         have hkeep : wb.cell? ⟨S, 0, none⟩ = some (.int .u8 (p : Int)) ∧ wb.cell? ⟨S, 3, none⟩ = some (.pointer (some ⟨T, 0, none⟩)) := (by
           have hbl := (HV.out _ ((Only.refl _ w).drew)).blk
           have hss := (HV.out _ ((Only.refl _ w).drew)).set
           have hx : SkB wb S p al (.pointer (some ⟨T, 0, none⟩)) (.pointer (some ⟨L, 0, none⟩)) (.slice none 0 0) := by
             rcases HBP.out with ⟨_, _, ho⟩ | ⟨_, _, v', _, ho, _⟩
             · exact Blk.only hbl ho (fun hf => hf)
             · refine Blk.only hbl ho ?_
               rintro (e | e | e)
               · exact hss.blk.ne_ hbl (by decide) e.symm
               · exact hss.map.ne hbl e.symm
               · exact hss.row.blk_ne hbl (by decide) e
           exact ⟨hx.cell 0, hx.cell 3⟩)
         clear hb)
      | fail)
  cases b
  · have hb := HBP.out
    have hcl : k ∈ K ∧ Only (fun _ => False) w wb := by
      rcases hb with ⟨_, h1, h2⟩ | ⟨h, _⟩
      · exact ⟨h1, ((Only.refl (fun _ => False) w).drew).trans h2 (fun _ hf _ => hf)⟩
      · exact absurd h (by decide)
    have HCL := Lib.hid hcl
    clear hb hcl
    go_wp2_with fail
    refine bodyPost_ret (results_none rfl _ _ _) rfl ⟨rfl, F, ⟨HF.out.1, fun b hb => Nat.lt_of_lt_of_le (HF.out.2.2.2.2.2.2 b hb) HCL.out.2.size, h1, h2, .inr ⟨al, T, M, v, K, L, u, ks, HV.out wb HCL.out.2, HFIT.out, ?_, HF.out.2.1, HF.out.2.2.1, HF.out.2.2.2.1, HF.out.2.2.2.2.1, HF.out.2.2.2.2.2.1⟩⟩, HCL.out.2.mono (fun _ hf _ => hf.elim), fun b hb => .inl hb⟩
    rw [HT.out]
    refine table_congr fun q => ?_
    simp only [List.mem_append, List.mem_map, List.mem_singleton]
    constructor
    · rintro ⟨c, (hc | rfl) | hc, rfl⟩
      · exact ⟨c, .inl hc, rfl⟩
      · exact ⟨c, .inl HCL.out.1, rfl⟩
      · exact ⟨c, .inr hc, rfl⟩
    · rintro ⟨c, hc | hc, rfl⟩
      · exact ⟨c, .inl (.inl hc), rfl⟩
      · exact ⟨c, .inr hc, rfl⟩
  · have hcl : ∃ v', k ∉ K ∧ USet wb T v' M (K ++ [k]) ∧ Only (fun b => b = T ∨ b = M ∨ v.ownBlock = some b) w wb ∧ Lies w v v' := by
      rcases HBP.out with ⟨h, _⟩ | ⟨_, h1, v', h2, h3, h4⟩
      · exact absurd h (by decide)
      · exact ⟨v', h1, h2, ((Only.refl _ w).drew).trans h3 (fun _ hb _ => hb), h4⟩
    obtain ⟨v', hnk, hset, hob, hlies⟩ := hcl
    have hsp := HV.out w (Only.refl _ w)
    obtain ⟨f1, f2, f3, f4, f5, f6, f7⟩ := HF.out
    have hsp' : Sparse wb S p al T M v' (K ++ [k]) L u ks := by
      refine ⟨Blk.only hsp.blk hob ?_, hset, hsp.list.only hob ?_ ?_⟩
      · rintro (e | e | e)
        · exact hsp.set.blk.ne_ hsp.blk (by decide) e.symm
        · exact hsp.set.map.ne hsp.blk e.symm
        · exact hsp.set.row.blk_ne hsp.blk (by decide) e
      · rintro (e | e | e)
        · exact hsp.set.blk.ne_ hsp.list.1 (by decide) e.symm
        · exact hsp.set.map.ne hsp.list.1 e.symm
        · exact hsp.set.row.blk_ne hsp.list.1 (by decide) e
      · rintro g hg (e | e | e)
        · exact hsp.list.2.1.blk_ne hsp.set.blk (by decide) (by rw [hg, e])
        · exact hsp.set.map.row_ne hsp.list.2.1 (by rw [hg, e])
        · exact hsp.list.2.1.row_ne hsp.set.row (by decide) g hg e
    have hFv' : ∀ g, v'.ownBlock = some g → F g ∨ w.heap.size ≤ g := by
      intro g hg
      rcases hlies with e | ⟨g', e, hge⟩
      · exact .inl (f5 g (by rw [← e]; exact hg))
      · rw [hg] at e; injection e with e; exact .inr (by omega)
    have hsz := hob.size
    have HM := Lib.hid (maybeToNormal_any S p al T M L v' u (K ++ [k]) ks wb (Grown F w wb) hsp' h1 h2 (fun c hc => (List.mem_append.1 hc).elim (HFIT.out.okK c) (fun h => by rw [List.mem_singleton] at h; subst h; exact HOK.out)) HFIT.out.valid HLV.out.2
      (by rw [List.length_append]; simp only [List.length_singleton]; omega)
      ⟨by have := f7 S f1; omega, .inl f1⟩ ⟨by have := f7 T f2; omega, .inl f2⟩ ⟨by have := f7 M f3; omega, .inl f3⟩ ⟨by have := f7 L f4; omega, .inl f4⟩ (fun g hg => ⟨hset.row.lt g hg, hFv' g hg⟩) (fun g hg => ⟨by have := f7 g (f6 g hg); omega, .inl (f6 g hg)⟩) (fun b hb => hb.1))
    have HOB := Lib.hid (hob.mono (T := F) (fun b hb _ => by
      rcases hb with e | e | e
      · exact e ▸ f2
      · exact e ▸ f3
      · exact f5 b e))
    clear hsp hsp' hFv' hset hob hlies f1 f2 f3 f4 f5 f6 f7 hnk
    go_wp2_with fail
    refine HM.out.mono ?_
    rintro e wd ⟨rfl, hT⟩
    go_wp2_with fail
    refine bodyPost_ret (results_none rfl _ _ _) rfl ⟨rfl, ?_⟩
    rw [HT.out]
    exact Turns.trans HOB.out (fun b hb => hb.2) hT

/-- A hash is put into a sketch. -/
theorem InsertHash_any (S p x : Nat) (t : List Nat) (w : World) (F : Nat → Prop) (h : Sk w S p t True F) (hx : x < 18446744073709551616) :
    Calls Tryd.prog 58 #[.pointer (some ⟨S, 0, none⟩), .int .u64 x] w fun e w' => e = .returned (.tuple #[]) ∧ Turns w S p (up t (posN x p) (valN x p)) True F w' := by
  rcases h.is with hd | hs
  · exact InsertHash_dense S p x t w F hd hx h.lo h.hi h.own h.lt
  · exact InsertHash_sparse S p x t w F hs hx h.lo h.hi h.own h.lt

/-- Hashes put in one after the other. -/
def ups (p : Nat) (t : List Nat) (xs : List Nat) : List Nat := xs.foldl (fun r x => up r (posN x p) (valN x p)) t
theorem ups_snoc (p : Nat) (t xs : List Nat) (x : Nat) : ups p t (xs ++ [x]) = up (ups p t xs) (posN x p) (valN x p) := by simp [ups]
theorem ups_table (p : Nat) (P : List (Nat × Nat)) (xs : List Nat) : ups p (table p P) xs = table p (P ++ xs.map (hv p)) := by
  rw [← fold_table, List.foldl_map]
  rfl

theorem fill_any (S p : Nat) (t : List Nat) (w : World) (F : Nat → Prop) (A : Option Addr) (n c B : Nat) (xs : List Nat) (h : Sk w S p t True F) (hxs : Nums w B .u64 A n xs) (hB : B ≤ w.heap.size) (hx : ∀ x ∈ xs, x < 18446744073709551616) (hn : n < 1099511627776) (hF : 0 < n → ∀ ad, A = some ad → ¬ F ad.block) :
    Calls Tryd.prog 36 #[.pointer (some ⟨S, 0, none⟩), .slice A n c] w fun e w' => e = .returned (.pointer (some ⟨S, 0, none⟩)) ∧ Turns w S p (ups p t xs) True F w' := by
  have hlen := hxs.1
  have H0 := Lib.hid (Turns.refl h)
  have HX := Lib.hid hxs
  have HX64 := Lib.hid hx
  have HF := Lib.hid hF
  have HFL := Lib.hid h.lt
  clear h hxs hx hF
  go_enter Tryd.func36, Tryd.ntmps36
  go_wp2_with fail
  go_loopg [9] n (fun g s9 wr => ∃ i, g + i = n ∧ s9 = .int .i64 (i : Nat) ∧ Hid (Turns w S p (ups p t (xs.take i)) True F wr))
  case atStart => exact ⟨0, by omega, rfl, H0.out⟩
  case round =>
    obtain ⟨i, hg, rfl, HT⟩ := hrel
    by_cases hi : i < n
    · obtain ⟨F1, hs1, ho1, hF1⟩ := HT.out
      have hnr : Nums wr B .u64 A n xs := HX.out.only hB ho1 (HF.out (by omega))
      obtain ⟨ad, rfl, _, hc⟩ := hnr.at_ hi
      obtain ⟨x, hxx⟩ : ∃ x, xs.getD i 0 = x := ⟨_, rfl⟩
      rw [hxx] at hc
      have hx64 : x < 18446744073709551616 := by
        rw [← hxx, List.getD_eq_getElem?_getD, List.getElem?_eq_getElem (by omega)]
        exact HX64.out _ (List.getElem_mem _)
      have HI := Lib.hid (InsertHash_any S p x _ wr F1 hs1 hx64)
      have HO1 := Lib.hid ho1
      have HF1 := Lib.hid hF1
      have htk : xs.take (i + 1) = xs.take i ++ [x] := by rw [← hxx]; exact list_take_succ xs i (by omega)
      have HTK := Lib.hid htk
      clear hs1 ho1 hF1 hnr htk
      go_wp2_with fail
      refine HI.out.mono ?_
      rintro e w2 ⟨rfl, hT2⟩
      have HT2 : Hid (Turns w S p (ups p t (xs.take (i + 1))) True F w2) := by
        have := Turns.trans HO1.out HF1.out hT2
        rw [← ups_snoc, ← HTK.out] at this
        exact this
      clear hT2
      go_wp2_with fail
      go_roundg (n - (i + 1))
      case measure => omega
      case rel => exact ⟨i + 1, by omega, by go_num, HT2.out⟩
    · have hin : i = n := by omega
      have hT := HT.out
      rw [List.take_of_length_le (by omega)] at hT
      have HT1 := Lib.hid hT
      clear hT
      go_wp2_with fail
      go_ret
      exact ⟨rfl, HT1.out⟩
end Go.Proofs.YtoegfdndoeiolaaDoor

/- Walks: a sparse sketch's state is told; a sketch's registers, whatever its form. Conditions: the list's keys rise and are below 2^32; fewer keys than a machine holds. -/
namespace Go.Proofs.YtoegfdndoeiolaaDoor
open Go.RowKit

theorem state_keep2 {w2 w3 : World} {S q : Nat} {a0 a1 a2 a3 a4 a5 qv : Value} (hb : Blk w2 S 74 #[a0, a1, a2, a3, a4, a5]) (hq : Blk w2 q 24 #[qv]) (ho : Only (fun g => (Value.slice none 0 0).ownBlock = some g) w2.drew w3) (hne : S ≠ q) :
    (w3.cell? ⟨S, 0, none⟩ = some a0 ∧ w3.cell? ⟨S, 4, none⟩ = some a4 ∧ w3.cell? ⟨S, 5, none⟩ = some a5 ∧ w3.cell? ⟨q, 0, none⟩ = some qv ∧ w3.frozen? ⟨q, 0, none⟩ = false) ∧
    ((w3.setCell ⟨q, 0, none⟩ qv).cell? ⟨S, 0, none⟩ = some a0 ∧ (w3.setCell ⟨q, 0, none⟩ qv).cell? ⟨S, 4, none⟩ = some a4 ∧ (w3.setCell ⟨q, 0, none⟩ qv).cell? ⟨S, 5, none⟩ = some a5 ∧
      (w3.setCell ⟨q, 0, none⟩ qv).cell? ⟨q, 0, none⟩ = some qv ∧ (w3.setCell ⟨q, 0, none⟩ qv).frozen? ⟨q, 0, none⟩ = false) := by
  have hb3 : Blk w3 S 74 #[a0, a1, a2, a3, a4, a5] := hb.drew.only ho (by simp [Value.ownBlock])
  have hq3 : Blk w3 q 24 #[qv] := hq.drew.only ho (by simp [Value.ownBlock])
  have hb4 : Blk (w3.setCell ⟨q, 0, none⟩ qv) S 74 #[a0, a1, a2, a3, a4, a5] := hb3.far hne _
  have hq4 := hq3.set_ 0 qv
  exact ⟨⟨hb3.cell 0, hb3.cell 4, hb3.cell 5, hq3.cell 0, hq3.frozen 0⟩, hb4.cell 0, hb4.cell 4, hb4.cell 5, hq4.cell 0, hq4.frozen 0⟩

set_option maxHeartbeats 1000000 in
set_option maxRecDepth 100000 in
theorem ZZState_sparse (S p al T M L : Nat) (v u : Value) (K ks : List Nat) (w : World) (h : Sparse w S p al T M v K L u ks) (hk : Keys ks) (hl : K.length < 1099511627776) :
    Calls Tryd.prog 37 #[.pointer (some ⟨S, 0, none⟩)] w fun e w' =>
      ∃ v1 v2 v3, e = .returned (.tuple #[.int .u8 p, .bool true, v1, v2, v3]) ∧ Only (fun _ => False) w w' := by
  have hmf := hmf
  obtain ⟨i0, hi, hz0, hz1, hz2⟩ := info_parts info_u32
  obtain ⟨j0, hj, jz0, jz1, jz2⟩ := info_parts info_u8
  have hklen := hk.2.2
  have hV : ∀ W, Only (fun _ => False) w W → Sparse W S p al T M v K L u ks := fun W hW => h.only hW (fun hf => hf) (fun hf => hf) (fun hf => hf) (fun _ _ hf => hf) (fun hf => hf) (fun _ _ hf => hf)
  have hoa : Only (fun _ => False) w (w.alloc (.cells #[.slice none 0 0] 24)) := (Only.refl _ w).alloc _
  have hq0 := Blk.new w 24 #[.slice none 0 0]
  have HCOL := Lib.hid (collectState_any T M w.heap.size v (.slice none 0 0) K _ (hV _ hoa).set hq0 (Row.nil_ _ _ _) (by simp [Value.ownBlock]) hl)
  have hSlt : S < w.heap.size := Blk.lt h.blk
  have c3 : (w.alloc (.cells #[.slice none 0 0] 24)).cell? ⟨S, 3, none⟩ = some (.pointer (some ⟨T, 0, none⟩)) := (hV _ hoa).blk.cell 3
  have HV := Lib.hid hV
  have HK := Lib.hid hk
  have HOA := Lib.hid hoa
  clear h hk hV hoa hq0
  go_enter Tryd.func37, Tryd.ntmps37
  go_wp2_with fail
  refine HCOL.out.mono ?_
  rintro e w1 ⟨rfl, v4, hq1, hrw, ho1', _⟩
  obtain ⟨A4, cp4, rfl, _⟩ := hrw.nums
  have ho1 : Only (fun _ => False) w w1 := HOA.out.trans ho1' (by
    rintro b (e | e) hlt
    · omega
    · simp [Value.ownBlock] at e)
  have HO1 := Lib.hid ho1
  have HQ1 := Lib.hid hq1
  have c4 : w1.cell? ⟨S, 4, none⟩ = some (.pointer (some ⟨L, 0, none⟩)) := (HV.out w1 ho1).blk.cell 4
  clear ho1 ho1' hq1 c3 hrw
  go_wp2_with fail
  refine (Iter_any L w1).mono ?_
  rintro e w2 ⟨rfl, ho2⟩
  have hit0 := ItInv.start (HV.out w2 (HO1.out.trans ho2 (fun _ hf _ => hf))).list HK.out
  have HI0 := Lib.hid hit0
  have HO2 := Lib.hid (HO1.out.trans ho2 (fun _ hf _ => hf))
  have HQ2 := Lib.hid (HQ1.out.only ho2 (fun hf => hf))
  clear hit0 ho2 c4
  go_wp2_with fail
  go_loopg [5, 7] ks.length (fun g s5 s7 wr => ∃ t I, g + t = ks.length ∧ s7 = .pointer (some ⟨I, 0, none⟩) ∧ w.heap.size ≤ I ∧ Hid (ItInv wr L I u ks t) ∧ Hid (Row wr 26 .u32 s5 (ks.take t)) ∧ Hid (∀ g, s5.ownBlock = some g → w.heap.size ≤ g) ∧ Hid (Only (fun _ => False) w wr) ∧ Hid (Blk wr w.heap.size 24 #[.slice A4 K.length cp4]))
  case atStart =>
    have hal : Only (fun _ => False) w2 (w2.alloc (.cells #[.int .i64 (at_ [] : Nat), .int .u32 (lastOr 0 [] : Nat), .pointer (some ⟨L, 0, none⟩)] 82)) := (Only.refl _ w2).alloc _
    exact ⟨0, w2.heap.size, by omega, rfl, HO2.out.size, HI0.out, Row.nil_ _ _ _, (fun g hg => by simp [Value.ownBlock] at hg), HO2.out.trans hal (fun _ hf _ => hf), HQ2.out.only hal (fun hf => hf)⟩
  case round =>
    obtain ⟨t, I, hg, rfl, hI, HIT, HR, HRN, HO, HQ⟩ := hrel
    obtain ⟨a0, b0, d0⟩ := HIT.out.cells
    by_cases ht : t < ks.length
    · have HN1 := Lib.hid (hasNext_i HIT.out (Nat.le_of_lt ht))
      rw [decide_eq_true ht] at HN1
      obtain ⟨k, hkk⟩ : ∃ k, ks.getD t 0 = k := ⟨_, rfl⟩
      go_wp2_with fail
      refine HN1.out.mono ?_
      rintro e wa ⟨rfl, hoa⟩
      have HNX := Lib.hid (next_i (HIT.out.same hoa) ht)
      rw [hkk] at HNX
      have HRa := Lib.hid (HR.out.only hoa (fun _ _ hf => hf))
      have HOa := Lib.hid (HO.out.trans hoa (fun _ hf _ => hf))
      have HQa := Lib.hid (HQ.out.only hoa (fun hf => hf))
      have HIa := Lib.hid (HIT.out.same hoa)
      clear hoa
      go_wp2_with fail
      refine HNX.out.mono ?_
      rintro e wb ⟨rfl, hib, hob⟩
      have HRb := Lib.hid (HRa.out.only hob (fun g hg e => HRa.out.blk_ne HIa.out.at_ (by decide) (by rw [hg, e])))
      have HOb := Lib.hid (HOa.out.trans hob (fun b e hlt => by omega))
      have HQb := Lib.hid (HQa.out.only hob (HQa.out.ne_ HIa.out.at_ (by decide)))
      have HIb := Lib.hid hib
      clear hib hob
      go_wp2_with (at_builtin; go_must (refine wpList_append_one rfl (.tmp 26) (.tmp 28) 24 rfl 26 i0 (.int .u32 0) 4 Tryd.underlying24 hi hz0 hz1 hz2 rfl .u32 u5 (ks.take t) rfl HRb.out k 1 26 rfl ?c4 ?c5 ?_))
      case c4 => rw [List.length_take]; omega
      case c5 => rw [List.length_take]; omega
      intro v6 w6 hrow6 hon6 hlies6
      have hr6 : ∀ g, v6.ownBlock = some g → w.heap.size ≤ g := by
        intro g hg
        rcases hlies6 with h | ⟨g', h, hge⟩
        · exact HRN.out g (by rw [← h]; exact hg)
        · rw [hg] at h; injection h with h; have := HOb.out.size; omega
      have hIt6 : ItInv w6 L I u ks (t + 1) := HIb.out.only hon6 (HRb.out.blk_ne HIb.out.at_ (by decide)) (HRb.out.blk_ne HIb.out.list.1 (by decide)) (fun g hg => HIb.out.list.2.1.row_ne HRb.out (by decide) g hg)
      have HI6 := Lib.hid hIt6
      have HR6N := Lib.hid hr6
      have HR6 : Hid (Row w6 26 .u32 v6 (ks.take (t + 1))) := by
        show Row _ _ _ _ _
        rw [list_take_succ ks t ht, hkk]; exact hrow6
      have HO6 := Lib.hid (HOb.out.trans hon6 (fun g hg hlt => by have := HRN.out g hg; omega))
      have HQ6 := Lib.hid (HQb.out.only hon6 (HRb.out.blk_ne HQb.out (by decide)))
      obtain ⟨a6, b6, d6⟩ := hIt6.cells
      clear hIt6 hr6 hrow6 hon6 hlies6
      go_wp2
      go_roundg (ks.length - (t + 1))
      case measure => omega
      case rel =>
        have hal : Only (fun _ => False) w6 (w6.alloc (.cells #[.int .i64 (at_ (ks.take (t + 1)) : Nat), .int .u32 (lastOr 0 (ks.take (t + 1)) : Nat), .pointer (some ⟨L, 0, none⟩)] 82)) := (Only.refl _ w6).alloc _
        exact ⟨t + 1, w6.heap.size, by omega, rfl, HO6.out.size, HI6.out.again, HR6.out.only hal (fun _ _ hf => hf), HR6N.out, HO6.out.trans hal (fun _ hf _ => hf), HQ6.out.only hal (fun hf => hf)⟩
    · have HN1 := Lib.hid (hasNext_i HIT.out (by omega))
      rw [decide_eq_false ht] at HN1
      clear ht
      go_wp2_with fail
      refine HN1.out.mono ?_
      rintro e wa ⟨rfl, hoa⟩
      have HOa := Lib.hid (HO.out.trans hoa (fun _ hf _ => hf))
      have HQa := Lib.hid (HQ.out.only hoa (fun hf => hf))
      have HBa : Hid (Blk wa S 74 #[.int .u8 (p : Int), .int .u32 ((2 ^ p : Nat) : Int), .float .f64 al, .pointer (some ⟨T, 0, none⟩), .pointer (some ⟨L, 0, none⟩), .slice none 0 0]) := (HV.out wa HOa.out).blk
      have hSq : S ≠ w.heap.size := by omega
      have k0 := HBa.out.cell 0
      have k4 : wa.cell? ⟨S, 4, none⟩ = some (.pointer (some ⟨L, 0, none⟩)) := HBa.out.cell 4
      have k5 : wa.cell? ⟨S, 5, none⟩ = some (.slice none 0 0) := HBa.out.cell 5
      have kq : wa.cell? ⟨w.heap.size, 0, none⟩ = some (.slice A4 K.length cp4) := HQa.out.cell 0
      have kf := HQa.out.frozen 0
      clear hoa
      go_wp2_with fail
      go_region_held3 (fun w' => w'.cell? ⟨S, 0, none⟩ = some (.int .u8 (p : Int)) ∧ w'.cell? ⟨S, 4, none⟩ = some (.pointer (some ⟨L, 0, none⟩)) ∧ w'.cell? ⟨S, 5, none⟩ = some (.slice none 0 0) ∧ w'.cell? ⟨w.heap.size, 0, none⟩ = some (.slice A4 K.length cp4) ∧ w'.frozen? ⟨w.heap.size, 0, none⟩ = false)
        (first | go_keep | exact ⟨m0, m4, m5, mq, mf⟩ | exact ⟨s0, s4, s5, sq, sf⟩)
        (first
          | (go_at_call 61; refine (sparse_yes S ⟨L, 0, none⟩ _ (by simp [*])).mono ?_; rintro e w' ⟨rfl, rfl⟩)
          | (refine step_append_new (w0 := w) (by rfl) (.const (.slice none 0 0)) (.tmp 42) 31 (by rfl) 5 j0 (.int .u8 0) 1 Tryd.underlying31 hj jz0 jz1 jz2 rfl .u8 (.slice none 0 0) [] (by rfl) (Row.nil_ _ _ _) w.heap.size none 0 0 [] (by rfl) (Nums.nil _ _ _ _) (by simp) (by simp) (HOa.out.drew) (by simp [Value.ownBlock]) ?_
             intro v3 w3 hrow3 hon3 hw3 hnew3 hkeep3
             obtain ⟨⟨m0, m4, m5, mq, mf⟩, s0, s4, s5, sq, sf⟩ := state_keep2 HBa.out HQa.out hon3 hSq)
          | fail)
      go_wp2_with fail
      refine bodyPost_ret (v := .tuple #[.int .u8 p, .bool true, .slice A4 K.length cp4, u5, v3]) (by simp [results, Tryd.results37, go_sem, sq]) rfl ⟨_, u5, v3, rfl, hw3.setCell (fun h => absurd h (Nat.lt_irrefl _)) _⟩

theorem ZZDense_any (S p al T M L : Nat) (v u : Value) (K ks : List Nat) (w : World) (F : Nat → Prop) (h : Sparse w S p al T M v K L u ks) (h1 : 4 ≤ p) (h2 : p ≤ 18) (hK : ∀ k ∈ K, okKey k p) (hk : ∀ k ∈ ks, okKey k p) (hkk : Keys ks) (hl : K.length + ks.length < 536870912) (hFS : F S) (hFT : F T) :
    Calls Tryd.prog 57 #[.pointer (some ⟨S, 0, none⟩)] w fun e w' => e = .returned (.tuple #[]) ∧ ∃ F', SkD w' S p (table p ((K ++ ks).map (kv p))) F' ∧ Sk w' S p (table p ((K ++ ks).map (kv p))) True F' ∧ Only F w w' ∧ ∀ b, F' b → F b ∨ w.heap.size ≤ b := by
  have c4 : w.cell? ⟨S, 4, none⟩ = some (.pointer (some ⟨L, 0, none⟩)) := h.blk.cell 4
  have HT := Lib.hid (toNormal_sk S p al T M L v u K ks w F h h1 h2 hK hk hkk hl hFS hFT)
  clear h hK hk hkk hl
  go_enter Tryd.func57, Tryd.ntmps57
  go_wp2_with fail
  refine (sparse_yes S _ w c4).mono ?_
  rintro e w1 ⟨rfl, rfl⟩
  go_wp2_with fail
  refine HT.out.mono ?_
  rintro e w2 ⟨rfl, hx⟩
  go_wp2_with fail
  go_end0
  exact ⟨rfl, hx⟩

set_option maxRecDepth 100000 in
/-- The registers of a sketch. -/
theorem regs_any (S p : Nat) (t : List Nat) (q : Prop) (F : Nat → Prop) (w : World) (h : Sk w S p t q F) :
    Calls Tryd.prog 35 #[.pointer (some ⟨S, 0, none⟩)] w fun e w' =>
      ∃ v', e = .returned v' ∧ Row w' 5 .u8 v' t ∧ (∀ g, v'.ownBlock = some g → w.heap.size ≤ g) ∧ Only F w w' := by
  have hpb := pow_bounds h.lo h.hi
  have h1 := h.lo
  have h2 := h.hi
  rcases h.is with ⟨al, rv, hd, hle, hF⟩ | ⟨al, T, M, v, K, L, u, ks, hs, hfit, rfl, hFT, hFM, hFL, hFv, hFu⟩
  · refine (regs_dense S p al rv t w hd (by rw [hd.len]; omega)).mono ?_
    rintro e w' ⟨v', rfl, hr, hn, ho⟩
    exact ⟨v', rfl, hr, hn, ho.mono (fun _ hf _ => hf.elim)⟩
  · obtain ⟨i0, hi, hz0, hz1, hz2⟩ := info_parts info_u8
    have hKl := hfit.lenK
    have hkl := hfit.valid.2.2
    have hV : ∀ W, Only (fun _ => False) w W → Sparse W S p al T M v K L u ks := fun W hW => hs.only hW (fun hf => hf) (fun hf => hf) (fun hf => hf) (fun _ _ hf => hf) (fun hf => hf) (fun _ _ hf => hf)
    have HS0 := Lib.hid (ZZState_sparse S p al T M L v u K ks w hs hfit.valid.keys (by omega))
    have HZ : Hid (∀ W, Only (fun _ => False) w W → Calls Tryd.prog 57 #[.pointer (some ⟨S, 0, none⟩)] W fun e w' => e = .returned (.tuple #[]) ∧ ∃ F', SkD w' S p (table p ((K ++ ks).map (kv p))) F' ∧ Sk w' S p (table p ((K ++ ks).map (kv p))) True F' ∧ Only F W w' ∧ ∀ b, F' b → F b ∨ W.heap.size ≤ b) := fun W hW =>
      ZZDense_any S p al T M L v u K ks W F (hV W hW) h1 h2 hfit.okK hfit.valid.2.1 hfit.valid.keys (by omega) h.own hFT
    obtain ⟨t0, ht0⟩ : ∃ t0, t0 = table p ((K ++ ks).map (kv p)) := ⟨_, rfl⟩
    have HTL : Hid (t0.length ≤ 262144) := by
      show _ ≤ _
      rw [ht0, table_length]; omega
    rw [← ht0] at HZ ⊢
    have HFL : Hid (∀ b, F b → b < w.heap.size) := h.lt
    clear h hs hfit hV ht0 hFT hFM hFL hFv hFu hKl hkl
    go_enter Tryd.func35, Tryd.ntmps35
    go_wp2_with fail
    refine HS0.out.mono ?_
    rintro e w1 ⟨v1, v2, v3, rfl, ho1⟩
    have HZ1 := Lib.hid (HZ.out w1 ho1)
    have HO1 := Lib.hid ho1
    clear ho1
    go_wp2_with fail
    refine HZ1.out.mono ?_
    rintro e w2 ⟨rfl, F', ⟨al', rv', hd, _, _⟩, _, ho2, hF'⟩
    have HSD := Lib.hid (ZZState_dense S p al' rv' t0 w2 hd (by have := HTL.out; omega))
    have HO2 := Lib.hid ((HO1.out.mono (fun _ hf _ => hf.elim)).trans ho2 (fun b hb _ => hb))
    clear hd ho2 hF'
    go_wp2_with (first
      | (go_at_call 37; refine HSD.out.mono ?_; rintro e w3 ⟨v5, rfl, hrow2, hnew2, hon2⟩
         obtain ⟨A2, c2, rfl, _, hn2, _, _⟩ := hrow2.nums
         have hr2 := row_empty w3 5 .u8
         have hn2' : Nums (w3.alloc (.cells #[] 5)) w3.heap.size .u8 A2 t0.length t0 := hn2.only (Nat.le_refl _) ((Only.refl (fun _ => False) w3).alloc _) (fun _ _ hf => hf)
         have hw2 := Lib.hid ((HO2.out.trans hon2 (fun _ hf _ => hf.elim)).alloc (.cells #[] 5))
         have hs2 : w.heap.size ≤ w3.heap.size := (HO2.out.trans hon2 (fun _ hf _ => hf.elim)).size
         clear hrow2 hn2 hnew2 hon2)
      | (at_builtin; go_must (refine wpList_append_nums rfl (.tmp 32) (.tmp 33) 31 rfl 5 i0 (.int .u8 0) 1 Tryd.underlying31 hi hz0 hz1 hz2 rfl .u8 _ [] rfl hr2 w3.heap.size A2 t0.length c2 t0 rfl hn2' ?c4 ?c5 ?_)))
    case c4 => have := HTL.out; simp; omega
    case c5 => have := HTL.out; simp; omega
    intro v6 w6 hrow6 hon6 hl6
    go_wp2
    go_ret
    refine ⟨v6, rfl, hrow6, fun g hg => ?_, hw2.out.trans hon6 (fun g hg hlt => by have h2 : w3.heap.size ≤ g := own_ge hg (Nat.le_refl _); omega)⟩
    rcases hl6 with h | h <;> rw [hg] at h
    · have h2 : w3.heap.size ≤ g := own_ge h.symm (Nat.le_refl _)
      omega
    · injection h with h
      have e : (w3.alloc (.cells #[] 5)).heap.size = w3.heap.size + 1 := by simp
      omega
end Go.Proofs.YtoegfdndoeiolaaDoor
