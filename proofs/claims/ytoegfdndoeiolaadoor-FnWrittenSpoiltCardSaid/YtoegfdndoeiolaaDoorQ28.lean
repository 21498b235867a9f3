/- Walks and plain laws, one behind the other (MarSp, PlainDec, UnmSp, UnmSp1, UnmBad, ReadV1, UnmV1, UnmAll, ReadAny, LawReadBack, LawBack, LawSpoilt); their conditions stand at each. -/
import Derived.Test.YtoegfdndoeiolaaDoorQ26
import Derived.Test.YtoegfdndoeiolaaDoorQ27
import Derived.Test.YtoegfdndoeiolaaDoorQ11
import Derived.Test.YtoegfdndoeiolaaDoorQ24

/- Walks: a sparse sketch is written as bytes. Condition: it is no greater than a sketch is. -/
namespace Go.Proofs.YtoegfdndoeiolaaDoor
open Go.RowKit

/-- Keys as bytes, one behind the other. -/
def keyBytes : List Nat → List Nat
  | [] => []
  | k :: K => be32 k ++ keyBytes K
theorem keyBytes_append (K K2 : List Nat) : keyBytes (K ++ K2) = keyBytes K ++ keyBytes K2 := by
  induction K with
  | nil => rfl
  | cons k K ih => simp only [List.cons_append, keyBytes, ih, List.append_assoc]
theorem keyBytes_snoc (K : List Nat) (k : Nat) : keyBytes (K ++ [k]) = keyBytes K ++ be32 k := by rw [keyBytes_append]; simp [keyBytes]
theorem keyBytes_length (K : List Nat) : (keyBytes K).length = 4 * K.length := by
  induction K with
  | nil => rfl
  | cons k K ih => simp only [keyBytes, List.length_append, be32_len, ih, List.length_cons]; omega

set_option maxRecDepth 100000 in
theorem keyStep_any (x k : Nat) (v : Value) (ds : List Nat) (w : World) (hx : Blk w x 31 #[v]) (hr : Row w 5 .u8 v ds) (hk : k < 4294967296) (hl : ds.length < 549755813888) :
    Calls Tryd.prog 111 #[.int .u32 (k : Nat), .pointer (some ⟨x, 0, none⟩)] w fun e w' => e = .returned (.bool true) ∧
      ∃ v', Blk w' x 31 #[v'] ∧ Row w' 5 .u8 v' (ds ++ be32 k) ∧ Only (fun b => b = x ∨ v.ownBlock = some b) w w' ∧ Lies w v v' := by
  obtain ⟨i0, hi, hz0, hz1, hz2⟩ := info_parts info_u8
  obtain ⟨A, c, rfl, _, _, _, _⟩ := hr.nums
  have c0 : w.cell? ⟨x, 0, none⟩ = some (.slice A ds.length c) := hx.cell 0
  have hvx := hr.blk_ne hx (by decide)
  have HBC := Lib.hid (be32_cells k hk)
  have HX := Lib.hid hx
  have HR := Lib.hid hr
  clear hx hr
  go_enter Tryd.func111, Tryd.ntmps111
  go_wp2_with (at_builtin; go_must (refine wpList_append_lits rfl (.tmp 4) (.tmp 16) 31 rfl 5 i0 (.int .u8 0) 1 Tryd.underlying31 hi hz0 hz1 hz2 rfl .u8 (.slice A ds.length c) ds rfl HR.out (be32 k) 4 4 rfl 5 _ HBC.out rfl ?a1 ?b1 ?_))
  case a1 => omega
  case b1 => omega
  intro v1 w1 hrow1 hon1 hlies1
  have hb1 := HX.out.only hon1 hvx
  have f1 := hb1.frozen 0
  have d1 : w1.cell? ⟨x, 0, none⟩ = some (.slice A ds.length c) := hb1.cell 0
  obtain ⟨A1, cp1, hv1, _⟩ := hrow1.nums
  rw [show (ds ++ be32 k).length = ds.length + 4 from by rw [List.length_append, be32_len]] at hv1
  subst hv1
  have HB1 := Lib.hid hb1
  have HR1 := Lib.hid hrow1
  have HO1 := Lib.hid hon1
  have HL1 := Lib.hid hlies1
  clear hb1 hrow1 hon1 hlies1 c0
  go_wp2
  go_ret
  refine ⟨rfl, _, HB1.out.set_ 0 _, HR1.out.only ((Only.refl (fun b => b = x) w1).setCell (fun _ => rfl) _) (fun g hg he => ?_), (HO1.out.mono (fun b hb _ => .inr hb)).setCell (fun _ => .inl rfl) _, HL1.out⟩
  exact HR1.out.blk_ne HB1.out (by decide) (by rw [hg, he])

set_option maxHeartbeats 1000000 in
set_option maxRecDepth 100000 in
/-- The waiting keys are written behind bytes of the call's own. -/
theorem setBytes_any (S T M : Nat) (v : Value) (K : List Nat) (d : Value) (ds : List Nat) (w0 w : World) (h : USet w T v M K) (hS : w.cell? ⟨S, 3, none⟩ = some (.pointer (some ⟨T, 0, none⟩))) (hd : Row w 5 .u8 d ds) (hdn : ∀ g, d.ownBlock = some g → w0.heap.size ≤ g)
    (ho : Only (fun _ => False) w0 w) (hSl : S < w0.heap.size) (hT : T < w0.heap.size) (hM : M < w0.heap.size) (hv : ∀ g, v.ownBlock = some g → g < w0.heap.size) (hK : K.length ≤ 262144) (hl : ds.length < 1000000) :
    Calls Tryd.prog 102 #[.pointer (some ⟨S, 3, none⟩), d] w fun e w' =>
      ∃ d', e = .returned (.tuple #[d', .nilIface]) ∧ Row w' 5 .u8 d' (ds ++ (be32 K.length ++ keyBytes K)) ∧ (∀ g, d'.ownBlock = some g → w0.heap.size ≤ g) ∧ Only (fun _ => False) w0 w' := by
  obtain ⟨i0, hi, hz0, hz1, hz2⟩ := info_parts info_u8
  have hmf := hmf
  obtain ⟨n, hn⟩ : ∃ n, n = K.length := ⟨_, rfl⟩
  have hn1 : n ≤ 262144 := by omega
  have HBC := Lib.hid (be32_cells3 n hn1)
  obtain ⟨A, c, rfl, _, _, _, _⟩ := hd.nums
  have hwl := ho.size
  obtain ⟨wa, hwa⟩ : ∃ wa, wa = w.alloc (.cells #[.slice A ds.length c] 31) := ⟨_, rfl⟩
  have hoa : Only (fun _ => False) w wa := by rw [hwa]; exact (Only.refl _ w).alloc _
  have hxa : Blk wa w.heap.size 31 #[.slice A ds.length c] := by rw [hwa]; exact Blk.new w _ _
  have sa : wa.cell? ⟨S, 3, none⟩ = some (.pointer (some ⟨T, 0, none⟩)) := (hoa.cell (p := ⟨S, 3, none⟩) (by show S < w.heap.size; omega) (fun hf => hf)).trans hS
  have HOA := Lib.hid (ho.trans hoa (fun _ hf _ => hf))
  have hsa := h.only hoa (fun hf => hf) (fun _ _ hf => hf) (fun hf => hf)
  have HL : Hid (Calls Tryd.prog 95 #[.pointer (some ⟨T, 0, none⟩)] wa fun e w' => e = .returned (.int .i64 (n : Nat)) ∧ wa = w') := by rw [hn]; exact setLen_any T M v K wa hsa
  have HSA := Lib.hid hsa
  have HXA := Lib.hid hxa
  have HRA := Lib.hid (hd.only hoa (fun _ _ hf => hf))
  have HN := Lib.hid hn
  have HV := Lib.hid hv
  have HDN := Lib.hid hdn
  have xa := hxa.cell 0
  have hszx : w.heap.size < wa.heap.size := hxa.lt
  rw [hwa] at sa xa
  have HWA := Lib.hid hwa
  clear h hS hd ho hoa hxa hsa hn hv hdn hwa
  go_enter Tryd.func102, Tryd.ntmps102
  go_wp2_with fail
  rw [← HWA.out]
  rw [← HWA.out] at sa xa
  refine HL.out.mono ?_
  rintro e w1 ⟨rfl, rfl⟩
  go_wp2_with (at_builtin; go_must (refine wpList_append_lits rfl (.tmp 12) (.tmp 24) 31 rfl 5 i0 (.int .u8 0) 1 Tryd.underlying31 hi hz0 hz1 hz2 rfl .u8 (.slice A ds.length c) ds rfl HRA.out (be32 n) 4 4 rfl 5 _ HBC.out rfl ?a1 ?b1 ?_))
  case a1 => omega
  case b1 => omega
  intro v1 w1 hrow1 hon1 hlies1
  have hdx := HRA.out.blk_ne HXA.out (by decide)
  have hb1 := HXA.out.only hon1 hdx
  have f1 := hb1.frozen 0
  have d1 : w1.cell? ⟨w.heap.size, 0, none⟩ = some (.slice A ds.length c) := hb1.cell 0
  obtain ⟨A1, cp1, hv1, _⟩ := hrow1.nums
  rw [show (ds ++ be32 n).length = ds.length + 4 from by rw [List.length_append, be32_len]] at hv1
  subst hv1
  have ho1 : Only (fun _ => False) w0 w1 := HOA.out.trans hon1 (fun b hb hlt => by have := HDN.out b hb; omega)
  have hn1 : ∀ g, (Value.slice A1 (ds.length + 4) cp1).ownBlock = some g → w0.heap.size ≤ g := by
    intro g hg
    rcases hlies1 with e | ⟨g', e, hge⟩
    · exact HDN.out g (by rw [← e]; exact hg)
    · rw [hg] at e; injection e with e; omega
  have hO2 : Only (fun b => b = w.heap.size) w1 (w1.setCell ⟨w.heap.size, 0, none⟩ (.slice A1 (ds.length + 4) cp1)) := (Only.refl (fun b => b = w.heap.size) w1).setCell (fun _ => rfl) _
  have ho2 : Only (fun _ => False) w0 (w1.setCell ⟨w.heap.size, 0, none⟩ (.slice A1 (ds.length + 4) cp1)) := ho1.trans hO2 (fun b hb hlt => by omega)
  have hx2 := hb1.set_ 0 (.slice A1 (ds.length + 4) cp1)
  have hr2 : Row (w1.setCell ⟨w.heap.size, 0, none⟩ (.slice A1 (ds.length + 4) cp1)) 5 .u8 (.slice A1 (ds.length + 4) cp1) (ds ++ be32 n) := hrow1.only hO2 (fun g hg he => hrow1.blk_ne hb1 (by decide) (by rw [hg, he]))
  have hsetk : ∀ W, Only (fun b => w0.heap.size ≤ b) wa W → USet W T v M K := fun W hW => HSA.out.only hW (by omega) (fun g hg e => by have := HV.out g hg; omega) (by omega)
  have hwaw : Only (fun b => w0.heap.size ≤ b) wa (w1.setCell ⟨w.heap.size, 0, none⟩ (.slice A1 (ds.length + 4) cp1)) := (hon1.mono (fun b hb _ => HDN.out b hb)).trans hO2 (fun b hb _ => by show w0.heap.size ≤ b; omega)
  have s2 : (w1.setCell ⟨w.heap.size, 0, none⟩ (.slice A1 (ds.length + 4) cp1)).cell? ⟨S, 3, none⟩ = some (.pointer (some ⟨T, 0, none⟩)) := (hwaw.cell (p := ⟨S, 3, none⟩) (by show S < wa.heap.size; omega) (by show ¬ w0.heap.size ≤ S; omega)).trans sa
  have HFE := Lib.hid (ForEachBytes_any T M v K _ (.pointer (some ⟨w.heap.size, 0, none⟩)) (fun i W => ∃ v', Blk W w.heap.size 31 #[v'] ∧ Row W 5 .u8 v' ((ds ++ be32 n) ++ keyBytes (K.take i)) ∧ (∀ g, v'.ownBlock = some g → w0.heap.size ≤ g) ∧ Only (fun b => w0.heap.size ≤ b) wa W)
    (hsetk _ hwaw) ⟨_, hx2, by rw [List.take_zero]; show Row _ _ _ _ (_ ++ []); rw [List.append_nil]; exact hr2, hn1, hwaw⟩ (by omega)
    (by
      rintro i W ⟨v', _, _, _, ho⟩ _
      exact hsetk W ho)
    (by
      rintro i W hi ⟨v', hb, hr, hn, ho⟩
      have hlen : ((ds ++ be32 n) ++ keyBytes (K.take i)).length < 549755813888 := by
        rw [List.length_append, List.length_append, keyBytes_length, be32_len, List.length_take]; omega
      refine (keyStep_any w.heap.size (K.getD i 0) v' _ W hb hr (HSA.out.lt _ (mem_getD hi)) hlen).mono ?_
      rintro e w' ⟨rfl, v2, hb2, hr2, ho2, hl2⟩
      refine ⟨rfl, v2, hb2, by rw [list_take_succ K i hi, keyBytes_snoc, ← List.append_assoc]; exact hr2, ?_, ho.trans ho2 ?_⟩
      · intro g hg
        rcases hl2 with e | ⟨g', e, hge⟩
        · exact hn g (by rw [← e]; exact hg)
        · rw [hg] at e; injection e with e
          have := ho.size
          show w0.heap.size ≤ g
          omega
      · rintro b (e | e) _
        · show w0.heap.size ≤ b; omega
        · exact hn b e))
  rw [List.take_length] at HFE
  clear hrow1 hon1 hlies1 hb1 ho1 hn1 hO2 ho2 hx2 hr2 hsetk hwaw
  go_wp2_with fail
  refine HFE.out.mono ?_
  rintro e w3 ⟨rfl, v3, hb3, hr3, hn3, ho3⟩
  have x3 := hb3.cell 0
  have HR3 := Lib.hid hr3
  have HN3 := Lib.hid hn3
  have HO3 := Lib.hid ho3
  clear hb3 hr3 hn3 ho3 d1 f1 s2 sa xa
  go_wp2_with fail
  go_ret2
  refine ⟨v3, rfl, ?_, HN3.out, HOA.out.trans HO3.out (fun b (hb : w0.heap.size ≤ b) hlt => by omega)⟩
  rw [← HN.out, ← List.append_assoc]
  exact HR3.out

/-- The bytes of a sparse sketch. -/
def sparseBytes (p : Nat) (K ks : List Nat) : List Nat := 2 :: p :: 0 :: 1 :: (be32 K.length ++ (keyBytes K ++ listBytes ks))

set_option maxHeartbeats 1000000 in
set_option maxRecDepth 100000 in
theorem AppendSparse_any (S p al T M L : Nat) (v u : Value) (K ks : List Nat) (w : World) (h : Sparse w S p al T M v K L u ks) (h1 : 4 ≤ p) (h2 : p ≤ 18) (hK : K.length ≤ 262144) (hk : ks.length < 536870912) :
    Calls Tryd.prog 74 #[.pointer (some ⟨S, 0, none⟩), .slice none 0 0] w fun e w' =>
      ∃ v', e = .returned (.tuple #[v', .nilIface]) ∧ Row w' 5 .u8 v' (sparseBytes p K ks) ∧ (∀ g, v'.ownBlock = some g → w.heap.size ≤ g) ∧ Only (fun _ => False) w w' := by
  obtain ⟨i0, hi, hz0, hz1, hz2⟩ := info_parts info_u8
  have hV : ∀ W, Only (fun _ => False) w W → Sparse W S p al T M v K L u ks := fun W hW => h.only hW (fun hf => hf) (fun hf => hf) (fun hf => hf) (fun _ _ hf => hf) (fun hf => hf) (fun _ _ hf => hf)
  have HC : Hid (∀ W, Only (fun _ => False) w W → W.cell? ⟨S, 0, none⟩ = some (.int .u8 (p : Int)) ∧ W.cell? ⟨S, 3, none⟩ = some (.pointer (some ⟨T, 0, none⟩)) ∧ W.cell? ⟨S, 4, none⟩ = some (.pointer (some ⟨L, 0, none⟩))) := fun W hW =>
    ⟨(hV W hW).blk.cell 0, (hV W hW).blk.cell 3, (hV W hW).blk.cell 4⟩
  have hSl : S < w.heap.size := Blk.lt h.blk
  have hTl : T < w.heap.size := h.set.blk.lt
  have hMl : M < w.heap.size := h.set.map.lt
  have hLl : L < w.heap.size := h.list.1.lt
  have HVL : Hid (∀ g, v.ownBlock = some g → g < w.heap.size) := h.set.row.lt
  have HUL : Hid (∀ g, u.ownBlock = some g → g < w.heap.size) := h.list.2.1.lt
  have HV := Lib.hid hV
  have HRN := Row.nil_ w 5 .u8
  obtain ⟨c0, c3, c4⟩ := HC.out w (Only.refl _ w)
  clear h hV
  go_enter Tryd.func74, Tryd.ntmps74
  go_wp2_with (first
    | (go_at_call 54; refine (checkPrecision_ok p _ h1 h2).mono ?_; rintro e w' ⟨rfl, rfl⟩)
    | (at_builtin; go_must (refine wpList_append_fresh (w0 := w) rfl (.tmp 19) (.tmp 20) 31 rfl 5 i0 (.int .u8 0) 1 Tryd.underlying31 hi hz0 hz1 hz2 rfl .u8 (.slice none 0 0) [] rfl HRN [2] 1 1 rfl 5 _ (one_cells 2) rfl ?a1 ?b1 (Only.refl _ w) (by simp [Value.ownBlock]) ?_)))
  case a1 => simp
  case b1 => simp
  intro v1 w1 hrow1 ho1 hf1
  obtain ⟨d0, d3, d4⟩ := HC.out w1 ho1
  go_wp2_with (at_builtin; go_must (refine wpList_append_fresh (w0 := w) rfl (.tmp 22) (.tmp 27) 31 rfl 5 i0 (.int .u8 0) 1 Tryd.underlying31 hi hz0 hz1 hz2 rfl .u8 v1 _ rfl hrow1 [p] 1 1 rfl 5 _ (one_cells p) rfl ?a2 ?b2 ho1 hf1 ?_))
  case a2 => simp
  case b2 => simp
  intro v2 w2 hrow2 ho2 hf2
  obtain ⟨e0, e3, e4⟩ := HC.out w2 ho2
  go_wp2_with (at_builtin; go_must (refine wpList_append_fresh (w0 := w) rfl (.tmp 29) (.tmp 30) 31 rfl 5 i0 (.int .u8 0) 1 Tryd.underlying31 hi hz0 hz1 hz2 rfl .u8 v2 _ rfl hrow2 [0] 1 1 rfl 5 _ (one_cells 0) rfl ?a3 ?b3 ho2 hf2 ?_))
  case a3 => simp
  case b3 => simp
  intro v3 w3 hrow3 ho3 hf3
  obtain ⟨g0, g3, g4⟩ := HC.out w3 ho3
  go_wp2_with (first
    | (go_at_call 61; refine (sparse_yes S _ _ g4).mono ?_; rintro e w' ⟨rfl, rfl⟩)
    | (at_builtin; go_must (refine wpList_append_fresh (w0 := w) rfl (.tmp 34) (.tmp 35) 31 rfl 5 i0 (.int .u8 0) 1 Tryd.underlying31 hi hz0 hz1 hz2 rfl .u8 v3 _ rfl hrow3 [1] 1 1 rfl 5 _ (one_cells 1) rfl ?a4 ?b4 ho3 hf3 ?_)))
  case a4 => simp
  case b4 => simp
  intro v4 w4 hrow4 ho4 hf4
  obtain ⟨j0, j3, j4⟩ := HC.out w4 ho4
  have HSB := Lib.hid (setBytes_any S T M v K v4 _ w w4 (HV.out w4 ho4).set j3 hrow4 hf4 ho4 hSl hTl hMl HVL.out hK (by simp))
  clear hrow1 hrow2 hrow3 ho1 ho2 ho3 hf1 hf2 hf3 hrow4 ho4 hf4 d0 d3 d4 e0 e3 e4 g0 g3 g4
  go_wp2_with fail
  refine HSB.out.mono ?_
  rintro e w5 ⟨v5, rfl, hrow5, hf5, ho5⟩
  obtain ⟨k0, k3, k4⟩ := HC.out w5 ho5
  have HLB := Lib.hid (CAppendBinary_any L u ks v5 _ w5 (HV.out w5 ho5).list hk hrow5 (fun e => by have := hf5 L e; omega) (fun g hg e => by have := hf5 g e; have := HUL.out g hg; omega) (by simp only [List.length_append, be32_len, keyBytes_length, List.length_cons, List.length_nil]; omega))
  have HF5 := Lib.hid hf5
  have HO5 := Lib.hid ho5
  clear hrow5 hf5 ho5
  go_wp2_with fail
  refine HLB.out.mono ?_
  rintro e w6 ⟨v6, rfl, hrow6, ho6, hl6⟩
  go_wp2_with fail
  go_ret2
  refine ⟨v6, rfl, ?_, fun g hg => ?_, HO5.out.trans ho6 (fun b hb hlt => by have := HF5.out b hb; omega)⟩
  · simpa only [sparseBytes, List.append_assoc, List.cons_append, List.nil_append] using hrow6
  · rcases hl6 with e | ⟨g', e, hge⟩
    · exact HF5.out g (by rw [← e]; exact hg)
    · rw [hg] at e; injection e with e; have := HO5.out.size; omega

/-- What a sketch is written as. -/
def EncOf (p : Nat) (t bs : List Nat) : Prop := (bs = denseBytes p t ∧ t.length = 2 ^ p ∧ ∀ v ∈ t, v ≤ 65 - p) ∨ ∃ K ks, bs = sparseBytes p K ks ∧ K.Nodup ∧ Fit p False K ks ∧ t = table p ((K ++ ks).map (kv p))

set_option maxRecDepth 100000 in
theorem Mar_any (S p : Nat) (t : List Nat) (q : Prop) (F : Nat → Prop) (w : World) (h : Sk w S p t q F) :
    Calls Tryd.prog 44 #[.pointer (some ⟨S, 0, none⟩)] w fun e w' =>
      ∃ v' bs, e = .returned (.tuple #[v', .nilIface]) ∧ EncOf p t bs ∧ Row w' 5 .u8 v' bs ∧ (∀ g, v'.ownBlock = some g → w.heap.size ≤ g) ∧ Only (fun _ => False) w w' := by
  have hpb := pow_bounds h.lo h.hi
  rcases h.is with ⟨al, rv, hd, hle, _⟩ | ⟨al, T, M, v, K, L, u, ks, hs, hfit, ht, _⟩
  · refine (MarDense_any S p al rv t w hd h.lo h.hi).mono ?_
    rintro e w' ⟨v', rfl, hr, hn, ho⟩
    exact ⟨v', _, rfl, .inl ⟨rfl, hd.len, hle⟩, hr, hn, ho⟩
  · have HA := Lib.hid (AppendSparse_any S p al T M L v u K ks w hs h.lo h.hi (by have := hfit.lenK; omega) (by have := hfit.valid.2.2; omega))
    have HE : Hid (EncOf p t (sparseBytes p K ks)) := .inr ⟨K, ks, rfl, hs.set.nodup, hfit.weak (fun hf => hf.elim), ht⟩
    clear h hs hfit ht
    go_enter Tryd.func44, Tryd.ntmps44
    go_wp2_with fail
    refine HA.out.mono ?_
    rintro e w1 ⟨v1, rfl, hr, hn, ho⟩
    go_wp2_with fail
    go_ret2
    exact ⟨v1, _, rfl, HE.out, hr, hn, ho⟩
end Go.Proofs.YtoegfdndoeiolaaDoor

/- Plain law: the bytes of a sparse sketch are read in one way alone. No condition beyond those named. -/
namespace Go.Proofs.YtoegfdndoeiolaaDoor
open Go.RowKit

/-- Bytes, four by four, are keys. -/
theorem keys_of : ∀ (n : Nat) (bs : List Nat), bs.length = 4 * n → (∀ b ∈ bs, b < 256) → ∃ K, K.length = n ∧ bs = keyBytes K ∧ ∀ k ∈ K, k < 4294967296
  | 0, bs, h, _ => ⟨[], rfl, List.eq_nil_of_length_eq_zero (by omega), fun k hk => by cases hk⟩
  | n + 1, bs, h, h256 => by
    match bs, h with
    | a :: b :: c :: d :: r, h =>
      have ha := h256 a (by simp)
      have hb := h256 b (by simp)
      have hc := h256 c (by simp)
      have hd := h256 d (by simp)
      obtain ⟨K, h1, h2, h3⟩ := keys_of n r (by simp only [List.length_cons] at h; omega) (fun x hx => h256 x (by simp [hx]))
      refine ⟨unbe a b c d :: K, by simp [h1], ?_, ?_⟩
      · rw [keyBytes, be_unbe ha hb hc hd, ← h2]; rfl
      · intro k hk
        rcases List.mem_cons.1 hk with rfl | hk
        · exact unbe_lt ha hb hc hd
        · exact h3 k hk
theorem keyBytes_inj : ∀ {K K2 : List Nat} {r s : List Nat}, K.length = K2.length → (∀ k ∈ K, k < 4294967296) → (∀ k ∈ K2, k < 4294967296) → keyBytes K ++ r = keyBytes K2 ++ s → K = K2 ∧ r = s
  | [], [], r, s, _, _, _, h => ⟨rfl, h⟩
  | k :: K, k2 :: K2, r, s, hl, h1, h2, h => by
    simp only [keyBytes, List.append_assoc] at h
    obtain ⟨e1, h3⟩ := be32_app (h1 k (by simp)) (h2 k2 (by simp)) h
    obtain ⟨e2, h4⟩ := keyBytes_inj (by simpa using hl) (fun c hc => h1 c (by simp [hc])) (fun c hc => h2 c (by simp [hc])) h3
    exact ⟨by rw [e1, e2], h4⟩
  | [], k :: K, _, _, hl, _, _, _ => by simp at hl
  | k :: K, [], _, _, hl, _, _, _ => by simp at hl

/-- What stands behind the head of a sparse sketch of p bits: waiting keys and a list. -/
def SpDec (p : Nat) (tail K ks : List Nat) : Prop := tail = be32 K.length ++ (keyBytes K ++ listBytes ks) ∧ K.length ≤ 2 ^ p ∧ (∀ k ∈ K, okKey k p) ∧ Valid p ks
theorem okKey_lt {k p : Nat} (h : okKey k p) : k < 4294967296 := h.1
/-- A list's bytes, and what may stand behind them. -/
theorem listBytes_inj {p : Nat} {ks ks2 : List Nat} {r : List Nat} (h1 : Valid p ks) (h2 : Valid p ks2) (h : listBytes ks ++ r = listBytes ks2) : r = [] ∧ ks = ks2 := by
  have a1 : ∀ k ∈ ks, k < 4294967296 := fun k hk => (h1.2.1 k hk).1
  have a2 : ∀ k ∈ ks2, k < 4294967296 := fun k hk => (h2.2.1 k hk).1
  have l1 := encFrom_le 0 ks a1
  have l2 := encFrom_le 0 ks2 a2
  have n1 := h1.2.2
  have n2 := h2.2.2
  unfold listBytes at h
  simp only [List.append_assoc] at h
  obtain ⟨_, h⟩ := be32_app (by omega) (by omega) h
  obtain ⟨_, h⟩ := be32_app (lastOr_lt a1) (lastOr_lt a2) h
  obtain ⟨e, h⟩ := be32_app (by omega) (by omega) h
  have hr : r = [] := by
    have hl := congrArg List.length h
    rw [List.length_append] at hl
    exact List.eq_nil_of_length_eq_zero (by omega)
  subst hr
  rw [List.append_nil] at h
  exact ⟨rfl, valid_inj h2 h1 h.symm⟩
theorem SpDec.inj {p : Nat} {tail K ks K2 ks2 r : List Nat} (hp : p ≤ 18) (h : SpDec p tail K ks) (h2 : SpDec p (tail ++ r) K2 ks2) : r = [] ∧ K2 = K ∧ ks2 = ks := by
  obtain ⟨e1, l1, o1, v1⟩ := h
  obtain ⟨e2, l2, o2, v2⟩ := h2
  have hb : 2 ^ p ≤ 262144 := Nat.pow_le_pow_right (n := 2) (by omega) hp
  rw [e1] at e2
  simp only [List.append_assoc] at e2
  obtain ⟨e, e3⟩ := be32_app (by omega) (by omega) e2
  obtain ⟨e4, e5⟩ := keyBytes_inj e (fun k hk => (o1 k hk).1) (fun k hk => (o2 k hk).1) e3
  obtain ⟨e6, e7⟩ := listBytes_inj v1 v2 e5
  exact ⟨e6, e4.symm, e7.symm⟩
/-- The parts of a tail, known one by one. -/
theorem SpDec.parts {p tn : Nat} {r K ks : List Nat} (hp : p ≤ 18) (htn : tn < 4294967296) (h : SpDec p (be32 tn ++ r) K ks) : tn = K.length ∧ r = keyBytes K ++ listBytes ks := by
  obtain ⟨e, l, o, v⟩ := h
  have hb : 2 ^ p ≤ 262144 := Nat.pow_le_pow_right (n := 2) (by omega) hp
  exact be32_app htn (by omega) e
theorem SpDec.keys {p tn : Nat} {KS r K ks : List Nat} (hp : p ≤ 18) (htn : tn < 4294967296) (hl : KS.length = tn) (hk : ∀ k ∈ KS, k < 4294967296) (h : SpDec p (be32 tn ++ (keyBytes KS ++ r)) K ks) : K = KS ∧ r = listBytes ks := by
  obtain ⟨e1, e2⟩ := h.parts hp htn
  obtain ⟨e3, e4⟩ := keyBytes_inj (by omega) hk (fun k hk => (h.2.2.1 k hk).1) e2
  exact ⟨e3.symm, e4⟩
theorem listBytes_len (ks : List Nat) : 12 ≤ (listBytes ks).length := by simp only [listBytes, List.length_append, be32_len]; omega
end Go.Proofs.YtoegfdndoeiolaaDoor

/- Walks: bytes of a sparse sketch are read. Conditions: the bytes are bytes; the variables of the errors hold errors. -/
namespace Go.Proofs.YtoegfdndoeiolaaDoor
open Go.RowKit

theorem unm_short (L : Nat) (A : Option Addr) (n c p : Nat) (w : World) (hn : n < 12) (he : Errs w) :
    Calls Tryd.prog 47 #[.pointer (some ⟨L, 0, none⟩), .slice A n c, .int .u8 p] w fun e w' => Fails e ∧ w = w' := by
  obtain ⟨⟨a, ha⟩, _⟩ := he
  go_enter Tryd.func47, Tryd.ntmps47
  go_wp2_with fail
  go_ret
  exact ⟨⟨a, rfl⟩, rfl⟩

/-- What is read of a sparse sketch's bytes. -/
def UnmSp (w : World) (S0 p : Nat) (tail : List Nat) (e : Ending) (w' : World) : Prop :=
  (e = .returned .nilIface ∧ ∃ K ks F', SpDec p tail K ks ∧ Sk w' S0 p (table p ((K ++ ks).map (kv p))) False F' ∧ (∀ b, F' b → b = S0 ∨ w.heap.size ≤ b) ∧ Only (fun b => b = S0) w w') ∨
  (Fails e ∧ (∀ K ks, ¬ SpDec p tail K ks) ∧ Only (fun _ => False) w w')

/-- What the reader of the list says of the bytes behind the waiting keys. -/
def UnmLi (w : World) (L p : Nat) (r2 : List Nat) (ev : Value) (w' : World) : Prop :=
  (ev = .nilIface ∧ ∃ ks u', Valid p ks ∧ r2 = listBytes ks ∧ CList w' L u' ks ∧ (∀ g, u'.ownBlock = some g → w.heap.size ≤ g) ∧ Only (fun b => b = L) w w') ∨
  ((∃ a, ev = .iface 152 (.pointer (some a))) ∧ (∀ ks, Valid p ks → r2 ≠ listBytes ks) ∧ Only (fun _ => False) w w')
theorem unm_list (L : Nat) (v0 : Value) (A : Option Addr) (n c p B : Nat) (r2 : List Nat) (w : World) (hbs : ∀ ad, A = some ad → Nums w w.heap.size .u8 A n r2) (hA : A = none → n = 0) (hr : r2.length = n) (h256 : ∀ b ∈ r2, b < 256) (hnc : n ≤ c) (hc : c ≤ 9223372036854775807) (hn : n < 1099511627776)
    (h1 : 4 ≤ p) (h2 : p ≤ 18) (hl : CList w L v0 []) (he : Errs w) (_hB : B ≤ w.heap.size) :
    Calls Tryd.prog 47 #[.pointer (some ⟨L, 0, none⟩), .slice A n c, .int .u8 p] w fun e w' => ∃ ev, e = .returned ev ∧ UnmLi w L p r2 ev w' := by
  by_cases h12 : n < 12
  · refine (unm_short L A n c p w h12 he).mono ?_
    rintro e w' ⟨⟨a, rfl⟩, rfl⟩
    refine ⟨_, rfl, .inr ⟨⟨a, rfl⟩, fun ks _ e => ?_, Only.refl _ _⟩⟩
    have := listBytes_len ks
    rw [← e] at this
    omega
  · obtain ⟨ad, rfl⟩ : ∃ ad, A = some ad := by
      cases A with
      | none => exact absurd (hA rfl) (by omega)
      | some ad => exact ⟨ad, rfl⟩
    obtain ⟨cn, ls, sz, st, g1, g2, g3, rfl, hst⟩ := head_split r2 (by omega) h256
    refine (unmarshal_any L v0 ad n c p cn ls sz st w (hbs ad rfl) (fun b hb => h256 b (by simp [hb])) g1 g2 g3 hnc hc hn h1 h2 hl he).mono ?_
    rintro e w' (⟨ks, v', hv, ha, rfl, hcl, hnw, ho⟩ | ⟨hbad, ⟨a, rfl⟩, ho⟩)
    · exact ⟨_, rfl, .inl ⟨rfl, ks, v', hv, (listBytes_iff g1 g2 g3 hv).2 ha, hcl, hnw, ho⟩⟩
    · exact ⟨_, rfl, .inr ⟨⟨a, rfl⟩, fun ks hv e => hbad ks hv ((listBytes_iff g1 g2 g3 hv).1 e), ho⟩⟩

theorem keys_drop (KS r2 : List Nat) (j : Nat) (h : j < KS.length) : (keyBytes KS ++ r2).drop (4 * j) = be32 (KS.getD j 0) ++ (keyBytes (KS.drop (j + 1)) ++ r2) := by
  have hs := list_split KS j h
  have hl : (keyBytes (KS.take j)).length = 4 * j := by rw [keyBytes_length, List.length_take]; omega
  have e : keyBytes KS = keyBytes (KS.take j) ++ (be32 (KS.getD j 0) ++ keyBytes (KS.drop (j + 1))) := by
    conv => lhs; rw [hs]
    rw [keyBytes_append]
    rfl
  rw [e, List.append_assoc, ← hl, List.drop_left, List.append_assoc]

set_option maxHeartbeats 4000000 in
set_option maxRecDepth 100000 in
theorem UnmSparse2_any (S0 p tn : Nat) (z0 z1 z2 z3 z4 z5 : Value) (ad : Addr) (n c : Nat) (rest : List Nat) (w : World) (hb0 : Blk w S0 74 #[z0, z1, z2, z3, z4, z5]) (hbs : Nums w w.heap.size .u8 (some ad) n (2 :: p :: 0 :: 1 :: (be32 tn ++ rest))) (hnc : n ≤ c) (hc : c ≤ 9223372036854775807) (hn : n < 1099511627776)
    (h256 : ∀ b ∈ rest, b < 256) (htn : tn < 4294967296) (h1 : 4 ≤ p) (h2 : p ≤ 18) (he : Errs w) :
    Calls Tryd.prog 43 #[.pointer (some ⟨S0, 0, none⟩), .slice (some ad) n c] w fun e w' => UnmSp w S0 p (be32 tn ++ rest) e w' := by
  have hpb := pow_bounds h1 h2
  obtain ⟨m, hm⟩ : ∃ m, m = 2 ^ p := ⟨_, rfl⟩
  have hsp := shl1_word h2 hm
  have hnl : n = 8 + rest.length := by have := hbs.1; simp only [List.length_cons, List.length_append, be32_len] at this; omega
  have q0 := hbs.at_ (i := 0) (by omega)
  have q1 := hbs.at_ (i := 1) (by omega)
  have q2 := hbs.at_ (i := 2) (by omega)
  have q3 := hbs.at_ (i := 3) (by omega)
  obtain ⟨_, e0, had, d0⟩ := q0
  obtain ⟨_, e1, _, d1⟩ := q1
  obtain ⟨_, e2, _, d2⟩ := q2
  obtain ⟨_, e3, _, d3⟩ := q3
  injection e0 with e0; injection e1 with e1; injection e2 with e2; injection e3 with e3
  subst e0; subst e1; subst e2; subst e3
  have c0 : w.cell? ad = some (.int .u8 2) := d0
  have c1 : w.cell? ⟨ad.block, ad.off + 1, none⟩ = some (.int .u8 (p : Int)) := d1
  have c2 : w.cell? ⟨ad.block, ad.off + 2, none⟩ = some (.int .u8 0) := d2
  have c3 : w.cell? ⟨ad.block, ad.off + 3, none⟩ = some (.int .u8 1) := d3
  have hd4 := hbs.drop (m := 4) (by omega)
  rw [show (2 :: p :: 0 :: 1 :: (be32 tn ++ rest)).drop 4 = be32 tn ++ rest from rfl] at hd4
  have hdr : ∀ i, Nums w w.heap.size .u8 (some ⟨ad.block, ad.off + (8 + i), none⟩) (n - (8 + i)) (rest.drop i) := fun i => by
    have h := hbs.drop (m := 8 + i) (by omega)
    rw [show (2 :: p :: 0 :: 1 :: (be32 tn ++ rest)).drop (8 + i) = rest.drop i from by rw [← List.drop_drop]; rfl] at h
    exact h
  rw [← hm] at hpb
  have HBE := Lib.hid (be32_quiet _ _ (c - 4) _ tn _ w hd4 htn)
  have HDR := Lib.hid hdr
  have HE := Lib.hid he
  have HB0 := Lib.hid hb0
  have HM := Lib.hid hm
  have H256 := Lib.hid h256
  have HNL := Lib.hid hnl
  obtain ⟨a1, hTS⟩ := he.1
  obtain ⟨a3, hID⟩ := he.2
  have i0 : (8 : Int) ≤ (n : Int) := by omega
  have i2 : (8 : Int) ≤ (c : Int) := by omega
  have i3 : (n : Int) ≤ (c : Int) := by omega
  have i4 : ¬ (n : Int) < 8 := by omega
  clear d0 d1 d2 d3 hd4 hdr hbs he hb0 hm h256 hnl
  by_cases hneed : n < 8 + 4 * tn
  · have j1 : (n : Int) < 8 + 4 * (tn : Int) := by omega
    have HNO : Hid (∀ K ks, ¬ SpDec p (be32 tn ++ rest) K ks) := fun K ks h => by
      obtain ⟨e1, e2⟩ := h.parts h2 htn
      have hl := congrArg List.length e2
      rw [List.length_append, keyBytes_length] at hl
      have := listBytes_len ks
      have := HNL.out
      omega
    go_enter Tryd.func43, Tryd.ntmps43
    go_wp2_with (first
      | (go_at_call 54; refine (checkPrecision_ok p _ h1 h2).mono ?_; rintro e w' ⟨rfl, rfl⟩)
      | (go_at_call 67; refine (HBE.out 0).mono ?_; rintro e w' ⟨rfl, k, rfl⟩))
    go_ret
    exact .inr ⟨⟨a1, rfl⟩, HNO.out, (Only.refl _ w).drewN _⟩
  · have j1 : ¬ (n : Int) < 8 + 4 * (tn : Int) := by omega
    by_cases hbig : m < tn
    · have j2 : (m : Int) < (tn : Int) := by omega
      have HNO : Hid (∀ K ks, ¬ SpDec p (be32 tn ++ rest) K ks) := fun K ks h => by
        obtain ⟨e1, e2⟩ := h.parts h2 htn
        have := h.2.1
        have := HM.out
        omega
      go_enter Tryd.func43, Tryd.ntmps43
      go_wp2_with (first
        | (go_at_call 54; refine (checkPrecision_ok p _ h1 h2).mono ?_; rintro e w' ⟨rfl, rfl⟩)
        | (go_at_call 67; refine (HBE.out 0).mono ?_; rintro e w' ⟨rfl, k, rfl⟩))
      go_ret
      exact .inr ⟨⟨a3, rfl⟩, HNO.out, (Only.refl _ w).drewN _⟩
    · have j2 : ¬ (m : Int) < (tn : Int) := by omega
      obtain ⟨KS, hKl, hKe, hK32⟩ := keys_of tn (rest.take (4 * tn)) (by rw [List.length_take]; have := HNL.out; omega) (fun b hb => H256.out b (List.mem_of_mem_take hb))
      obtain ⟨r2, hr2⟩ : ∃ r2, r2 = rest.drop (4 * tn) := ⟨_, rfl⟩
      have hrest : rest = keyBytes KS ++ r2 := by rw [hr2, ← hKe, List.take_append_drop]
      have hr2l : r2.length = n - (8 + 4 * tn) := by rw [hr2, List.length_drop]; have := HNL.out; omega
      have hr2b : ∀ b ∈ r2, b < 256 := fun b hb => H256.out b (by rw [hrest]; simp [hb])
      have HKL := Lib.hid hKl
      have HK32 := Lib.hid hK32
      have HREST := Lib.hid hrest
      have HR2 := Lib.hid hr2
      have HR2L := Lib.hid hr2l
      have HR2B := Lib.hid hr2b
      clear hKl hKe hK32 hr2 hrest hr2l hr2b hneed hbig
      go_enter Tryd.func43, Tryd.ntmps43
      go_wp2_with (first
        | (go_at_call 54; refine (checkPrecision_ok p _ h1 h2).mono ?_; rintro e w' ⟨rfl, rfl⟩)
        | (go_at_call 67; refine (HBE.out 0).mono ?_; rintro e w' ⟨rfl, k, rfl⟩))
      refine (newSparse_any p _ h1 h2).mono ?_
      rintro e w1 ⟨S, al, T, M, v, L, u, rfl, hs, hS, hT, hM', hL, hv, hu, hon⟩
      have ho1 : Only (fun _ => False) w w1 := ((Only.refl _ w).drewN _).trans hon (fun _ hf _ => hf)
      have HS1 := Lib.hid hs
      have HO1 := Lib.hid ho1
      have hSn : w.heap.size ≤ S := hS
      have hLn : w.heap.size ≤ L := hL
      have HUN : Hid (∀ g, u.ownBlock = some g → w.heap.size ≤ g) := hu
      clear hs hS hT hM' hL hv hu hon ho1 c0 c1 c2 c3 HBE
      go_wp2_with fail
      refine (makeSet_any tn _).mono ?_
      rintro e w2 ⟨T2, M2, rfl, hT2, hM2, hs2, ho2⟩
      have hb2 := Blk.only HS1.out.blk ho2 (fun hf => hf)
      have f3 := hb2.frozen 3
      have g3 := hb2.cell 3
      have hb3 : SkB (w2.setCell ⟨S, 3, none⟩ (.pointer (some ⟨T2, 0, none⟩))) S p al (.pointer (some ⟨T2, 0, none⟩)) (.pointer (some ⟨L, 0, none⟩)) (.slice none 0 0) := Blk.set_ hb2 3 (.pointer (some ⟨T2, 0, none⟩))
      have hO3 : Only (fun b => b = S) w2 (w2.setCell ⟨S, 3, none⟩ (.pointer (some ⟨T2, 0, none⟩))) := (Only.refl (fun b => b = S) w2).setCell (fun _ => rfl) _
      have hSlt1 : S < w1.heap.size := Blk.lt HS1.out.blk
      have hLlt1 : L < w1.heap.size := HS1.out.list.1.lt
      have hs3 : USet (w2.setCell ⟨S, 3, none⟩ (.pointer (some ⟨T2, 0, none⟩))) T2 (.slice none 0 0) M2 [] := hs2.only hO3 (by omega) (by simp [Value.ownBlock]) (by omega)
      have hSL : S ≠ L := Blk.ne_ HS1.out.blk HS1.out.list.1 (by decide)
      have hl3 : CList (w2.setCell ⟨S, 3, none⟩ (.pointer (some ⟨T2, 0, none⟩))) L u [] := (HS1.out.list.only ho2 (fun hf => hf) (fun _ _ hf => hf)).only hO3 (fun e => hSL e.symm) (fun g hg e => HS1.out.list.2.1.blk_ne HS1.out.blk (by decide) (by rw [hg, e]))
      obtain ⟨w3, hw3⟩ : ∃ w3, w3 = w2.setCell ⟨S, 3, none⟩ (.pointer (some ⟨T2, 0, none⟩)) := ⟨_, rfl⟩
      have ho3 : Only (fun _ => False) w w3 := by rw [hw3]; exact (HO1.out.trans ho2 (fun _ hf _ => hf)).trans hO3 (fun b hb hlt => by omega)
      rw [← hw3] at hb3 hs3 hl3
      have hszw3 : w3.heap.size = w2.heap.size := by rw [hw3]; simp [World.setCell]
      have HB3 := Lib.hid hb3
      have HS3 := Lib.hid hs3
      have HL3 := Lib.hid hl3
      have HO3 := Lib.hid ho3
      have HW3 := Lib.hid hw3
      have hs12 := ho2.size
      clear hs2 ho2 hb2 hb3 hO3 hs3 hl3 hw3 ho3
      go_wp2_with fail
      rw [← HW3.out]
      go_loopg [15] tn (fun g s15 wr => ∃ j i v1 K1, g + j = tn ∧ i = 8 + 4 * j ∧ s15 = .int .i64 (i : Nat) ∧ Hid (Added w3 T2 M2 (.slice none 0 0) [] (KS.take j) wr v1 K1) ∧ Hid (∀ k ∈ KS.take j, okKey k p))
      case atStart => exact ⟨0, 8, .slice none 0 0, [], by omega, by omega, rfl, by rw [List.take_zero]; exact Added.refl HS3.out, by rw [List.take_zero]; exact fun k hk => (List.not_mem_nil hk).elim⟩
      case round =>
        obtain ⟨j, i, v1, K1, hgj, hij, rfl, HA, HOKJ⟩ := hrel
        have hInS : Hid (∀ b, InSet T2 M2 (.slice none 0 0) b → w1.heap.size ≤ b) := by
          rintro b (rfl | rfl | e)
          · exact hT2
          · exact hM2
          · simp [Value.ownBlock] at e
        have HOr : Hid (Only (fun _ => False) w wr) := HO3.out.trans HA.out.only (fun b hb hlt => by have := hInS.out b hb; have := HO1.out.size; omega)
        by_cases hj : j < tn
        · have k1 : (i : Int) < 8 + 4 * (tn : Int) := by omega
          have k2 : (i : Int) + 4 ≤ (c : Int) := by omega
          have k3 : ¬ c = i := by omega
          obtain ⟨k, hkk⟩ : ∃ k, KS.getD j 0 = k := ⟨_, rfl⟩
          have hk32 : k < 4294967296 := by rw [← hkk]; exact HK32.out _ (mem_getD (by rw [HKL.out]; exact hj))
          have HBEj : Hid (∀ q, Calls Tryd.prog 67 #[.slice (some (ad.add i)) 4 (c - i)] (wr.drewN q) fun e w' => e = .returned (.int .u32 (k : Nat)) ∧ ∃ m, w' = wr.drewN (q + m)) := by
            have h := HDR.out (4 * j)
            rw [HREST.out, keys_drop KS r2 j (by rw [HKL.out]; exact hj), hkk, ← hij] at h
            rw [show ad.add i = ⟨ad.block, ad.off + i, none⟩ from by unfold Addr.add; rw [if_neg (by omega)]]
            exact be32_quiet _ _ (c - i) _ k _ wr (h.only (Nat.le_refl _) HOr.out (fun _ _ hf => hf)) hk32
          have HTK : Hid (KS.take (j + 1) = KS.take j ++ [k]) := by
            show _ = _
            rw [list_take_succ KS j (by rw [HKL.out]; exact hj), hkk]
          have hSn2 : S ≠ T2 ∧ S ≠ M2 := by constructor <;> omega
          have cS : ∀ W, Only (InSet T2 M2 (.slice none 0 0)) w3 W → W.cell? ⟨S, 3, none⟩ = some (.pointer (some ⟨T2, 0, none⟩)) := fun W hW => (Blk.only HB3.out hW (fun e => by have := hInS.out _ e; omega)).cell 3
          have s3 := cS wr HA.out.only
          have HIJ := Lib.hid hij
          clear cS hij
          go_wp2_with fail
          refine (HBEj.out 0).mono ?_
          rintro e wb ⟨rfl, q, rfl⟩
          rw [Nat.zero_add]
          have hdq : Only (fun _ => False) wr (wr.drewN q) := (Only.refl _ wr).drewN _
          have HAb := Lib.hid (HA.out.same hdq)
          have HEb : Hid (Errs (wr.drewN q)) := HE.out.only (HOr.out.trans hdq (fun _ hf _ => hf)) (fun hf => hf) (fun hf => hf)
          have hK1l : K1.length < 1099511627776 := by have h := HA.out.len; rw [List.length_take, List.length_nil] at h; omega
          have HAK := Lib.hid (add_k T2 M2 k v1 K1 (wr.drewN q) HAb.out.set hk32 hK1l)
          clear hdq HBEj
          by_cases hok : decVal k p ≤ 65 - p
          · go_wp2_with fail
            refine (checkSparseKey_ok k p _ hk32 h1 h2 hok).mono ?_
            rintro e wc ⟨rfl, rfl⟩
            go_wp2_with fail
            refine HAK.out.mono ?_
            rintro e wd ⟨bq, v3, K3, rfl, hs3, hm3, hl3, ho3, hli3⟩
            have HAd : Hid (Added w3 T2 M2 (.slice none 0 0) [] (KS.take (j + 1)) wd v3 K3) := by
              show Added _ _ _ _ _ _ _ _ _
              rw [HTK.out]
              exact HAb.out.one hs3 hm3 hl3 ho3 hli3
            have HOK2 : Hid (∀ k ∈ KS.take (j + 1), okKey k p) := by
              intro c hc
              rw [HTK.out] at hc
              rcases List.mem_append.1 hc with h | h
              · exact HOKJ.out c h
              · rw [List.mem_singleton] at h; subst h; exact ⟨hk32, hok⟩
            clear hs3 hm3 hl3 ho3 hli3
            go_wp2_with fail
            go_roundg (tn - (j + 1))
            case measure => omega
            case rel => exact ⟨j + 1, i + 4, v3, K3, by omega, by have := HIJ.out; omega, by go_num, HAd.out, HOK2.out⟩
          · have HNO : Hid (∀ K ks, ¬ SpDec p (be32 tn ++ rest) K ks) := fun K ks h => by
              rw [HREST.out] at h
              obtain ⟨rfl, _⟩ := h.keys h2 htn HKL.out HK32.out
              exact hok (h.2.2.1 k (by rw [← hkk]; exact mem_getD (by rw [HKL.out]; exact hj))).2
            go_wp2_with fail
            refine (checkSparseKey_bad k p _ hk32 h1 h2 hok HEb.out).mono ?_
            rintro e wc ⟨⟨a5, rfl⟩, rfl⟩
            go_wp2_with fail
            go_ret
            exact .inr ⟨⟨a5, rfl⟩, HNO.out, HOr.out.drewN _⟩
        · have hjt : j = tn := by omega
          have HAt : Hid (Added w3 T2 M2 (.slice none 0 0) [] KS wr v1 K1) := by
            have h := HA.out
            rw [List.take_of_length_le (by rw [HKL.out]; omega)] at h
            exact h
          have HOKt : Hid (∀ k ∈ KS, okKey k p) := by
            have h := HOKJ.out
            rw [List.take_of_length_le (by rw [HKL.out]; omega)] at h
            exact h
          have hin : i ≤ n := by omega
          have k1 : ¬ (i : Int) < 8 + 4 * (tn : Int) := by omega
          have hSn2 : S ≠ T2 ∧ S ≠ M2 := by constructor <;> omega
          have hSk : SkB wr S p al (.pointer (some ⟨T2, 0, none⟩)) (.pointer (some ⟨L, 0, none⟩)) (.slice none 0 0) := Blk.only HB3.out HA.out.only (fun e => by have := hInS.out _ e; omega)
          have hLr : CList wr L u [] := HL3.out.only HA.out.only (fun e => by have := hInS.out _ e; omega) (fun g hg e => by have := hInS.out _ e; have := HS1.out.list.2.1.lt g hg; omega)
          have hdw : Only (fun _ => False) wr wr.drew := (Only.refl _ wr).drew
          have hEr : Errs wr.drew := HE.out.only (HOr.out.drew) (fun hf => hf) (fun hf => hf)
          have hNr : Nums wr.drew wr.drew.heap.size .u8 (some ⟨ad.block, ad.off + i, none⟩) (n - i) r2 := by
            have h := HDR.out (4 * tn)
            rw [← HR2.out, show 8 + 4 * tn = i by omega] at h
            exact (h.only (Nat.le_refl _) (HOr.out.drew) (fun _ _ hf => hf)).more HOr.out.size
          have hr2i : r2.length = n - i := by have := HR2L.out; omega
          have s4 : wr.cell? ⟨S, 4, none⟩ = some (.pointer (some ⟨L, 0, none⟩)) := hSk.cell 4
          have i6 : 8 + 4 * (tn : Int) = (i : Int) := by omega
          have i7 : (i : Int) ≤ (n : Int) := by omega
          have hadi : ad.add i = ⟨ad.block, ad.off + i, none⟩ := by unfold Addr.add; rw [if_neg (by omega)]
          have HSK := Lib.hid hSk
          have HLR := Lib.hid hLr
          have hLlt : L < wr.heap.size := hLr.1.lt
          have HUNL : Hid (∀ A cx, (∀ a', A = some a' → a' = ad.add i) → (A = none → n = i) → n - i ≤ cx → cx ≤ 9223372036854775807 → Calls Tryd.prog 47 #[.pointer (some ⟨L, 0, none⟩), .slice A (n - i) cx, .int .u8 p] wr.drew fun e w' => ∃ ev, e = .returned ev ∧ UnmLi wr.drew L p r2 ev w') := fun A cx h1' h2' h3' h4' =>
            unm_list L u A (n - i) cx p 0 r2 wr.drew (fun a' ha => by rw [ha, h1' a' ha, hadi]; exact hNr) (fun ha => by have := h2' ha; omega) hr2i HR2B.out h3' h4' (by omega) h1 h2 (hLr.only hdw (fun hf => hf) (fun _ _ hf => hf)) hEr (Nat.zero_le _)
          have HIJ := Lib.hid hij
          have HJT := Lib.hid hjt
          clear hij hjt hj hadi hSk hLr hdw hEr hNr hr2i
          have HSH : Hid (n = i → ∀ A cx, Calls Tryd.prog 47 #[.pointer (some ⟨L, 0, none⟩), .slice A 0 cx, .int .u8 p] wr.drew fun e w' => ∃ ev, e = .returned ev ∧ UnmLi wr.drew L p r2 ev w') := fun hni A cx => by
            refine (unm_short L A 0 cx p wr.drew (by omega) (HE.out.only (HOr.out.drew) (fun hf => hf) (fun hf => hf))).mono ?_
            rintro e w' ⟨⟨a, rfl⟩, rfl⟩
            refine ⟨_, rfl, .inr ⟨⟨a, rfl⟩, fun ks _ e => ?_, Only.refl _ _⟩⟩
            have h1' := listBytes_len ks
            rw [← e] at h1'
            have := HR2L.out
            have := HIJ.out
            have := HJT.out
            omega
          have HK4 : Hid (∀ ev W, UnmLi wr.drew L p r2 ev W → W.cell? ⟨S, 4, none⟩ = some (.pointer (some ⟨L, 0, none⟩))) := fun ev W hW => by
            have hsk : SkB wr.drew S p al (.pointer (some ⟨T2, 0, none⟩)) (.pointer (some ⟨L, 0, none⟩)) (.slice none 0 0) := HSK.out
            rcases hW with ⟨_, ks, u', _, _, _, _, ho⟩ | ⟨_, _, ho⟩
            · exact (Blk.only hsk ho hSL).cell 4
            · exact (Blk.only hsk ho (fun hf => hf)).cell 4
          -- what follows when the list has been read
          have HFIN : Hid (∀ ev wx, UnmLi wr.drew L p r2 ev wx → (ev = .nilIface ∧ ∃ ks u', Valid p ks ∧ r2 = listBytes ks ∧ CList wx L u' ks ∧ SkB wx S p al (.pointer (some ⟨T2, 0, none⟩)) (.pointer (some ⟨L, 0, none⟩)) (.slice none 0 0) ∧ Blk wx S0 74 #[z0, z1, z2, z3, z4, z5] ∧ USet wx T2 v1 M2 K1 ∧ (∀ g, u'.ownBlock = some g → w.heap.size ≤ g) ∧ Only (fun _ => False) w wx) ∨ ((∃ a, ev = .iface 152 (.pointer (some a))) ∧ (∀ K ks, ¬ SpDec p (be32 tn ++ rest) K ks) ∧ Only (fun _ => False) w wx)) := fun ev wx hW => by
            have hor : Only (fun _ => False) w wr.drew := HOr.out.drew
            have hsw := hor.size
            rcases hW with ⟨e0, ks, u', hv, hr, hcl, hnw, ho⟩ | ⟨e0, hno, ho⟩
            · have hset : USet wr.drew T2 v1 M2 K1 := HAt.out.set.only ((Only.refl (fun _ => False) wr).drew) (fun hf => hf) (fun _ _ hf => hf) (fun hf => hf)
              have hsk : SkB wr.drew S p al (.pointer (some ⟨T2, 0, none⟩)) (.pointer (some ⟨L, 0, none⟩)) (.slice none 0 0) := HSK.out
              have hlr : CList wr.drew L u [] := HLR.out
              refine .inl ⟨e0, ks, u', hv, hr, hcl, Blk.only hsk ho hSL, (HB0.out.only hor (fun hf => hf)).only ho (by have := HB0.out.lt; omega), hset.only ho (fun e => hset.blk.ne_ hlr.1 (by decide) e) (fun g hg e => hset.row.blk_ne hlr.1 (by decide) (by rw [hg, e])) (fun e => hset.map.ne hlr.1 e), fun g hg => by have := hnw g hg; omega, hor.trans ho (fun b hb hlt => by omega)⟩
            · refine .inr ⟨e0, fun K ks h => ?_, hor.trans ho (fun _ hf _ => hf)⟩
              rw [HREST.out] at h
              obtain ⟨rfl, e1⟩ := h.keys h2 htn HKL.out HK32.out
              exact hno ks h.2.2.2 e1
          have hst := fun (W : World) (a : Addr) (x : Nat) => run_store Tryd.prog W a (.float .f64 x) .plain rfl
          by_cases hci : c = i
          · obtain rfl : i = n := by omega
            obtain rfl : c = i := hci
            have HSH2 := Lib.hid (HSH.out rfl)
            clear HSH HUNL
            go_wp2_with fail
            go_region_held3 (fun w' => w'.cell? ⟨S, 4, none⟩ = some (.pointer (some ⟨L, 0, none⟩)))
              (first | go_keep | exact k4)
              (first
                | (go_at_call 47; refine (HSH2.out _ _).mono ?_; rintro e wx ⟨ev, rfl, hev⟩; have HEV := Lib.hid (HFIN.out ev wx hev); have k4 := HK4.out ev wx hev; clear hev)
                | fail)
            rcases HEV.out with ⟨rfl, ks, u', hv, hr2e, _⟩ | ⟨⟨a7, rfl⟩, hno, how⟩
            · exfalso
              have h1' := listBytes_len ks
              rw [← hr2e] at h1'
              have := HR2L.out
              have := HIJ.out
              have := HJT.out
              omega
            · have HNO := Lib.hid hno
              have HOW := Lib.hid how
              clear hno how HEV
              go_wp2_with fail
              go_ret
              exact .inr ⟨⟨a7, rfl⟩, HNO.out, HOW.out⟩
          · go_wp2_with fail
            go_region_held3 (fun w' => w'.cell? ⟨S, 4, none⟩ = some (.pointer (some ⟨L, 0, none⟩)))
              (first | go_keep | exact k4)
              (first
                | (go_at_call 47; refine (HUNL.out (some (ad.add i)) (c - i) (fun a' ha => by injection ha with ha; exact ha.symm) (fun h => by cases h) (by omega) (by omega)).mono ?_; rintro e wx ⟨ev, rfl, hev⟩; have HEV := Lib.hid (HFIN.out ev wx hev); have k4 := HK4.out ev wx hev; clear hev)
                | fail)
            rcases HEV.out with ⟨rfl, ks, u', hv, hr2e, hcl, hsk, hb0, hset, hnw, how⟩ | ⟨⟨a7, rfl⟩, hno, how⟩
            · obtain ⟨l0, l1, l2, l3, l4, l5⟩ := blk_cells hsk
              obtain ⟨g0, g1, g2, g3, g4, g5⟩ := blk_cells hb0
              obtain ⟨f0, f1, f2, f3, f4, f5⟩ := blk_frozen hb0
              have HCL := Lib.hid hcl
              have HB := Lib.hid hb0
              have HST := Lib.hid hset
              have HNW := Lib.hid hnw
              have HOW := Lib.hid how
              have HVV := Lib.hid hv
              have HRE := Lib.hid hr2e
              clear hcl hsk hb0 hset hnw how hv hr2e HEV
              go_wp2_with fail
              go_ret
              have e2 : ((2 : Int) ^ p) = ((2 ^ p : Nat) : Int) := by simp
              rw [e2]
              have hb6 := set6 HB.out (.int .u8 p) (.int .u32 ((2 ^ p : Nat) : Int)) (.float .f64 al) (.pointer (some ⟨T2, 0, none⟩)) (.pointer (some ⟨L, 0, none⟩)) (.slice none 0 0)
              have ho6 := only6 wx S0 (.int .u8 p) (.int .u32 ((2 ^ p : Nat) : Int)) (.float .f64 al) (.pointer (some ⟨T2, 0, none⟩)) (.pointer (some ⟨L, 0, none⟩)) (.slice none 0 0)
              have hS0l := HB0.out.lt
              have hT2n : w.heap.size ≤ T2 := by have := hInS.out T2 (.inl rfl); have := HO1.out.size; omega
              have hM2n : w.heap.size ≤ M2 := by have := hInS.out M2 (.inr (.inl rfl)); have := HO1.out.size; omega
              have hv1n : ∀ g, v1.ownBlock = some g → w.heap.size ≤ g := fun g hg => by
                rcases HAt.out.lies with e | ⟨g', e, hge⟩
                · rw [hg] at e; simp [Value.ownBlock] at e
                · rw [hg] at e; injection e with e; have := HO3.out.size; omega
              have hfit : Fit p False K1 ks := by
                refine ⟨fun k hk => ?_, ?_, HVV.out, fun hf => hf.elim⟩
                · rcases (HAt.out.mem k).1 hk with h | h
                  · exact (List.not_mem_nil h).elim
                  · exact HOKt.out k h
                · have h := HAt.out.len
                  rw [List.length_nil] at h
                  have := HKL.out
                  have := HM.out
                  omega
              have htab : table p ((KS ++ ks).map (kv p)) = table p ((K1 ++ ks).map (kv p)) := by
                refine table_congr fun q => ?_
                simp only [List.map_append, List.mem_append, List.mem_map]
                constructor
                · rintro (⟨k, hk, rfl⟩ | h)
                  · exact .inl ⟨k, (HAt.out.mem k).2 (.inr hk), rfl⟩
                  · exact .inr h
                · rintro (⟨k, hk, rfl⟩ | h)
                  · rcases (HAt.out.mem k).1 hk with h | h
                    · exact (List.not_mem_nil h).elim
                    · exact .inl ⟨k, h, rfl⟩
                  · exact .inr h
              have hset6 := HST.out.only ho6 (by omega) (fun g hg e => by have := hv1n g hg; omega) (by omega)
              have hcl6 := HCL.out.only ho6 (by omega) (fun g hg e => by have := HNW.out g hg; omega)
              refine .inl ⟨rfl, KS, ks, fun b => b = S0 ∨ b = T2 ∨ b = M2 ∨ b = L ∨ v1.ownBlock = some b ∨ u'.ownBlock = some b, ⟨by rw [HREST.out, HRE.out, HKL.out], by have := HKL.out; have := HM.out; omega, HOKt.out, HVV.out⟩, ⟨.inl rfl, ?_, h1, h2, .inr ⟨al, T2, M2, v1, K1, L, u', ks, ⟨hb6, hset6, hcl6⟩, hfit, htab, .inr (.inl rfl), .inr (.inr (.inl rfl)), .inr (.inr (.inr (.inl rfl))), fun g hg => .inr (.inr (.inr (.inr (.inl hg)))), fun g hg => .inr (.inr (.inr (.inr (.inr hg))))⟩⟩, ?_, ?_⟩
              · rintro b (rfl | rfl | rfl | rfl | hb | hb)
                · exact hb6.lt
                · exact hset6.blk.lt
                · exact hset6.map.lt
                · exact hcl6.1.lt
                · exact hset6.row.lt b hb
                · exact hcl6.2.1.lt b hb
              · rintro b (rfl | rfl | rfl | rfl | hb | hb)
                · exact .inl rfl
                · exact .inr hT2n
                · exact .inr hM2n
                · exact .inr hLn
                · exact .inr (hv1n b hb)
                · exact .inr (HNW.out b hb)
              · exact (HOW.out.mono (fun _ hf _ => hf.elim)).trans ho6 (fun b hb _ => hb)
            · have HNO := Lib.hid hno
              have HOW := Lib.hid how
              clear hno how HEV
              go_wp2_with fail
              go_ret
              exact .inr ⟨⟨a7, rfl⟩, HNO.out, HOW.out⟩
end Go.Proofs.YtoegfdndoeiolaaDoor

/- Walks: bytes of a sparse sketch of the first version are read. Conditions: the bytes are bytes; the variables of the errors hold errors. -/
namespace Go.Proofs.YtoegfdndoeiolaaDoor
open Go.RowKit

set_option maxHeartbeats 4000000 in
set_option maxRecDepth 100000 in
theorem UnmSparse1_any (S0 p tn bb : Nat) (z0 z1 z2 z3 z4 z5 : Value) (ad : Addr) (n c : Nat) (rest : List Nat) (w : World) (hb0 : Blk w S0 74 #[z0, z1, z2, z3, z4, z5]) (hbs : Nums w w.heap.size .u8 (some ad) n (1 :: p :: bb :: 1 :: (be32 tn ++ rest))) (hnc : n ≤ c) (hc : c ≤ 9223372036854775807) (hn : n < 1099511627776)
    (h256 : ∀ b ∈ rest, b < 256) (htn : tn < 4294967296) (hbb : bb < 256) (h1 : 4 ≤ p) (h2 : p ≤ 18) (he : Errs w) :
    Calls Tryd.prog 43 #[.pointer (some ⟨S0, 0, none⟩), .slice (some ad) n c] w fun e w' => UnmSp w S0 p (be32 tn ++ rest) e w' := by
  have hpb := pow_bounds h1 h2
  obtain ⟨m, hm⟩ : ∃ m, m = 2 ^ p := ⟨_, rfl⟩
  have hsp := shl1_word h2 hm
  have hnl : n = 8 + rest.length := by have := hbs.1; simp only [List.length_cons, List.length_append, be32_len] at this; omega
  have q0 := hbs.at_ (i := 0) (by omega)
  have q1 := hbs.at_ (i := 1) (by omega)
  have q2 := hbs.at_ (i := 2) (by omega)
  have q3 := hbs.at_ (i := 3) (by omega)
  obtain ⟨_, e0, had, d0⟩ := q0
  obtain ⟨_, e1, _, d1⟩ := q1
  obtain ⟨_, e2, _, d2⟩ := q2
  obtain ⟨_, e3, _, d3⟩ := q3
  injection e0 with e0; injection e1 with e1; injection e2 with e2; injection e3 with e3
  subst e0; subst e1; subst e2; subst e3
  have c0 : w.cell? ad = some (.int .u8 1) := d0
  have c1 : w.cell? ⟨ad.block, ad.off + 1, none⟩ = some (.int .u8 (p : Int)) := d1
  have c2 : w.cell? ⟨ad.block, ad.off + 2, none⟩ = some (.int .u8 bb) := d2
  have c3 : w.cell? ⟨ad.block, ad.off + 3, none⟩ = some (.int .u8 1) := d3
  have hd4 := hbs.drop (m := 4) (by omega)
  rw [show (1 :: p :: bb :: 1 :: (be32 tn ++ rest)).drop 4 = be32 tn ++ rest from rfl] at hd4
  have hdr : ∀ i, Nums w w.heap.size .u8 (some ⟨ad.block, ad.off + (8 + i), none⟩) (n - (8 + i)) (rest.drop i) := fun i => by
    have h := hbs.drop (m := 8 + i) (by omega)
    rw [show (1 :: p :: bb :: 1 :: (be32 tn ++ rest)).drop (8 + i) = rest.drop i from by rw [← List.drop_drop]; rfl] at h
    exact h
  rw [← hm] at hpb
  have HBE := Lib.hid (be32_quiet _ _ (c - 4) _ tn _ w hd4 htn)
  have HDR := Lib.hid hdr
  have HE := Lib.hid he
  have HB0 := Lib.hid hb0
  have HM := Lib.hid hm
  have H256 := Lib.hid h256
  have HNL := Lib.hid hnl
  obtain ⟨a1, hTS⟩ := he.1
  obtain ⟨a3, hID⟩ := he.2
  have i0 : (8 : Int) ≤ (n : Int) := by omega
  have i2 : (8 : Int) ≤ (c : Int) := by omega
  have i3 : (n : Int) ≤ (c : Int) := by omega
  have i4 : ¬ (n : Int) < 8 := by omega
  clear d0 d1 d2 d3 hd4 hdr hbs he hb0 hm h256 hnl
  by_cases hneed : n < 8 + 4 * tn
  · have j1 : (n : Int) < 8 + 4 * (tn : Int) := by omega
    have HNO : Hid (∀ K ks, ¬ SpDec p (be32 tn ++ rest) K ks) := fun K ks h => by
      obtain ⟨e1, e2⟩ := h.parts h2 htn
      have hl := congrArg List.length e2
      rw [List.length_append, keyBytes_length] at hl
      have := listBytes_len ks
      have := HNL.out
      omega
    go_enter Tryd.func43, Tryd.ntmps43
    go_wp2_with (first
      | (go_at_call 54; refine (checkPrecision_ok p _ h1 h2).mono ?_; rintro e w' ⟨rfl, rfl⟩)
      | (go_at_call 67; refine (HBE.out 0).mono ?_; rintro e w' ⟨rfl, k, rfl⟩))
    go_ret
    exact .inr ⟨⟨a1, rfl⟩, HNO.out, (Only.refl _ w).drewN _⟩
  · have j1 : ¬ (n : Int) < 8 + 4 * (tn : Int) := by omega
    by_cases hbig : m < tn
    · have j2 : (m : Int) < (tn : Int) := by omega
      have HNO : Hid (∀ K ks, ¬ SpDec p (be32 tn ++ rest) K ks) := fun K ks h => by
        obtain ⟨e1, e2⟩ := h.parts h2 htn
        have := h.2.1
        have := HM.out
        omega
      go_enter Tryd.func43, Tryd.ntmps43
      go_wp2_with (first
        | (go_at_call 54; refine (checkPrecision_ok p _ h1 h2).mono ?_; rintro e w' ⟨rfl, rfl⟩)
        | (go_at_call 67; refine (HBE.out 0).mono ?_; rintro e w' ⟨rfl, k, rfl⟩))
      go_ret
      exact .inr ⟨⟨a3, rfl⟩, HNO.out, (Only.refl _ w).drewN _⟩
    · have j2 : ¬ (m : Int) < (tn : Int) := by omega
      obtain ⟨KS, hKl, hKe, hK32⟩ := keys_of tn (rest.take (4 * tn)) (by rw [List.length_take]; have := HNL.out; omega) (fun b hb => H256.out b (List.mem_of_mem_take hb))
      obtain ⟨r2, hr2⟩ : ∃ r2, r2 = rest.drop (4 * tn) := ⟨_, rfl⟩
      have hrest : rest = keyBytes KS ++ r2 := by rw [hr2, ← hKe, List.take_append_drop]
      have hr2l : r2.length = n - (8 + 4 * tn) := by rw [hr2, List.length_drop]; have := HNL.out; omega
      have hr2b : ∀ b ∈ r2, b < 256 := fun b hb => H256.out b (by rw [hrest]; simp [hb])
      have HKL := Lib.hid hKl
      have HK32 := Lib.hid hK32
      have HREST := Lib.hid hrest
      have HR2 := Lib.hid hr2
      have HR2L := Lib.hid hr2l
      have HR2B := Lib.hid hr2b
      clear hKl hKe hK32 hr2 hrest hr2l hr2b hneed hbig
      go_enter Tryd.func43, Tryd.ntmps43
      go_wp2_with (first
        | (go_at_call 54; refine (checkPrecision_ok p _ h1 h2).mono ?_; rintro e w' ⟨rfl, rfl⟩)
        | (go_at_call 67; refine (HBE.out 0).mono ?_; rintro e w' ⟨rfl, k, rfl⟩))
      refine (newSparse_any p _ h1 h2).mono ?_
      rintro e w1 ⟨S, al, T, M, v, L, u, rfl, hs, hS, hT, hM', hL, hv, hu, hon⟩
      have ho1 : Only (fun _ => False) w w1 := ((Only.refl _ w).drewN _).trans hon (fun _ hf _ => hf)
      have HS1 := Lib.hid hs
      have HO1 := Lib.hid ho1
      have hSn : w.heap.size ≤ S := hS
      have hLn : w.heap.size ≤ L := hL
      have HUN : Hid (∀ g, u.ownBlock = some g → w.heap.size ≤ g) := hu
      clear hs hS hT hM' hL hv hu hon ho1 c0 c1 c2 c3 HBE
      go_wp2_with fail
      refine (makeSet_any tn _).mono ?_
      rintro e w2 ⟨T2, M2, rfl, hT2, hM2, hs2, ho2⟩
      have hb2 := Blk.only HS1.out.blk ho2 (fun hf => hf)
      have f3 := hb2.frozen 3
      have g3 := hb2.cell 3
      have hb3 : SkB (w2.setCell ⟨S, 3, none⟩ (.pointer (some ⟨T2, 0, none⟩))) S p al (.pointer (some ⟨T2, 0, none⟩)) (.pointer (some ⟨L, 0, none⟩)) (.slice none 0 0) := Blk.set_ hb2 3 (.pointer (some ⟨T2, 0, none⟩))
      have hO3 : Only (fun b => b = S) w2 (w2.setCell ⟨S, 3, none⟩ (.pointer (some ⟨T2, 0, none⟩))) := (Only.refl (fun b => b = S) w2).setCell (fun _ => rfl) _
      have hSlt1 : S < w1.heap.size := Blk.lt HS1.out.blk
      have hLlt1 : L < w1.heap.size := HS1.out.list.1.lt
      have hs3 : USet (w2.setCell ⟨S, 3, none⟩ (.pointer (some ⟨T2, 0, none⟩))) T2 (.slice none 0 0) M2 [] := hs2.only hO3 (by omega) (by simp [Value.ownBlock]) (by omega)
      have hSL : S ≠ L := Blk.ne_ HS1.out.blk HS1.out.list.1 (by decide)
      have hl3 : CList (w2.setCell ⟨S, 3, none⟩ (.pointer (some ⟨T2, 0, none⟩))) L u [] := (HS1.out.list.only ho2 (fun hf => hf) (fun _ _ hf => hf)).only hO3 (fun e => hSL e.symm) (fun g hg e => HS1.out.list.2.1.blk_ne HS1.out.blk (by decide) (by rw [hg, e]))
      obtain ⟨w3, hw3⟩ : ∃ w3, w3 = w2.setCell ⟨S, 3, none⟩ (.pointer (some ⟨T2, 0, none⟩)) := ⟨_, rfl⟩
      have ho3 : Only (fun _ => False) w w3 := by rw [hw3]; exact (HO1.out.trans ho2 (fun _ hf _ => hf)).trans hO3 (fun b hb hlt => by omega)
      rw [← hw3] at hb3 hs3 hl3
      have hszw3 : w3.heap.size = w2.heap.size := by rw [hw3]; simp [World.setCell]
      have HB3 := Lib.hid hb3
      have HS3 := Lib.hid hs3
      have HL3 := Lib.hid hl3
      have HO3 := Lib.hid ho3
      have HW3 := Lib.hid hw3
      have hs12 := ho2.size
      clear hs2 ho2 hb2 hb3 hO3 hs3 hl3 hw3 ho3
      go_wp2_with fail
      rw [← HW3.out]
      go_loopg [15] tn (fun g s15 wr => ∃ j i v1 K1, g + j = tn ∧ i = 8 + 4 * j ∧ s15 = .int .i64 (i : Nat) ∧ Hid (Added w3 T2 M2 (.slice none 0 0) [] (KS.take j) wr v1 K1) ∧ Hid (∀ k ∈ KS.take j, okKey k p))
      case atStart => exact ⟨0, 8, .slice none 0 0, [], by omega, by omega, rfl, by rw [List.take_zero]; exact Added.refl HS3.out, by rw [List.take_zero]; exact fun k hk => (List.not_mem_nil hk).elim⟩
      case round =>
        obtain ⟨j, i, v1, K1, hgj, hij, rfl, HA, HOKJ⟩ := hrel
        have hInS : Hid (∀ b, InSet T2 M2 (.slice none 0 0) b → w1.heap.size ≤ b) := by
          rintro b (rfl | rfl | e)
          · exact hT2
          · exact hM2
          · simp [Value.ownBlock] at e
        have HOr : Hid (Only (fun _ => False) w wr) := HO3.out.trans HA.out.only (fun b hb hlt => by have := hInS.out b hb; have := HO1.out.size; omega)
        by_cases hj : j < tn
        · have k1 : (i : Int) < 8 + 4 * (tn : Int) := by omega
          have k2 : (i : Int) + 4 ≤ (c : Int) := by omega
          have k3 : ¬ c = i := by omega
          obtain ⟨k, hkk⟩ : ∃ k, KS.getD j 0 = k := ⟨_, rfl⟩
          have hk32 : k < 4294967296 := by rw [← hkk]; exact HK32.out _ (mem_getD (by rw [HKL.out]; exact hj))
          have HBEj : Hid (∀ q, Calls Tryd.prog 67 #[.slice (some (ad.add i)) 4 (c - i)] (wr.drewN q) fun e w' => e = .returned (.int .u32 (k : Nat)) ∧ ∃ m, w' = wr.drewN (q + m)) := by
            have h := HDR.out (4 * j)
            rw [HREST.out, keys_drop KS r2 j (by rw [HKL.out]; exact hj), hkk, ← hij] at h
            rw [show ad.add i = ⟨ad.block, ad.off + i, none⟩ from by unfold Addr.add; rw [if_neg (by omega)]]
            exact be32_quiet _ _ (c - i) _ k _ wr (h.only (Nat.le_refl _) HOr.out (fun _ _ hf => hf)) hk32
          have HTK : Hid (KS.take (j + 1) = KS.take j ++ [k]) := by
            show _ = _
            rw [list_take_succ KS j (by rw [HKL.out]; exact hj), hkk]
          have hSn2 : S ≠ T2 ∧ S ≠ M2 := by constructor <;> omega
          have cS : ∀ W, Only (InSet T2 M2 (.slice none 0 0)) w3 W → W.cell? ⟨S, 3, none⟩ = some (.pointer (some ⟨T2, 0, none⟩)) := fun W hW => (Blk.only HB3.out hW (fun e => by have := hInS.out _ e; omega)).cell 3
          have s3 := cS wr HA.out.only
          have HIJ := Lib.hid hij
          clear cS hij
          go_wp2_with fail
          refine (HBEj.out 0).mono ?_
          rintro e wb ⟨rfl, q, rfl⟩
          rw [Nat.zero_add]
          have hdq : Only (fun _ => False) wr (wr.drewN q) := (Only.refl _ wr).drewN _
          have HAb := Lib.hid (HA.out.same hdq)
          have HEb : Hid (Errs (wr.drewN q)) := HE.out.only (HOr.out.trans hdq (fun _ hf _ => hf)) (fun hf => hf) (fun hf => hf)
          have hK1l : K1.length < 1099511627776 := by have h := HA.out.len; rw [List.length_take, List.length_nil] at h; omega
          have HAK := Lib.hid (add_k T2 M2 k v1 K1 (wr.drewN q) HAb.out.set hk32 hK1l)
          clear hdq HBEj
          by_cases hok : decVal k p ≤ 65 - p
          · go_wp2_with fail
            refine (checkSparseKey_ok k p _ hk32 h1 h2 hok).mono ?_
            rintro e wc ⟨rfl, rfl⟩
            go_wp2_with fail
            refine HAK.out.mono ?_
            rintro e wd ⟨bq, v3, K3, rfl, hs3, hm3, hl3, ho3, hli3⟩
            have HAd : Hid (Added w3 T2 M2 (.slice none 0 0) [] (KS.take (j + 1)) wd v3 K3) := by
              show Added _ _ _ _ _ _ _ _ _
              rw [HTK.out]
              exact HAb.out.one hs3 hm3 hl3 ho3 hli3
            have HOK2 : Hid (∀ k ∈ KS.take (j + 1), okKey k p) := by
              intro c hc
              rw [HTK.out] at hc
              rcases List.mem_append.1 hc with h | h
              · exact HOKJ.out c h
              · rw [List.mem_singleton] at h; subst h; exact ⟨hk32, hok⟩
            clear hs3 hm3 hl3 ho3 hli3
            go_wp2_with fail
            go_roundg (tn - (j + 1))
            case measure => omega
            case rel => exact ⟨j + 1, i + 4, v3, K3, by omega, by have := HIJ.out; omega, by go_num, HAd.out, HOK2.out⟩
          · have HNO : Hid (∀ K ks, ¬ SpDec p (be32 tn ++ rest) K ks) := fun K ks h => by
              rw [HREST.out] at h
              obtain ⟨rfl, _⟩ := h.keys h2 htn HKL.out HK32.out
              exact hok (h.2.2.1 k (by rw [← hkk]; exact mem_getD (by rw [HKL.out]; exact hj))).2
            go_wp2_with fail
            refine (checkSparseKey_bad k p _ hk32 h1 h2 hok HEb.out).mono ?_
            rintro e wc ⟨⟨a5, rfl⟩, rfl⟩
            go_wp2_with fail
            go_ret
            exact .inr ⟨⟨a5, rfl⟩, HNO.out, HOr.out.drewN _⟩
        · have hjt : j = tn := by omega
          have HAt : Hid (Added w3 T2 M2 (.slice none 0 0) [] KS wr v1 K1) := by
            have h := HA.out
            rw [List.take_of_length_le (by rw [HKL.out]; omega)] at h
            exact h
          have HOKt : Hid (∀ k ∈ KS, okKey k p) := by
            have h := HOKJ.out
            rw [List.take_of_length_le (by rw [HKL.out]; omega)] at h
            exact h
          have hin : i ≤ n := by omega
          have k1 : ¬ (i : Int) < 8 + 4 * (tn : Int) := by omega
          have hSn2 : S ≠ T2 ∧ S ≠ M2 := by constructor <;> omega
          have hSk : SkB wr S p al (.pointer (some ⟨T2, 0, none⟩)) (.pointer (some ⟨L, 0, none⟩)) (.slice none 0 0) := Blk.only HB3.out HA.out.only (fun e => by have := hInS.out _ e; omega)
          have hLr : CList wr L u [] := HL3.out.only HA.out.only (fun e => by have := hInS.out _ e; omega) (fun g hg e => by have := hInS.out _ e; have := HS1.out.list.2.1.lt g hg; omega)
          have hdw : Only (fun _ => False) wr wr.drew := (Only.refl _ wr).drew
          have hEr : Errs wr.drew := HE.out.only (HOr.out.drew) (fun hf => hf) (fun hf => hf)
          have hNr : Nums wr.drew wr.drew.heap.size .u8 (some ⟨ad.block, ad.off + i, none⟩) (n - i) r2 := by
            have h := HDR.out (4 * tn)
            rw [← HR2.out, show 8 + 4 * tn = i by omega] at h
            exact (h.only (Nat.le_refl _) (HOr.out.drew) (fun _ _ hf => hf)).more HOr.out.size
          have hr2i : r2.length = n - i := by have := HR2L.out; omega
          have s4 : wr.cell? ⟨S, 4, none⟩ = some (.pointer (some ⟨L, 0, none⟩)) := hSk.cell 4
          have i6 : 8 + 4 * (tn : Int) = (i : Int) := by omega
          have i7 : (i : Int) ≤ (n : Int) := by omega
          have hadi : ad.add i = ⟨ad.block, ad.off + i, none⟩ := by unfold Addr.add; rw [if_neg (by omega)]
          have HSK := Lib.hid hSk
          have HLR := Lib.hid hLr
          have hLlt : L < wr.heap.size := hLr.1.lt
          have HUNL : Hid (∀ A cx, (∀ a', A = some a' → a' = ad.add i) → (A = none → n = i) → n - i ≤ cx → cx ≤ 9223372036854775807 → Calls Tryd.prog 47 #[.pointer (some ⟨L, 0, none⟩), .slice A (n - i) cx, .int .u8 p] wr.drew fun e w' => ∃ ev, e = .returned ev ∧ UnmLi wr.drew L p r2 ev w') := fun A cx h1' h2' h3' h4' =>
            unm_list L u A (n - i) cx p 0 r2 wr.drew (fun a' ha => by rw [ha, h1' a' ha, hadi]; exact hNr) (fun ha => by have := h2' ha; omega) hr2i HR2B.out h3' h4' (by omega) h1 h2 (hLr.only hdw (fun hf => hf) (fun _ _ hf => hf)) hEr (Nat.zero_le _)
          have HIJ := Lib.hid hij
          have HJT := Lib.hid hjt
          clear hij hjt hj hadi hSk hLr hdw hEr hNr hr2i
          have HSH : Hid (n = i → ∀ A cx, Calls Tryd.prog 47 #[.pointer (some ⟨L, 0, none⟩), .slice A 0 cx, .int .u8 p] wr.drew fun e w' => ∃ ev, e = .returned ev ∧ UnmLi wr.drew L p r2 ev w') := fun hni A cx => by
            refine (unm_short L A 0 cx p wr.drew (by omega) (HE.out.only (HOr.out.drew) (fun hf => hf) (fun hf => hf))).mono ?_
            rintro e w' ⟨⟨a, rfl⟩, rfl⟩
            refine ⟨_, rfl, .inr ⟨⟨a, rfl⟩, fun ks _ e => ?_, Only.refl _ _⟩⟩
            have h1' := listBytes_len ks
            rw [← e] at h1'
            have := HR2L.out
            have := HIJ.out
            have := HJT.out
            omega
          have HK4 : Hid (∀ ev W, UnmLi wr.drew L p r2 ev W → W.cell? ⟨S, 4, none⟩ = some (.pointer (some ⟨L, 0, none⟩))) := fun ev W hW => by
            have hsk : SkB wr.drew S p al (.pointer (some ⟨T2, 0, none⟩)) (.pointer (some ⟨L, 0, none⟩)) (.slice none 0 0) := HSK.out
            rcases hW with ⟨_, ks, u', _, _, _, _, ho⟩ | ⟨_, _, ho⟩
            · exact (Blk.only hsk ho hSL).cell 4
            · exact (Blk.only hsk ho (fun hf => hf)).cell 4
          -- what follows when the list has been read
          have HFIN : Hid (∀ ev wx, UnmLi wr.drew L p r2 ev wx → (ev = .nilIface ∧ ∃ ks u', Valid p ks ∧ r2 = listBytes ks ∧ CList wx L u' ks ∧ SkB wx S p al (.pointer (some ⟨T2, 0, none⟩)) (.pointer (some ⟨L, 0, none⟩)) (.slice none 0 0) ∧ Blk wx S0 74 #[z0, z1, z2, z3, z4, z5] ∧ USet wx T2 v1 M2 K1 ∧ (∀ g, u'.ownBlock = some g → w.heap.size ≤ g) ∧ Only (fun _ => False) w wx) ∨ ((∃ a, ev = .iface 152 (.pointer (some a))) ∧ (∀ K ks, ¬ SpDec p (be32 tn ++ rest) K ks) ∧ Only (fun _ => False) w wx)) := fun ev wx hW => by
            have hor : Only (fun _ => False) w wr.drew := HOr.out.drew
            have hsw := hor.size
            rcases hW with ⟨e0, ks, u', hv, hr, hcl, hnw, ho⟩ | ⟨e0, hno, ho⟩
            · have hset : USet wr.drew T2 v1 M2 K1 := HAt.out.set.only ((Only.refl (fun _ => False) wr).drew) (fun hf => hf) (fun _ _ hf => hf) (fun hf => hf)
              have hsk : SkB wr.drew S p al (.pointer (some ⟨T2, 0, none⟩)) (.pointer (some ⟨L, 0, none⟩)) (.slice none 0 0) := HSK.out
              have hlr : CList wr.drew L u [] := HLR.out
              refine .inl ⟨e0, ks, u', hv, hr, hcl, Blk.only hsk ho hSL, (HB0.out.only hor (fun hf => hf)).only ho (by have := HB0.out.lt; omega), hset.only ho (fun e => hset.blk.ne_ hlr.1 (by decide) e) (fun g hg e => hset.row.blk_ne hlr.1 (by decide) (by rw [hg, e])) (fun e => hset.map.ne hlr.1 e), fun g hg => by have := hnw g hg; omega, hor.trans ho (fun b hb hlt => by omega)⟩
            · refine .inr ⟨e0, fun K ks h => ?_, hor.trans ho (fun _ hf _ => hf)⟩
              rw [HREST.out] at h
              obtain ⟨rfl, e1⟩ := h.keys h2 htn HKL.out HK32.out
              exact hno ks h.2.2.2 e1
          have hst := fun (W : World) (a : Addr) (x : Nat) => run_store Tryd.prog W a (.float .f64 x) .plain rfl
          by_cases hci : c = i
          · obtain rfl : i = n := by omega
            obtain rfl : c = i := hci
            have HSH2 := Lib.hid (HSH.out rfl)
            clear HSH HUNL
            go_wp2_with fail
            go_region_held3 (fun w' => w'.cell? ⟨S, 4, none⟩ = some (.pointer (some ⟨L, 0, none⟩)))
              (first | go_keep | exact k4)
              (first
                | (go_at_call 47; refine (HSH2.out _ _).mono ?_; rintro e wx ⟨ev, rfl, hev⟩; have HEV := Lib.hid (HFIN.out ev wx hev); have k4 := HK4.out ev wx hev; clear hev)
                | fail)
            rcases HEV.out with ⟨rfl, ks, u', hv, hr2e, _⟩ | ⟨⟨a7, rfl⟩, hno, how⟩
            · exfalso
              have h1' := listBytes_len ks
              rw [← hr2e] at h1'
              have := HR2L.out
              have := HIJ.out
              have := HJT.out
              omega
            · have HNO := Lib.hid hno
              have HOW := Lib.hid how
              clear hno how HEV
              go_wp2_with fail
              go_ret
              exact .inr ⟨⟨a7, rfl⟩, HNO.out, HOW.out⟩
          · go_wp2_with fail
            go_region_held3 (fun w' => w'.cell? ⟨S, 4, none⟩ = some (.pointer (some ⟨L, 0, none⟩)))
              (first | go_keep | exact k4)
              (first
                | (go_at_call 47; refine (HUNL.out (some (ad.add i)) (c - i) (fun a' ha => by injection ha with ha; exact ha.symm) (fun h => by cases h) (by omega) (by omega)).mono ?_; rintro e wx ⟨ev, rfl, hev⟩; have HEV := Lib.hid (HFIN.out ev wx hev); have k4 := HK4.out ev wx hev; clear hev)
                | fail)
            rcases HEV.out with ⟨rfl, ks, u', hv, hr2e, hcl, hsk, hb0, hset, hnw, how⟩ | ⟨⟨a7, rfl⟩, hno, how⟩
            · obtain ⟨l0, l1, l2, l3, l4, l5⟩ := blk_cells hsk
              obtain ⟨g0, g1, g2, g3, g4, g5⟩ := blk_cells hb0
              obtain ⟨f0, f1, f2, f3, f4, f5⟩ := blk_frozen hb0
              have HCL := Lib.hid hcl
              have HB := Lib.hid hb0
              have HST := Lib.hid hset
              have HNW := Lib.hid hnw
              have HOW := Lib.hid how
              have HVV := Lib.hid hv
              have HRE := Lib.hid hr2e
              clear hcl hsk hb0 hset hnw how hv hr2e HEV
              go_wp2_with fail
              go_ret
              have e2 : ((2 : Int) ^ p) = ((2 ^ p : Nat) : Int) := by simp
              rw [e2]
              have hb6 := set6 HB.out (.int .u8 p) (.int .u32 ((2 ^ p : Nat) : Int)) (.float .f64 al) (.pointer (some ⟨T2, 0, none⟩)) (.pointer (some ⟨L, 0, none⟩)) (.slice none 0 0)
              have ho6 := only6 wx S0 (.int .u8 p) (.int .u32 ((2 ^ p : Nat) : Int)) (.float .f64 al) (.pointer (some ⟨T2, 0, none⟩)) (.pointer (some ⟨L, 0, none⟩)) (.slice none 0 0)
              have hS0l := HB0.out.lt
              have hT2n : w.heap.size ≤ T2 := by have := hInS.out T2 (.inl rfl); have := HO1.out.size; omega
              have hM2n : w.heap.size ≤ M2 := by have := hInS.out M2 (.inr (.inl rfl)); have := HO1.out.size; omega
              have hv1n : ∀ g, v1.ownBlock = some g → w.heap.size ≤ g := fun g hg => by
                rcases HAt.out.lies with e | ⟨g', e, hge⟩
                · rw [hg] at e; simp [Value.ownBlock] at e
                · rw [hg] at e; injection e with e; have := HO3.out.size; omega
              have hfit : Fit p False K1 ks := by
                refine ⟨fun k hk => ?_, ?_, HVV.out, fun hf => hf.elim⟩
                · rcases (HAt.out.mem k).1 hk with h | h
                  · exact (List.not_mem_nil h).elim
                  · exact HOKt.out k h
                · have h := HAt.out.len
                  rw [List.length_nil] at h
                  have := HKL.out
                  have := HM.out
                  omega
              have htab : table p ((KS ++ ks).map (kv p)) = table p ((K1 ++ ks).map (kv p)) := by
                refine table_congr fun q => ?_
                simp only [List.map_append, List.mem_append, List.mem_map]
                constructor
                · rintro (⟨k, hk, rfl⟩ | h)
                  · exact .inl ⟨k, (HAt.out.mem k).2 (.inr hk), rfl⟩
                  · exact .inr h
                · rintro (⟨k, hk, rfl⟩ | h)
                  · rcases (HAt.out.mem k).1 hk with h | h
                    · exact (List.not_mem_nil h).elim
                    · exact .inl ⟨k, h, rfl⟩
                  · exact .inr h
              have hset6 := HST.out.only ho6 (by omega) (fun g hg e => by have := hv1n g hg; omega) (by omega)
              have hcl6 := HCL.out.only ho6 (by omega) (fun g hg e => by have := HNW.out g hg; omega)
              refine .inl ⟨rfl, KS, ks, fun b => b = S0 ∨ b = T2 ∨ b = M2 ∨ b = L ∨ v1.ownBlock = some b ∨ u'.ownBlock = some b, ⟨by rw [HREST.out, HRE.out, HKL.out], by have := HKL.out; have := HM.out; omega, HOKt.out, HVV.out⟩, ⟨.inl rfl, ?_, h1, h2, .inr ⟨al, T2, M2, v1, K1, L, u', ks, ⟨hb6, hset6, hcl6⟩, hfit, htab, .inr (.inl rfl), .inr (.inr (.inl rfl)), .inr (.inr (.inr (.inl rfl))), fun g hg => .inr (.inr (.inr (.inr (.inl hg)))), fun g hg => .inr (.inr (.inr (.inr (.inr hg))))⟩⟩, ?_, ?_⟩
              · rintro b (rfl | rfl | rfl | rfl | hb | hb)
                · exact hb6.lt
                · exact hset6.blk.lt
                · exact hset6.map.lt
                · exact hcl6.1.lt
                · exact hset6.row.lt b hb
                · exact hcl6.2.1.lt b hb
              · rintro b (rfl | rfl | rfl | rfl | hb | hb)
                · exact .inl rfl
                · exact .inr hT2n
                · exact .inr hM2n
                · exact .inr hLn
                · exact .inr (hv1n b hb)
                · exact .inr (HNW.out b hb)
              · exact (HOW.out.mono (fun _ hf _ => hf.elim)).trans ho6 (fun b hb _ => hb)
            · have HNO := Lib.hid hno
              have HOW := Lib.hid how
              clear hno how HEV
              go_wp2_with fail
              go_ret
              exact .inr ⟨⟨a7, rfl⟩, HNO.out, HOW.out⟩
end Go.Proofs.YtoegfdndoeiolaaDoor

/- Walks: bytes that no sketch is read of, told by their head. Conditions: the variables of the errors hold errors. -/
namespace Go.Proofs.YtoegfdndoeiolaaDoor
open Go.RowKit

/-- The variable of the error of the version holds an error. -/
def ErrV (w : World) : Prop := ∃ a, w.cell? ⟨2, 0, none⟩ = some (.iface 152 (.pointer (some a)))
theorem ErrV.only {S : Nat → Prop} {w w' : World} (h : ErrV w) (ho : Only S w w') (h1 : ¬ S 2) : ErrV w' := by
  obtain ⟨a, ha⟩ := h
  exact ⟨a, (ho.cell (World.block_lt_of_cell? w _ ha) h1).trans ha⟩
/-- All variables of errors that a reader returns hold errors. -/
def ErrA (w : World) : Prop := Errs w ∧ ErrV w ∧ ErrP w
theorem ErrA.only {S : Nat → Prop} {w w' : World} (h : ErrA w) (ho : Only S w w') (hS : ∀ b, S b → w.heap.size ≤ b) : ErrA w' := by
  obtain ⟨⟨⟨a, ha⟩, b, hb⟩, ⟨c, hc⟩, d, hd⟩ := h
  have ka := World.block_lt_of_cell? w _ ha
  have kb := World.block_lt_of_cell? w _ hb
  have kc := World.block_lt_of_cell? w _ hc
  have kd := World.block_lt_of_cell? w _ hd
  exact ⟨⟨⟨a, (ho.cell ka (fun h => by have := hS _ h; omega)).trans ha⟩, b, (ho.cell kb (fun h => by have := hS _ h; omega)).trans hb⟩, ⟨c, (ho.cell kc (fun h => by have := hS _ h; omega)).trans hc⟩, d, (ho.cell kd (fun h => by have := hS _ h; omega)).trans hd⟩

set_option maxHeartbeats 1000000 in
set_option maxRecDepth 100000 in
theorem unm_short8 (S0 : Nat) (A : Option Addr) (n c : Nat) (w : World) (hn : n < 8) (he : Errs w) :
    Calls Tryd.prog 43 #[.pointer (some ⟨S0, 0, none⟩), .slice A n c] w fun e w' => Fails e ∧ Only (fun _ => False) w w' := by
  obtain ⟨⟨a, ha⟩, _⟩ := he
  go_enter Tryd.func43, Tryd.ntmps43
  go_wp2_with fail
  go_ret
  exact ⟨⟨a, rfl⟩, Only.refl _ _⟩

set_option maxHeartbeats 1000000 in
set_option maxRecDepth 100000 in
theorem unm_version (S0 v : Nat) (ad : Addr) (n c : Nat) (w : World) (hn : 8 ≤ n) (c0 : w.cell? ad = some (.int .u8 (v : Int))) (h1 : v ≠ 1) (h2 : v ≠ 2) (he : ErrV w) :
    Calls Tryd.prog 43 #[.pointer (some ⟨S0, 0, none⟩), .slice (some ad) n c] w fun e w' => Fails e ∧ Only (fun _ => False) w w' := by
  obtain ⟨a, ha⟩ := he
  have i4 : ¬ (n : Int) < 8 := by omega
  have e1 : ((v : Int) != 1) = true := by rw [bne_iff_ne]; omega
  have e2 : ((v : Int) != 2) = true := by rw [bne_iff_ne]; omega
  go_enter Tryd.func43, Tryd.ntmps43
  go_wp2_with fail
  go_ret
  exact ⟨⟨a, rfl⟩, Only.refl _ _⟩

set_option maxHeartbeats 1000000 in
set_option maxRecDepth 100000 in
theorem unm_kind (S0 v p s : Nat) (ad : Addr) (n c : Nat) (w : World) (hn : 8 ≤ n) (c0 : w.cell? ad = some (.int .u8 (v : Int))) (c1 : w.cell? ⟨ad.block, ad.off + 1, none⟩ = some (.int .u8 (p : Int)))
    (c3 : w.cell? ⟨ad.block, ad.off + 3, none⟩ = some (.int .u8 (s : Int))) (hv : v = 1 ∨ v = 2) (hs : 1 < s) (he : Errs w) :
    Calls Tryd.prog 43 #[.pointer (some ⟨S0, 0, none⟩), .slice (some ad) n c] w fun e w' => Fails e ∧ Only (fun _ => False) w w' := by
  obtain ⟨_, a, ha⟩ := he
  have i4 : ¬ (n : Int) < 8 := by omega
  have e1 : (1 : Int) < (s : Int) := by omega
  rcases hv with rfl | rfl
  · go_enter Tryd.func43, Tryd.ntmps43
    go_wp2_with fail
    go_ret
    exact ⟨⟨a, rfl⟩, Only.refl _ _⟩
  · go_enter Tryd.func43, Tryd.ntmps43
    go_wp2_with fail
    go_ret
    exact ⟨⟨a, rfl⟩, Only.refl _ _⟩

set_option maxHeartbeats 1000000 in
set_option maxRecDepth 100000 in
theorem unm_bias (S0 p b s : Nat) (ad : Addr) (n c : Nat) (w : World) (hn : 8 ≤ n) (c0 : w.cell? ad = some (.int .u8 2)) (c1 : w.cell? ⟨ad.block, ad.off + 1, none⟩ = some (.int .u8 (p : Int)))
    (c2 : w.cell? ⟨ad.block, ad.off + 2, none⟩ = some (.int .u8 (b : Int))) (c3 : w.cell? ⟨ad.block, ad.off + 3, none⟩ = some (.int .u8 (s : Int))) (hs : s ≤ 1) (hb : b ≠ 0) (he : Errs w) :
    Calls Tryd.prog 43 #[.pointer (some ⟨S0, 0, none⟩), .slice (some ad) n c] w fun e w' => Fails e ∧ Only (fun _ => False) w w' := by
  obtain ⟨_, a, ha⟩ := he
  have i4 : ¬ (n : Int) < 8 := by omega
  have e1 : ((b : Int) != 0) = true := by rw [bne_iff_ne]; omega
  rcases (show s = 0 ∨ s = 1 from by omega) with rfl | rfl
  · go_enter Tryd.func43, Tryd.ntmps43
    go_wp2_with fail
    go_ret
    exact ⟨⟨a, rfl⟩, Only.refl _ _⟩
  · go_enter Tryd.func43, Tryd.ntmps43
    go_wp2_with fail
    go_ret
    exact ⟨⟨a, rfl⟩, Only.refl _ _⟩

set_option maxHeartbeats 1000000 in
set_option maxRecDepth 100000 in
theorem unm_prec (S0 v p b s : Nat) (ad : Addr) (n c : Nat) (w : World) (hn : 8 ≤ n) (c0 : w.cell? ad = some (.int .u8 (v : Int))) (c1 : w.cell? ⟨ad.block, ad.off + 1, none⟩ = some (.int .u8 (p : Int)))
    (c2 : w.cell? ⟨ad.block, ad.off + 2, none⟩ = some (.int .u8 (b : Int))) (c3 : w.cell? ⟨ad.block, ad.off + 3, none⟩ = some (.int .u8 (s : Int))) (hv : v = 1 ∨ v = 2 ∧ b = 0) (hs : s ≤ 1) (hp : p < 4 ∨ 18 < p) (he : ErrP w) :
    Calls Tryd.prog 43 #[.pointer (some ⟨S0, 0, none⟩), .slice (some ad) n c] w fun e w' => Fails e ∧ Only (fun _ => False) w w' := by
  have i4 : ¬ (n : Int) < 8 := by omega
  have HP := Lib.hid hp
  have HE := Lib.hid he
  clear hp he
  rcases hv with rfl | ⟨rfl, rfl⟩ <;> rcases (show s = 0 ∨ s = 1 from by omega) with rfl | rfl
  all_goals
    go_enter Tryd.func43, Tryd.ntmps43
    go_wp2_with (go_at_call 54; refine (checkPrecision_bad p _ HP.out HE.out).mono ?_; rintro e w' ⟨⟨a, rfl⟩, rfl⟩)
    go_ret
    exact ⟨⟨a, rfl⟩, Only.refl _ _⟩

set_option maxHeartbeats 1000000 in
set_option maxRecDepth 100000 in
theorem unm_size (S0 p tn : Nat) (ad : Addr) (n c : Nat) (rest : List Nat) (w : World) (hbs : Nums w w.heap.size .u8 (some ad) n (2 :: p :: 0 :: 0 :: (be32 tn ++ rest))) (hnc : n ≤ c) (hc : c ≤ 9223372036854775807) (hn : n < 1099511627776) (htn : tn < 4294967296) (h1 : 4 ≤ p) (h2 : p ≤ 18)
    (hbad : tn ≠ 2 ^ p ∨ rest.length ≠ 2 ^ p) (he : Errs w) :
    Calls Tryd.prog 43 #[.pointer (some ⟨S0, 0, none⟩), .slice (some ad) n c] w fun e w' => Fails e ∧ Only (fun _ => False) w w' := by
  have hpb := pow_bounds h1 h2
  obtain ⟨m, hm⟩ : ∃ m, m = 2 ^ p := ⟨_, rfl⟩
  have hsp := shl1_word h2 hm
  have hnl : n = 8 + rest.length := by have := hbs.1; simp only [List.length_cons, List.length_append, be32_len] at this; omega
  have q0 := hbs.at_ (i := 0) (by omega)
  have q1 := hbs.at_ (i := 1) (by omega)
  have q2 := hbs.at_ (i := 2) (by omega)
  have q3 := hbs.at_ (i := 3) (by omega)
  obtain ⟨_, e0, _, d0⟩ := q0
  obtain ⟨_, e1, _, d1⟩ := q1
  obtain ⟨_, e2, _, d2⟩ := q2
  obtain ⟨_, e3, _, d3⟩ := q3
  injection e0 with e0; injection e1 with e1; injection e2 with e2; injection e3 with e3
  subst e0; subst e1; subst e2; subst e3
  have c0 : w.cell? ad = some (.int .u8 2) := d0
  have c1 : w.cell? ⟨ad.block, ad.off + 1, none⟩ = some (.int .u8 (p : Int)) := d1
  have c2 : w.cell? ⟨ad.block, ad.off + 2, none⟩ = some (.int .u8 0) := d2
  have c3 : w.cell? ⟨ad.block, ad.off + 3, none⟩ = some (.int .u8 0) := d3
  have hd4 := hbs.drop (m := 4) (by omega)
  rw [show (2 :: p :: 0 :: 0 :: (be32 tn ++ rest)).drop 4 = be32 tn ++ rest from rfl] at hd4
  rw [← hm] at hpb hbad
  have HBE := Lib.hid (be32_quiet _ _ (c - 4) _ tn _ w hd4 htn)
  have HE := Lib.hid he
  have HM := Lib.hid hm
  obtain ⟨_, a3, hID⟩ := he
  have i1 : (8 : Int) ≤ (n : Int) := by omega
  have i2 : (8 : Int) ≤ (c : Int) := by omega
  have i3 : (n : Int) ≤ (c : Int) := by omega
  have i4 : ¬ (n : Int) < 8 := by omega
  clear d0 d1 d2 d3 hd4 hbs hm
  have hc8 : c = 8 ∧ n = 8 ∨ ¬ c = 8 := by omega
  by_cases htm : tn = m
  · have hl : rest.length ≠ m := by rcases hbad with h | h <;> omega
    obtain ⟨m2, i6⟩ : ∃ m2, n - 8 = m2 := ⟨_, rfl⟩
    have hl2 : m2 ≠ tn := by omega
    have hl3 : n = 8 → m2 = 0 := by omega
    have HER : ∀ q : Nat, Errs (w.drewN q) := fun q => HE.out.only (S := fun _ => False) ((Only.refl (fun _ => False) w).drewN q) (fun hf => hf) (fun hf => hf)
    have HX := fun (s : ByteArray) (q : Nat) => Lib.hid (exactLen_bad s m2 tn (w.drewN q) hl2 (HER q))
    have hne : ((tn : Int) != (m : Int)) = false := by rw [bne_eq_false_iff_eq]; omega
    clear hl hbad htm hl2 HER hnl
    rcases hc8 with ⟨rfl, rfl⟩ | hc8
    · obtain rfl := hl3 rfl
      clear hl3 i6
      go_enter Tryd.func43, Tryd.ntmps43
      go_wp2_with (first
        | (go_at_call 54; refine (checkPrecision_ok p _ h1 h2).mono ?_; rintro e w' ⟨rfl, rfl⟩)
        | (go_at_call 67; refine (HBE.out 0).mono ?_; rintro e w' ⟨rfl, k, rfl⟩)
        | (go_at_call 71; refine (HX _ _).out.mono ?_; rintro e w' ⟨⟨aa, rfl⟩, rfl⟩))
      go_ret
      exact ⟨⟨aa, rfl⟩, (Only.refl _ w).drewN _⟩
    · clear hl3
      go_enter Tryd.func43, Tryd.ntmps43
      go_wp2_with (first
        | (go_at_call 54; refine (checkPrecision_ok p _ h1 h2).mono ?_; rintro e w' ⟨rfl, rfl⟩)
        | (go_at_call 67; refine (HBE.out 0).mono ?_; rintro e w' ⟨rfl, k, rfl⟩)
        | (go_at_call 71; refine (HX _ _).out.mono ?_; rintro e w' ⟨⟨aa, rfl⟩, rfl⟩))
      go_ret
      exact ⟨⟨aa, rfl⟩, (Only.refl _ w).drewN _⟩
  · have hne : ((tn : Int) != (m : Int)) = true := by rw [bne_iff_ne]; omega
    clear hbad htm hnl
    rcases hc8 with ⟨rfl, rfl⟩ | hc8
    all_goals
      go_enter Tryd.func43, Tryd.ntmps43
      go_wp2_with (first
        | (go_at_call 54; refine (checkPrecision_ok p _ h1 h2).mono ?_; rintro e w' ⟨rfl, rfl⟩)
        | (go_at_call 67; refine (HBE.out 0).mono ?_; rintro e w' ⟨rfl, k, rfl⟩))
      go_ret
      exact ⟨⟨a3, rfl⟩, (Only.refl _ w).drewN _⟩
end Go.Proofs.YtoegfdndoeiolaaDoor

/- Walks: dense bytes of the first version are read. Conditions: the bytes are bytes; the variables of the errors hold errors. -/
namespace Go.Proofs.YtoegfdndoeiolaaDoor
open Go.RowKit

theorem low4_word (x : Nat) (hx : x < 256) : bits .and .u8 (x : Int) 15 = ((x % 16 : Nat) : Int) := by
  rw [show (15 : Int) = ((15 : Nat) : Int) from rfl, u8_and_nat _ _ hx (by omega), show (15 : Nat) = 2 ^ 4 - 1 from rfl, Nat.and_two_pow_sub_one_eq_mod]
theorem set_le {t : List Nat} {i x b : Nat} (h : ∀ v ∈ t, v ≤ b) (hx : x ≤ b) : ∀ v ∈ t.set i x, v ≤ b := fun v hv => by
  rcases List.mem_or_eq_of_mem_set hv with h1 | rfl
  · exact h v h1
  · exact hx
/-- The registers, whatever they are, are none too great. -/
def V1 (w0 W : World) (S p al : Nat) (rv : Value) : Prop := ∃ t, Dense W S p al rv t ∧ (∀ v ∈ t, v ≤ 65 - p) ∧ Only (fun b => rv.ownBlock = some b) w0 W

set_option maxHeartbeats 1000000 in
set_option maxRecDepth 100000 in
theorem readV1_any (S p al bb : Nat) (rv : Value) (r : List Nat) (A : Option Addr) (n c B : Nat) (bs : List Nat) (w : World) (h : Dense w S p al rv r) (hr0 : ∀ v ∈ r, v ≤ 65 - p) (hbs : Nums w B .u8 A n bs) (hB : B ≤ w.heap.size) (h256 : ∀ b ∈ bs, b < 256) (hbb : bb < 256) (hn : 2 * n = 2 ^ p)
    (hA : ∀ ad, A = some ad → rv.ownBlock ≠ some ad.block) (h1 : 4 ≤ p) (h2 : p ≤ 18) (he : Errs w) (hne : rv.ownBlock ≠ some 3) :
    Calls Tryd.prog 72 #[.pointer (some ⟨S, 0, none⟩), .slice A n c, .int .u8 bb] w fun e w' =>
      V1 w w' S p al rv ∧ (e = .returned .nilIface ∨ Fails e) := by
  have hpb := pow_bounds h1 h2
  have hbl := hbs.1
  have hrl := h.len
  obtain ⟨N, hN⟩ : ∃ N, N = 2 * n := ⟨_, rfl⟩
  rcases h.row.form with ⟨_, rfl⟩ | ⟨g, c0, rfl, hc0, hg, ho⟩
  · simp at hrl; omega
  have hSr : (Value.slice (some ⟨g, 0, none⟩) r.length c0).ownBlock ≠ some S := h.row.blk_ne h.blk (by decide)
  have hgS : g ≠ S := fun e => hSr (by rw [← e]; exact ho)
  have hrN : r.length = N := by omega
  rw [hrN] at h hne hA hSr ho ⊢
  have HI0 : Hid (V1 w w S p al (.slice (some ⟨g, 0, none⟩) N c0)) := ⟨r, h, hr0, Only.refl _ _⟩
  have c0' : w.cell? ⟨S, 0, none⟩ = some (.int .u8 (p : Int)) := Blk.cell h.blk 0
  have HID : Hid (∀ W, Only (fun b => (Value.slice (some ⟨g, 0, none⟩) N c0).ownBlock = some b) w W → ∃ be, W.cell? ⟨3, 0, none⟩ = some (.iface 152 (.pointer (some be)))) := fun W hW => by
    obtain ⟨_, be, hbe⟩ := he
    exact ⟨be, (hW.cell (World.block_lt_of_cell? w _ hbe) hne).trans hbe⟩
  have HBS : Hid (∀ W, Only (fun b => (Value.slice (some ⟨g, 0, none⟩) N c0).ownBlock = some b) w W → Nums W B .u8 A n bs) := fun W hW => hbs.only hB hW (fun ad ha => hA ad ha)
  have HO := Lib.hid ho
  have hnn : n ≤ 131072 := by omega
  have HNN : Hid (N = 2 ^ p) := by show N = 2 ^ p; omega
  have HN := Lib.hid hN
  have HBL := Lib.hid hbl
  have H256 := Lib.hid h256
  clear h hbs he hA hrl hbl h256 hn hpb hne hr0 ho hSr hN hrN hc0 hg
  go_enter Tryd.func72, Tryd.ntmps72
  go_wp2_with (go_at_call 101; refine (maxRho_any p _ h1 h2).mono ?_; rintro e w' ⟨rfl, rfl⟩)
  go_loopg [19] n (fun g' s19 wr => ∃ i, g' + i = n ∧ s19 = .int .i64 (i : Nat) ∧ Hid (V1 w wr S p al (.slice (some ⟨g, 0, none⟩) N c0)))
  case atStart => exact ⟨0, by omega, rfl, HI0⟩
  case round =>
    obtain ⟨i, hgi, rfl, hI⟩ := hrel
    obtain ⟨t, hd, hle, hon⟩ := hI.out
    by_cases hlt : i < n
    · obtain ⟨ad, rfl, _, hcell⟩ := (HBS.out wr hon).at_ hlt
      obtain ⟨be, hbe⟩ := HID.out wr hon
      obtain ⟨x, hxd⟩ : ∃ x, bs.getD i 0 = x := ⟨_, rfl⟩
      rw [hxd] at hcell
      have hx256 : x < 256 := by rw [← hxd]; exact H256.out _ (getD_mem (by have := HBL.out; omega))
      have hw4 := low4_word x hx256
      have hNN : N = 2 * n := HN.out
      have hlen := hd.len
      have hlenN : t.length = N := by rw [hlen, HNN.out]
      have c5 : wr.cell? ⟨S, 5, none⟩ = some (.slice (some ⟨g, 0, none⟩) N c0) := Blk.cell hd.blk 5
      have f1 := hd.row.frozen HO.out (i * 2)
      have k1 := hd.row.cell HO.out (i * 2) (by omega)
      have f2 := hd.row.frozen HO.out (i * 2 + 1)
      have k2 := hd.row.cell HO.out (i * 2 + 1) (by omega)
      have HX := Lib.hid hxd
      have j1 : (i : Int) * 2 < (N : Int) := by omega
      have j2 : (i : Int) * 2 + 1 < (N : Int) := by omega
      have HD : Hid (Dense wr S p al (.slice (some ⟨g, 0, none⟩) N c0) t ∧ (∀ v ∈ t, v ≤ 65 - p) ∧ t.length = N) := ⟨hd, hle, hlenN⟩
      have HON := Lib.hid hon
      clear hxd hlen hlenN hNN hd hle hon
      by_cases hhi : 65 - p < x / 16 + bb
      · have b1 : (((65 - p : Nat)) : Int) < (x : Int) / 16 + (bb : Int) := by omega
        clear hhi
        go_wp2_with fail
        go_ret
        exact ⟨hI.out, .inr ⟨be, rfl⟩⟩
      · have b1 : (x : Int) / 16 + (bb : Int) ≤ (((65 - p : Nat)) : Int) := by omega
        by_cases hlo : 65 - p < x % 16 + bb
        · have b2 : (((65 - p : Nat)) : Int) < (x : Int) % 16 + (bb : Int) := by omega
          clear hhi hlo
          go_wp2_with fail
          go_ret
          exact ⟨hI.out, .inr ⟨be, rfl⟩⟩
        · have b2 : (x : Int) % 16 + (bb : Int) ≤ (((65 - p : Nat)) : Int) := by omega
          have b3 : (x : Int) / 16 + (bb : Int) < 256 := by omega
          have b4 : (x : Int) % 16 + (bb : Int) < 256 := by omega
          have HHI := Lib.hid hhi
          have HLO := Lib.hid hlo
          clear hhi hlo
          go_wp2_with fail
          go_roundg (n - (i + 1))
          case measure => omega
          case rel =>
            refine ⟨i + 1, by omega, by go_num, ?_⟩
            obtain ⟨hd, hle, hlenN⟩ := HD.out
            have e1 : (x : Int) / 16 + (bb : Int) = ((x / 16 + bb : Nat) : Int) := by omega
            have e2 : (x : Int) % 16 + (bb : Int) = ((x % 16 + bb : Nat) : Int) := by omega
            rw [e1, e2]
            have r1 := hd.row.set_ hlenN.symm (i * 2) (x / 16 + bb)
            have r2 := r1.set_ (by rw [List.length_set]; exact hlenN.symm) (i * 2 + 1) (x % 16 + bb)
            have hO : Only (fun b => b = g) wr ((wr.setCell ⟨g, i * 2, none⟩ (.int .u8 ((x / 16 + bb : Nat) : Int))).setCell ⟨g, i * 2 + 1, none⟩ (.int .u8 ((x % 16 + bb : Nat) : Int))) := ((Only.refl (fun b => b = g) wr).setCell (fun _ => rfl) _).setCell (fun _ => rfl) _
            exact ⟨_, ⟨Blk.only hd.blk hO (fun e => hgS e.symm), r2, by rw [List.length_set, List.length_set]; exact hd.len⟩, set_le (set_le hle (by have := HHI.out; omega)) (by have := HLO.out; omega), HON.out.trans hO (fun b hb _ => by show _ = some b; rw [hb]; exact HO.out)⟩
    · go_wp2_with fail
      go_ret
      exact ⟨⟨t, hd, hle, hon⟩, .inl rfl⟩
end Go.Proofs.YtoegfdndoeiolaaDoor

/- Walks: dense bytes of the first version are read. Conditions: the bytes are bytes; the variables of the errors hold errors. -/
namespace Go.Proofs.YtoegfdndoeiolaaDoor
open Go.RowKit

/-- Dense bytes of the first version: refused, or read as some registers. -/
def UnmV1 (w : World) (S0 p : Nat) (e : Ending) (w' : World) : Prop :=
  (e = .returned .nilIface ∧ ∃ al rv t, Dense w' S0 p al rv t ∧ (∀ v ∈ t, v ≤ 65 - p) ∧ (∀ g, rv.ownBlock = some g → w.heap.size ≤ g) ∧ Only (fun b => b = S0) w w') ∨
  (Fails e ∧ Only (fun _ => False) w w')

set_option maxHeartbeats 2000000 in
set_option maxRecDepth 100000 in
theorem UnmDense1_any (S0 p bb : Nat) (z0 z1 z2 z3 z4 z5 : Value) (ad : Addr) (n c : Nat) (rest : List Nat) (w : World) (hb0 : Blk w S0 74 #[z0, z1, z2, z3, z4, z5]) (hbs : Nums w w.heap.size .u8 (some ad) n (1 :: p :: bb :: 0 :: rest)) (h8 : 8 ≤ n) (hnc : n ≤ c) (hc : c ≤ 9223372036854775807) (hn : n < 1099511627776)
    (h256 : ∀ b ∈ rest, b < 256) (hbb : bb < 256) (h1 : 4 ≤ p) (h2 : p ≤ 18) (he : Errs w) :
    Calls Tryd.prog 43 #[.pointer (some ⟨S0, 0, none⟩), .slice (some ad) n c] w fun e w' => UnmV1 w S0 p e w' := by
  have hpb := pow_bounds h1 h2
  obtain ⟨m, hm⟩ : ∃ m, m = 2 ^ p := ⟨_, rfl⟩
  obtain ⟨hf, hhf⟩ : ∃ hf, hf = m / 2 := ⟨_, rfl⟩
  have hhf2 : 2 * hf = m := by
    obtain ⟨q, rfl⟩ : ∃ q, p = q + 1 := ⟨p - 1, by omega⟩
    rw [Nat.pow_succ] at hm; omega
  have hsp := shl1_word h2 hm
  have q0 := hbs.at_ (i := 0) (by omega)
  have q1 := hbs.at_ (i := 1) (by omega)
  have q2 := hbs.at_ (i := 2) (by omega)
  have q3 := hbs.at_ (i := 3) (by omega)
  obtain ⟨_, e0, had, d0⟩ := q0
  obtain ⟨_, e1, _, d1⟩ := q1
  obtain ⟨_, e2, _, d2⟩ := q2
  obtain ⟨_, e3, _, d3⟩ := q3
  injection e0 with e0; injection e1 with e1; injection e2 with e2; injection e3 with e3
  subst e0; subst e1; subst e2; subst e3
  have c0 : w.cell? ad = some (.int .u8 1) := d0
  have c1 : w.cell? ⟨ad.block, ad.off + 1, none⟩ = some (.int .u8 (p : Int)) := d1
  have c2 : w.cell? ⟨ad.block, ad.off + 2, none⟩ = some (.int .u8 (bb : Int)) := d2
  have c3 : w.cell? ⟨ad.block, ad.off + 3, none⟩ = some (.int .u8 0) := d3
  have hd8 := hbs.drop (m := 8) (by omega)
  obtain ⟨rs, hrs⟩ : ∃ rs, (1 :: p :: bb :: 0 :: rest).drop 8 = rs := ⟨_, rfl⟩
  rw [hrs] at hd8
  have h256' : ∀ b ∈ rs, b < 256 := fun b hb => by
    rw [← hrs] at hb
    exact h256 b (List.mem_of_mem_drop (show b ∈ rest.drop 4 from hb))
  obtain ⟨m2, i6⟩ : ∃ m2, n - 8 = m2 := ⟨_, rfl⟩
  rw [i6] at hd8
  rw [← hm] at hpb
  have HB8 := Lib.hid hd8
  have HE := Lib.hid he
  have HB0 := Lib.hid hb0
  have HM := Lib.hid hm
  have H256 := Lib.hid h256'
  have HHF := Lib.hid hhf2
  have i1 : (8 : Int) ≤ (n : Int) := by omega
  have i2 : (8 : Int) ≤ (c : Int) := by omega
  have i3 : (n : Int) ≤ (c : Int) := by omega
  have i4 : ¬ (n : Int) < 8 := by omega
  have i7 : (m2 : Int) < 1099511627776 := by omega
  have i8 : (hf : Int) < 1099511627776 := by omega
  have HQ : Hid ((m : Int) / 2 = (hf : Int)) := by show (m : Int) / 2 = (hf : Int); omega
  have hc8 : c = 8 ∧ n = 8 ∨ ¬ c = 8 := by omega
  clear d0 d1 d2 d3 hd8 hbs he hb0 hm h256 h256' hrs hhf2 hhf
  by_cases hmh : m2 = hf
  · obtain rfl := hmh
    have hc9 : ¬ c = 8 := by have := HHF.out; omega
    clear hc8
    go_enter Tryd.func43, Tryd.ntmps43
    go_wp2_with (first
      | (go_at_call 54; refine (checkPrecision_ok p _ h1 h2).mono ?_; rintro e w' ⟨rfl, rfl⟩))
    rw [HQ.out]
    refine (exactLen_ok _ m2 _).mono ?_
    rintro e w' ⟨rfl, rfl⟩
    go_wp2_with fail
    refine (newDense_any p _ h1 h2).mono ?_
    rintro e w1 ⟨S, al, rv, rfl, hd, hS, hrv, hon⟩
    have hE1 : Errs w1 := HE.out.only hon (fun hf => hf) (fun hf => hf)
    have hn8 : Nums w1 w.heap.size .u8 (some ⟨ad.block, ad.off + 8, none⟩) m2 rs := HB8.out.only (Nat.le_refl _) hon (fun _ _ hf => hf)
    have hidlt : 3 < w.heap.size := by
      obtain ⟨_, b, hb⟩ := HE.out
      exact World.block_lt_of_cell? w _ hb
    have HV := Lib.hid (readV1_any S p al bb rv _ (some ⟨ad.block, ad.off + 8, none⟩) m2 (c - 8) w.heap.size rs w1 hd (fun v hv => by rw [List.mem_replicate] at hv; omega) hn8 hon.size H256.out hbb (by rw [HHF.out, HM.out]) (fun a' he' hg => by
      injection he' with he'
      subst he'
      have h3 := hrv _ hg
      have h4 : ad.block < w.heap.size := had
      exact absurd h3 (by simp; omega)) h1 h2 hE1 (fun hg => by have := hrv _ hg; omega))
    have hSne : S ≠ S0 := by have := HB0.out.lt; omega
    have HO1 := Lib.hid hon
    have HRV := Lib.hid hrv
    have hB1 : Blk w1 S0 74 #[z0, z1, z2, z3, z4, z5] := HB0.out.only hon (fun hf => hf)
    have HB1 := Lib.hid hB1
    have hS0rv : rv.ownBlock ≠ some S0 := fun hg => by have := hrv _ hg; have := HB0.out.lt; omega
    have HS0 := Lib.hid hS0rv
    clear hd hS hrv hon hE1 hn8 HB8 hB1 c0 c1 c2 c3 hS0rv
    go_wp2_with fail
    refine HV.out.mono ?_
    rintro e w2 ⟨⟨t, hd2, hle, hon2⟩, (rfl | ⟨a, rfl⟩)⟩
    · obtain ⟨hl0, hl1, hl2, hl3, hl4, hl5⟩ := blk_cells hd2.blk
      have hb2 := Lib.hid (HB1.out.only hon2 HS0.out)
      obtain ⟨k0, k1, k2, k3, k4, k5⟩ := blk_cells hb2.out
      obtain ⟨f0, f1, f2, f3, f4, f5⟩ := blk_frozen hb2.out
      obtain ⟨A2, cc2, hrv2, _⟩ := hd2.row.nums
      subst hrv2
      have HD2 := Lib.hid hd2
      have HON2 := Lib.hid hon2
      have HLE := Lib.hid hle
      have hst := fun (W : World) (a : Addr) (x : Nat) => run_store Tryd.prog W a (.float .f64 x) .plain rfl
      clear hd2 hon2 HV hle
      go_wp2_with fail
      go_ret
      have e2 : ((2 : Int) ^ p) = ((2 ^ p : Nat) : Int) := by simp
      rw [e2]
      have hb6 := set6 hb2.out (.int .u8 p) (.int .u32 ((2 ^ p : Nat) : Int)) (.float .f64 al) (.pointer none) (.pointer none) (.slice A2 t.length cc2)
      have ho6 := only6 w2 S0 (.int .u8 p) (.int .u32 ((2 ^ p : Nat) : Int)) (.float .f64 al) (.pointer none) (.pointer none) (.slice A2 t.length cc2)
      refine .inl ⟨rfl, al, .slice A2 t.length cc2, t, ⟨hb6, HD2.out.row.only ho6 (fun g hg he => HS0.out (by rw [hg, he])), HD2.out.len⟩, HLE.out, HRV.out, ?_⟩
      exact ((HO1.out.mono (fun _ hf _ => hf.elim)).trans HON2.out (fun g hg hlt => by have := HRV.out g hg; omega)).trans ho6 (fun _ h _ => h)
    · clear HV
      go_wp2_with fail
      go_ret
      exact .inr ⟨⟨a, rfl⟩, HO1.out.trans hon2 (fun g hg hlt => by have := HRV.out g hg; omega)⟩
  · have HX := fun (s : ByteArray) => Lib.hid (exactLen_bad s m2 hf w hmh HE.out)
    have hl3 : n = 8 → m2 = 0 := by omega
    clear hmh
    rcases hc8 with ⟨rfl, rfl⟩ | hc8
    · obtain rfl := hl3 rfl
      clear hl3 i6
      go_enter Tryd.func43, Tryd.ntmps43
      go_wp2_with (first
        | (go_at_call 54; refine (checkPrecision_ok p _ h1 h2).mono ?_; rintro e w' ⟨rfl, rfl⟩))
      rw [HQ.out]
      refine (HX _).out.mono ?_; rintro e w' ⟨⟨aa, rfl⟩, rfl⟩
      go_wp2_with fail
      go_ret
      exact .inr ⟨⟨aa, rfl⟩, Only.refl _ w⟩
    · clear hl3
      go_enter Tryd.func43, Tryd.ntmps43
      go_wp2_with (first
        | (go_at_call 54; refine (checkPrecision_ok p _ h1 h2).mono ?_; rintro e w' ⟨rfl, rfl⟩))
      rw [HQ.out]
      refine (HX _).out.mono ?_; rintro e w' ⟨⟨aa, rfl⟩, rfl⟩
      go_wp2_with fail
      go_ret
      exact .inr ⟨⟨aa, rfl⟩, Only.refl _ w⟩
end Go.Proofs.YtoegfdndoeiolaaDoor

/- Walks: any bytes are read, or refused. Conditions: the bytes are bytes; the variables of the errors hold errors. -/
namespace Go.Proofs.YtoegfdndoeiolaaDoor
open Go.RowKit

/-- What bytes of the second version say: p bits, registers t. -/
def Dec2 (p : Nat) (t data : List Nat) : Prop :=
  (data = denseBytes p t ∧ t.length = 2 ^ p ∧ ∀ v ∈ t, v ≤ 65 - p) ∨ ∃ tail K ks, data = 2 :: p :: 0 :: 1 :: tail ∧ SpDec p tail K ks ∧ t = table p ((K ++ ks).map (kv p))
theorem Dec2.head {p : Nat} {t data : List Nat} (h : Dec2 p t data) : data.head? = some 2 := by
  rcases h with ⟨rfl, _⟩ | ⟨tail, K, ks, rfl, _⟩ <;> rfl
theorem Dec2.len {p : Nat} {t data : List Nat} (h : Dec2 p t data) : 8 ≤ data.length := by
  rcases h with ⟨rfl, _⟩ | ⟨tail, K, ks, rfl, ⟨rfl, _⟩, _⟩
  · rw [denseBytes_length]; omega
  · simp only [List.length_cons, List.length_append, be32_len]; omega
theorem Dec2.inj {p p2 : Nat} {t t2 data r : List Nat} (hp : p ≤ 18) (h : Dec2 p t data) (h2 : Dec2 p2 t2 (data ++ r)) : r = [] ∧ p2 = p ∧ t2 = t := by
  have hb : 2 ^ p ≤ 262144 := Nat.pow_le_pow_right (n := 2) (by omega) hp
  rcases h with ⟨rfl, hl, _⟩ | ⟨tail, K, ks, rfl, hs, rfl⟩
  · rcases h2 with ⟨e, hl2, _⟩ | ⟨tail2, K2, ks2, e, _⟩
    · unfold denseBytes at e
      simp only [List.cons_append, List.append_assoc, List.cons.injEq, true_and] at e
      obtain ⟨rfl, e⟩ := e
      obtain ⟨_, e⟩ := be32_app (by omega) (by omega) e
      have hlen := congrArg List.length e
      rw [List.length_append, hl, hl2] at hlen
      have hr : r = [] := List.eq_nil_of_length_eq_zero (by omega)
      subst hr
      exact ⟨rfl, rfl, by rw [← e, List.append_nil]⟩
    · unfold denseBytes at e
      simp only [List.cons_append, List.cons.injEq] at e
      exact absurd e.2.2.2.1 (by omega)
  · rcases h2 with ⟨e, hl2, _⟩ | ⟨tail2, K2, ks2, e, hs2, rfl⟩
    · unfold denseBytes at e
      simp only [List.cons_append, List.cons.injEq] at e
      exact absurd e.2.2.2.1 (by omega)
    · simp only [List.cons_append, List.cons.injEq, true_and] at e
      obtain ⟨rfl, rfl⟩ := e
      obtain ⟨e1, e2, e3⟩ := hs.inj hp hs2
      exact ⟨e1, rfl, by rw [e2, e3]⟩
theorem EncOf.dec {p : Nat} {t bs : List Nat} (h : EncOf p t bs) : Dec2 p t bs := by
  rcases h with ⟨rfl, h1, h2⟩ | ⟨K, ks, rfl, _, hf, rfl⟩
  · exact .inl ⟨rfl, h1, h2⟩
  · exact .inr ⟨_, K, ks, rfl, ⟨rfl, hf.lenK, hf.okK, hf.valid⟩, rfl⟩

theorem head8 (data : List Nat) (h : 8 ≤ data.length) (h256 : ∀ b ∈ data, b < 256) : ∃ v p b s tn rest, data = v :: p :: b :: s :: (be32 tn ++ rest) ∧ v < 256 ∧ p < 256 ∧ b < 256 ∧ s < 256 ∧ tn < 4294967296 ∧ ∀ x ∈ rest, x < 256 := by
  match data, h with
  | v :: p :: b :: s :: a0 :: a1 :: a2 :: a3 :: rest, h =>
    have g : ∀ x ∈ [v, p, b, s, a0, a1, a2, a3], x < 256 := fun x hx => h256 x (by
      simp only [List.mem_cons, List.not_mem_nil, or_false] at hx ⊢
      rcases hx with h | h | h | h | h | h | h | h <;> simp [h])
    have g0 := g a0 (by simp)
    have g1 := g a1 (by simp)
    have g2 := g a2 (by simp)
    have g3 := g a3 (by simp)
    refine ⟨v, p, b, s, unbe a0 a1 a2 a3, rest, ?_, g v (by simp), g p (by simp), g b (by simp), g s (by simp), unbe_lt g0 g1 g2 g3, fun x hx => h256 x (by simp [hx])⟩
    rw [be_unbe g0 g1 g2 g3]
    rfl

theorem dense_sk {w : World} {S p al : Nat} {rv : Value} {t : List Nat} (h : Dense w S p al rv t) (h1 : 4 ≤ p) (h2 : p ≤ 18) (hle : ∀ v ∈ t, v ≤ 65 - p) (q : Prop) : Sk w S p t q (fun b => b = S ∨ rv.ownBlock = some b) := by
  refine ⟨.inl rfl, ?_, h1, h2, .inl ⟨al, rv, h, hle, fun g hg => .inr hg⟩⟩
  rintro b (rfl | hb)
  · exact Blk.lt h.blk
  · exact h.row.lt b hb

/-- What is read of bytes. -/
def Unm (w : World) (S0 : Nat) (data : List Nat) (e : Ending) (w' : World) : Prop :=
  (e = .returned .nilIface ∧ ∃ p t F', (data.head? = some 2 → Dec2 p t data) ∧ Sk w' S0 p t False F' ∧ (∀ b, F' b → b = S0 ∨ w.heap.size ≤ b) ∧ Only (fun b => b = S0) w w') ∨
  (Fails e ∧ (∀ p t, p ≤ 18 → 4 ≤ p → ¬ Dec2 p t data) ∧ Only (fun _ => False) w w')
theorem no_dec {p q v b s : Nat} {t tail : List Nat} (h : Dec2 p t (v :: q :: b :: s :: tail)) : v = 2 ∧ q = p ∧ b = 0 ∧ ((s = 0 ∧ tail = be32 (2 ^ p) ++ t ∧ t.length = 2 ^ p ∧ ∀ x ∈ t, x ≤ 65 - p) ∨ (s = 1 ∧ ∃ K ks, SpDec p tail K ks)) := by
  rcases h with ⟨e, h1, h2⟩ | ⟨tail2, K, ks, e, hs, _⟩
  · unfold denseBytes at e
    simp only [List.cons.injEq] at e
    obtain ⟨e1, e2, e3, e4, e5⟩ := e
    exact ⟨e1, e2, e3, .inl ⟨e4, e5, h1, h2⟩⟩
  · simp only [List.cons.injEq] at e
    obtain ⟨e1, e2, e3, e4, e5⟩ := e
    exact ⟨e1, e2, e3, .inr ⟨e4, K, ks, by rw [e5]; exact hs⟩⟩

theorem Unm_any (S0 : Nat) (z0 z1 z2 z3 z4 z5 : Value) (A : Option Addr) (n c : Nat) (data : List Nat) (w : World) (hb0 : Blk w S0 74 #[z0, z1, z2, z3, z4, z5]) (hbs : Nums w w.heap.size .u8 A n data) (hnc : n ≤ c) (hc : c ≤ 9223372036854775807) (hn : n < 1099511627776)
    (h256 : ∀ b ∈ data, b < 256) (he : ErrA w) :
    Calls Tryd.prog 43 #[.pointer (some ⟨S0, 0, none⟩), .slice A n c] w fun e w' => Unm w S0 data e w' := by
  have hl := hbs.1
  by_cases hn8 : n < 8
  · refine (unm_short8 S0 A n c w hn8 he.1).mono ?_
    rintro e w' ⟨hf, ho⟩
    exact .inr ⟨hf, fun p t _ _ h => by have := h.len; omega, ho⟩
  obtain ⟨ad, rfl, _, _⟩ := hbs.at_ (i := 0) (by omega)
  obtain ⟨v, p, b, s, tn, rest, rfl, hv, hp, hb, hs, htn, hr⟩ := head8 data (by omega) h256
  have c0 : w.cell? ad = some (.int .u8 (v : Int)) := by
    obtain ⟨_, e, _, d⟩ := hbs.at_ (i := 0) (by omega)
    cases e; exact d
  have c1 : w.cell? ⟨ad.block, ad.off + 1, none⟩ = some (.int .u8 (p : Int)) := by
    obtain ⟨_, e, _, d⟩ := hbs.at_ (i := 1) (by omega)
    cases e; exact d
  have c2 : w.cell? ⟨ad.block, ad.off + 2, none⟩ = some (.int .u8 (b : Int)) := by
    obtain ⟨_, e, _, d⟩ := hbs.at_ (i := 2) (by omega)
    cases e; exact d
  have c3 : w.cell? ⟨ad.block, ad.off + 3, none⟩ = some (.int .u8 (s : Int)) := by
    obtain ⟨_, e, _, d⟩ := hbs.at_ (i := 3) (by omega)
    cases e; exact d
  by_cases hver : v ≠ 1 ∧ v ≠ 2
  · refine (unm_version S0 v ad n c w (by omega) c0 hver.1 hver.2 he.2.1).mono ?_
    rintro e w' ⟨hf, ho⟩
    exact .inr ⟨hf, fun p t _ _ h => by have := (no_dec h).1; omega, ho⟩
  have hv12 : v = 1 ∨ v = 2 := by omega
  by_cases hs1 : 1 < s
  · refine (unm_kind S0 v p s ad n c w (by omega) c0 c1 c3 hv12 hs1 he.1).mono ?_
    rintro e w' ⟨hf, ho⟩
    exact .inr ⟨hf, fun p t _ _ h => by rcases (no_dec h).2.2.2 with h | h <;> (have := h.1; omega), ho⟩
  by_cases hb2 : v = 2 ∧ b ≠ 0
  · obtain ⟨rfl, hb2⟩ := hb2
    refine (unm_bias S0 p b s ad n c w (by omega) c0 c1 c2 c3 (by omega) hb2 he.1).mono ?_
    rintro e w' ⟨hf, ho⟩
    exact .inr ⟨hf, fun p t _ _ h => by have := (no_dec h).2.2.1; omega, ho⟩
  by_cases hpr : p < 4 ∨ 18 < p
  · refine (unm_prec S0 v p b s ad n c w (by omega) c0 c1 c2 c3 (by omega) (by omega) hpr he.2.2).mono ?_
    rintro e w' ⟨hf, ho⟩
    exact .inr ⟨hf, fun p t _ _ h => by have := (no_dec h).2.1; omega, ho⟩
  have h1 : 4 ≤ p := by omega
  have h2 : p ≤ 18 := by omega
  clear c0 c1 c2 c3
  rcases hv12 with rfl | rfl
  · rcases (show s = 0 ∨ s = 1 from by omega) with rfl | rfl
    · refine (UnmDense1_any S0 p b z0 z1 z2 z3 z4 z5 ad n c _ w hb0 hbs (by omega) hnc hc hn (fun x hx => h256 x (by simp only [List.mem_cons]; exact .inr (.inr (.inr (.inr hx))))) hb h1 h2 he.1).mono ?_
      rintro e w' (⟨rfl, al, rv, t, hd, hle, hrv, ho⟩ | ⟨hf, ho⟩)
      · refine .inl ⟨rfl, p, t, _, fun h => by simp at h, dense_sk hd h1 h2 hle _, ?_, ho⟩
        rintro g (rfl | hg)
        · exact .inl rfl
        · exact .inr (hrv g hg)
      · exact .inr ⟨hf, fun p t _ _ h => by have := (no_dec h).1; omega, ho⟩
    · refine (UnmSparse1_any S0 p tn b z0 z1 z2 z3 z4 z5 ad n c rest w hb0 hbs hnc hc hn hr htn hb h1 h2 he.1).mono ?_
      rintro e w' (⟨rfl, K, ks, F', _, hsk, hF, ho⟩ | ⟨hf, _, ho⟩)
      · exact .inl ⟨rfl, p, _, F', fun h => by simp at h, hsk, hF, ho⟩
      · exact .inr ⟨hf, fun p t _ _ h => by have := (no_dec h).1; omega, ho⟩
  · obtain rfl : b = 0 := by omega
    rcases (show s = 0 ∨ s = 1 from by omega) with rfl | rfl
    · by_cases hsz : tn ≠ 2 ^ p ∨ rest.length ≠ 2 ^ p
      · refine (unm_size S0 p tn ad n c rest w hbs hnc hc hn htn h1 h2 hsz he.1).mono ?_
        rintro e w' ⟨hf, ho⟩
        refine .inr ⟨hf, fun p' t hp' _ h => ?_, ho⟩
        obtain ⟨_, rfl, _, (⟨_, e, hl, _⟩ | ⟨h, _⟩)⟩ := no_dec h
        · have hb : 2 ^ p ≤ 262144 := Nat.pow_le_pow_right (n := 2) (by omega) h2
          obtain ⟨e1, rfl⟩ := be32_app htn (by omega) e
          omega
        · omega
      · obtain ⟨rfl, hrl⟩ : tn = 2 ^ p ∧ rest.length = 2 ^ p := by omega
        refine (UnmDense_any S0 p z0 z1 z2 z3 z4 z5 ad n c rest w hb0 hbs hnc hc hr hrl h1 h2 he.1).mono ?_
        rintro e w' (⟨rfl, hle, al, rv, hd, hrv, ho⟩ | ⟨hf, hno, ho⟩)
        · refine .inl ⟨rfl, p, rest, _, fun _ => .inl ⟨rfl, hrl, hle⟩, dense_sk hd h1 h2 hle _, ?_, ho⟩
          rintro g (rfl | hg)
          · exact .inl rfl
          · exact .inr (hrv g hg)
        · refine .inr ⟨hf, fun p' t hp' _ h => ?_, ho⟩
          obtain ⟨_, rfl, _, (⟨_, e, _, hle⟩ | ⟨h, _⟩)⟩ := no_dec h
          · obtain ⟨_, rfl⟩ := be32_app htn htn e
            exact hno hle
          · omega
    · refine (UnmSparse2_any S0 p tn z0 z1 z2 z3 z4 z5 ad n c rest w hb0 hbs hnc hc hn hr htn h1 h2 he.1).mono ?_
      rintro e w' (⟨rfl, K, ks, F', hd, hsk, hF, ho⟩ | ⟨hf, hno, ho⟩)
      · exact .inl ⟨rfl, p, _, F', fun _ => .inr ⟨_, K, ks, rfl, hd, rfl⟩, hsk, hF, ho⟩
      · refine .inr ⟨hf, fun p' t hp' _ h => ?_, ho⟩
        obtain ⟨_, rfl, _, (⟨h, _⟩ | ⟨_, K, ks, hs⟩)⟩ := no_dec h
        · omega
        · exact hno K ks hs
end Go.Proofs.YtoegfdndoeiolaaDoor

/- Walks: any bytes are read, written and read again (impl.Read). Conditions: the bytes are bytes; the variables of the errors hold errors. -/
namespace Go.Proofs.YtoegfdndoeiolaaDoor
open Go.RowKit

theorem EncOf.byte {p : Nat} {t bs : List Nat} (hp : p ≤ 18) (h : EncOf p t bs) : ∀ b ∈ bs, b < 256 := by
  have hk : ∀ (K : List Nat), ∀ b ∈ keyBytes K, b < 256 := fun K => by
    induction K with
    | nil => intro b hb; cases hb
    | cons k K ih =>
      intro b hb
      rcases List.mem_append.1 hb with hb | hb
      · exact be32_byte _ b hb
      · exact ih b hb
  rcases h with ⟨rfl, hl, hle⟩ | ⟨K, ks, rfl, _⟩
  · intro b hb
    simp only [denseBytes, List.mem_cons, List.mem_append] at hb
    rcases hb with rfl | rfl | rfl | rfl | hb | hb
    · omega
    · omega
    · omega
    · omega
    · exact be32_byte _ b hb
    · have := hle b hb; omega
  · intro b hb
    simp only [sparseBytes, listBytes, List.mem_cons, List.mem_append] at hb
    rcases hb with rfl | rfl | rfl | rfl | hb | hb | hb | hb | hb | hb
    · omega
    · omega
    · omega
    · omega
    · exact be32_byte _ b hb
    · exact hk K b hb
    · exact be32_byte _ b hb
    · exact be32_byte _ b hb
    · exact be32_byte _ b hb
    · exact encFrom_byte _ _ b hb
theorem EncOf.small {p : Nat} {t bs : List Nat} (hp : p ≤ 18) (h : EncOf p t bs) : bs.length < 1000000000 := by
  have hb : 2 ^ p ≤ 262144 := Nat.pow_le_pow_right (n := 2) (by omega) hp
  rcases h with ⟨rfl, hl, hle⟩ | ⟨K, ks, rfl, _, hf, _⟩
  · rw [denseBytes_length]; omega
  · have h1 := hf.lenK
    have h2 := hf.valid.2.2
    have h3 := encFrom_le 0 ks (fun k hk => (hf.valid.2.1 k hk).1)
    simp only [sparseBytes, listBytes, List.length_cons, List.length_append, be32_len, keyBytes_length]
    omega

/-- A sketch is read of its own bytes. -/
theorem UnmOwn_any (S0 p : Nat) (z0 z1 z2 z3 z4 z5 v : Value) (t data : List Nat) (w : World) (hb0 : Blk w S0 74 #[z0, z1, z2, z3, z4, z5]) (hr : Row w 5 .u8 v data) (h1 : 4 ≤ p) (h2 : p ≤ 18) (h : EncOf p t data) (he : ErrA w) :
    Calls Tryd.prog 43 #[.pointer (some ⟨S0, 0, none⟩), v] w fun e w' =>
      e = .returned .nilIface ∧ ∃ F', Sk w' S0 p t False F' ∧ (∀ b, F' b → b = S0 ∨ w.heap.size ≤ b) ∧ Only (fun b => b = S0) w w' := by
  obtain ⟨A, c, rfl, hc, hn, _, _⟩ := hr.nums
  refine (Unm_any S0 z0 z1 z2 z3 z4 z5 A _ c data w hb0 hn hc (row_cap hr rfl) (by have := h.small h2; omega) (h.byte h2) he).mono ?_
  rintro e w' (⟨rfl, p', t', F', hd, hsk, hF, ho⟩ | ⟨_, hno, _⟩)
  · obtain ⟨_, rfl, rfl⟩ := Dec2.inj (r := []) h2 h.dec (by rw [List.append_nil]; exact hd h.dec.head)
    exact ⟨rfl, F', hsk, hF, ho⟩
  · exact absurd h.dec (hno p t h2 h1)

/-- What the thin reader tells of bytes. -/
def ReadP (w : World) (data : List Nat) (e : Ending) (w' : World) : Prop := Only (fun _ => False) w w' ∧
  ((∃ v1 v2 p t, e = .returned (.tuple #[v1, v2, .bool true]) ∧ 4 ≤ p ∧ p ≤ 18 ∧ (data.head? = some 2 → Dec2 p t data) ∧ t.length = 2 ^ p ∧ Row w' 5 .u8 v1 t ∧ Row w' 5 .u8 v2 t) ∨
   (e = .returned (.tuple #[.slice none 0 0, .slice none 0 0, .bool false]) ∧ ∀ p t, p ≤ 18 → 4 ≤ p → ¬ Dec2 p t data))

set_option maxHeartbeats 1000000 in
set_option maxRecDepth 100000 in
theorem Read_any (A : Option Addr) (n c : Nat) (data : List Nat) (w : World) (hbs : Nums w w.heap.size .u8 A n data) (hnc : n ≤ c) (hc : c ≤ 9223372036854775807) (hn : n < 1099511627776)
    (h256 : ∀ b ∈ data, b < 256) (he : ErrA w) :
    Calls Tryd.prog 27 #[.slice A n c] w fun e w' => ReadP w data e w' := by
  have ho0 : Only (fun _ => False) w (w.alloc (.cells zeroSk 74)) := (Only.refl _ w).alloc _
  have hs0 : (w.alloc (.cells zeroSk 74)).heap.size = w.heap.size + 1 := by simp
  have HU := Lib.hid (Unm_any w.heap.size (.int .u8 0) (.int .u32 0) (.float .f64 0) (.pointer none) (.pointer none) (.slice none 0 0) A n c data (w.alloc (.cells zeroSk 74)) (Blk.new w _ _)
    ((hbs.only (Nat.le_refl _) ho0 (fun _ _ hf => hf)).more (by omega)) hnc hc hn h256 (he.only ho0 (fun _ hf => hf.elim)))
  have HE := Lib.hid he
  clear hbs he h256 hnc hc
  go_enter Tryd.func27, Tryd.ntmps27
  go_wp2_with fail
  refine HU.out.mono ?_
  rintro e w1 (⟨rfl, p, t, F, hd, hsk, hF, hon1⟩ | ⟨⟨a, rfl⟩, hnot, hon1⟩)
  · have ho1 : Only (fun _ => False) w w1 := ho0.trans hon1 (fun b hb hlt => by omega)
    have HD := Lib.hid hd
    have HSK := Lib.hid hsk
    have HF : Hid (∀ b, F b → w.heap.size ≤ b) := fun b hb => by rcases hF b hb with e | e <;> omega
    have HO1 := Lib.hid ho1
    have HMA := Lib.hid (Mar_any w.heap.size p t False F w1 hsk)
    clear hd hsk hF ho1 hon1 HU
    go_wp2_with (go_at_call 44; refine HMA.out.mono ?_; rintro e w2 ⟨v2, bs, rfl, henc, hrow2, hf2, hon2⟩)
    have hon02 : Only (fun _ => False) w2 (w2.alloc (.cells zeroSk 74)) := (Only.refl _ w2).alloc _
    have hw2 : Only (fun _ => False) w (w2.alloc (.cells zeroSk 74)) := (HO1.out.trans hon2 (fun _ hf _ => hf)).alloc _
    have hs2 : (w2.alloc (.cells zeroSk 74)).heap.size = w2.heap.size + 1 := by simp
    have hww2 : w1.heap.size ≤ w2.heap.size := hon2.size
    refine (UnmOwn_any w2.heap.size p (.int .u8 0) (.int .u32 0) (.float .f64 0) (.pointer none) (.pointer none) (.slice none 0 0) v2 t bs (w2.alloc (.cells zeroSk 74)) (Blk.new w2 _ _)
      (hrow2.only hon02 (fun _ _ hf => hf)) HSK.out.lo HSK.out.hi henc (HE.out.only hw2 (fun _ hf => hf.elim))).mono ?_
    rintro e w3 ⟨rfl, F2, hsk2, hF2, hon3⟩
    have hw13 : Only (fun b => b = w2.heap.size) w1 w3 := ((hon2.mono (fun _ hf _ => hf.elim)).alloc _).trans hon3 (fun b hb _ => hb)
    have hsk3 : Sk w3 w.heap.size p t False F := HSK.out.only hw13 (fun b hb e => by have := HSK.out.lt b hb; omega)
    have hw3 : Only (fun _ => False) w w3 := hw2.trans hon3 (fun b hb hlt => by have := HO1.out.size; omega)
    have HR1 := Lib.hid (regs_any w.heap.size p t False F w3 hsk3)
    have HSK2 := Lib.hid hsk2
    have HF2 : Hid (∀ b, F2 b → w2.heap.size ≤ b) := fun b hb => by rcases hF2 b hb with e | e <;> omega
    have HO3 := Lib.hid hw3
    clear hrow2 hon2 hon3 hsk2 hF2 hsk3 hw13 hw3 hw2 hon02 henc hf2
    go_wp2_with fail
    refine HR1.out.mono ?_
    rintro e w4 ⟨v4, rfl, hrow4, hf4, hon4⟩
    have HR2 := Lib.hid (regs_any w2.heap.size p t False F2 w4 (HSK2.out.only hon4 (fun b hb h => by have := HSK.out.lt b h; have := HF2.out b hb; omega)))
    have HO4 := Lib.hid (HO3.out.trans hon4 (fun b hb hlt => by have := HF.out b hb; omega))
    have HROW4 := Lib.hid hrow4
    have HF4 := Lib.hid hf4
    clear hon4 hrow4 hf4
    go_wp2_with (go_at_call 35; refine HR2.out.mono ?_; rintro e w5 ⟨v5, rfl, hrow5, hf5, hon5⟩)
    go_ret3
    exact ⟨HO4.out.trans hon5 (fun b hb hlt => by have := HF2.out b hb; have := HO1.out.size; omega), .inl ⟨v4, v5, p, t, rfl, HSK.out.lo, HSK.out.hi, HD.out, HSK.out.len, HROW4.out.only hon5 (fun g hg hb => by have := HF4.out g hg; have := HSK2.out.lt g hb; omega), hrow5⟩⟩
  · have ho1 : Only (fun _ => False) w w1 := ho0.trans hon1 (fun b hb hlt => hb)
    have HO1 := Lib.hid ho1
    have HN := Lib.hid hnot
    clear ho1 hon1 hnot HU
    go_wp2_with fail
    go_ret3
    exact ⟨HO1.out, .inr ⟨rfl, HN.out⟩⟩
end Go.Proofs.YtoegfdndoeiolaaDoor

/- Walks: the law FnReadBack. Conditions: the bytes are bytes; the variables of the errors hold errors. -/
namespace Go.Proofs.YtoegfdndoeiolaaDoor
open Go.RowKit

theorem lawReadBack_long (A : Option Addr) (n c : Nat) (w : World) (h : 2147483647 < n) :
    Calls Tryd.prog 10 #[.slice A n c] w fun e w' => e = .returned (.bool true) ∧ Below w.heap.size w w' := by
  go_enter Tryd.func10, Tryd.ntmps10
  go_wp2
  go_ret
  exact ⟨rfl, Below.refl _ _⟩

set_option maxRecDepth 100000 in
theorem lawReadBack_any (A : Option Addr) (n c : Nat) (data : List Nat) (w : World) (hbs : Nums w w.heap.size .u8 A n data) (hnc : n ≤ c) (hc : c ≤ 9223372036854775807) (h256 : ∀ b ∈ data, b < 256) (hn : n ≤ 2147483647) (he : ErrA w) :
    Calls Tryd.prog 10 #[.slice A n c] w fun e w' => e = .returned (.bool true) ∧ Below w.heap.size w w' := by
  have hn' : ¬ (2147483647 : Int) < (n : Int) := by omega
  have HR := Lib.hid (Read_any A n c data w hbs hnc hc (by omega) h256 he)
  clear hn hbs h256 he hnc hc
  go_enter Tryd.func10, Tryd.ntmps10
  go_wp2_with fail
  refine HR.out.mono ?_
  rintro e w1 ⟨ho1, (⟨v1, v2, p, t, rfl, h1, h2, _, hl, hr1, hr2⟩ | ⟨rfl, _⟩)⟩
  · have hpb := pow_bounds h1 h2
    obtain ⟨N, hN⟩ : ∃ N, t.length = N := ⟨_, rfl⟩
    have hN0 : 0 < N := by omega
    have hN1 : N ≤ 262144 := by omega
    have HSM := Lib.hid (same_rows hr1 hr2 (Only.refl _ w1) (by omega) 0)
    obtain ⟨A1, c1, hv1, _⟩ := hr1.nums
    rw [hN] at hv1
    subst hv1
    have HO1 := Lib.hid ho1
    clear hr1 hr2 ho1 hl hN hpb
    go_wp2_with fail
    refine HSM.out.mono ?_
    rintro e w2 ⟨rfl, q, rfl⟩
    go_wp2_with fail
    go_ret
    exact ⟨rfl, (HO1.out.drewN q).new⟩
  · have HO1 := Lib.hid ho1
    clear ho1
    go_wp2_with fail
    refine (Put1_any _).mono ?_
    rintro e w2 ⟨⟨A4, c4, rfl⟩, ho2⟩
    go_wp2_with fail
    go_ret
    exact ⟨rfl, (HO1.out.trans ho2 (fun _ hf _ => hf)).new⟩
end Go.Proofs.YtoegfdndoeiolaaDoor

/- Walks: the laws FnBack and FnWrittenSpoilt. Conditions: the hashes are 64-bit numbers; the variables of the errors hold errors. -/
namespace Go.Proofs.YtoegfdndoeiolaaDoor
open Go.RowKit

theorem implBack_bad (v : Value) (p : Nat) (b : Bool) (w : World) (h : p < 4 ∨ 18 < p) (he : ErrP w) :
    Calls Tryd.prog 28 #[.int .u8 p, .bool b, v] w fun e w' => e = .returned (.tuple #[.slice none 0 0, .bool false]) ∧ w = w' := by
  have HN := Lib.hid (NewSketch_bad p b w h he)
  clear h he
  go_enter Tryd.func28, Tryd.ntmps28
  go_wp2_with fail
  refine HN.out.mono ?_
  rintro e w1 ⟨⟨a, rfl⟩, rfl⟩
  go_wp2_with fail
  go_ret2
  exact ⟨rfl, rfl⟩

set_option maxRecDepth 100000 in
theorem implBack_any (A : Option Addr) (n c B p : Nat) (b : Bool) (xs : List Nat) (w : World) (hxs : Nums w B .u64 A n xs) (hB : B ≤ w.heap.size) (hx : ∀ x ∈ xs, x < 18446744073709551616) (hn : n < 1099511627776) (h1 : 4 ≤ p) (h2 : p ≤ 18) (he : ErrA w) :
    Calls Tryd.prog 28 #[.int .u8 p, .bool b, .slice A n c] w fun e w' =>
      ∃ v', e = .returned (.tuple #[v', .bool true]) ∧ Row w' 5 .u8 v' (table p (xs.map (hv p))) ∧ Only (fun _ => False) w w' := by
  have HN := Lib.hid (NewSketch_any p b w h1 h2)
  have HX := Lib.hid hxs
  have HX64 := Lib.hid hx
  have HE := Lib.hid he
  have hAB : Hid (∀ ad, A = some ad → 0 < n → ad.block < B) := fun ad ha h0 => by
    obtain ⟨ad2, e, hb, _⟩ := hxs.2 h0
    rw [ha] at e; injection e with e; rw [e]; exact hb
  clear hxs hx he
  go_enter Tryd.func28, Tryd.ntmps28
  go_wp2_with fail
  refine HN.out.mono ?_
  rintro e w1 ⟨S, F, rfl, hsk, hF, ho1⟩
  have hs1 := ho1.size
  have HFI := Lib.hid (fill_any S p _ w1 F A n c B xs hsk (HX.out.only hB ho1 (fun _ _ hf => hf)) (by omega) HX64.out hn)
  have HF := Lib.hid hF
  have HO1 := Lib.hid ho1
  clear hsk hF ho1
  go_wp2_with fail
  refine (HFI.out (fun h0 ad ha hf => by have := hAB.out ad ha h0; have := HF.out _ hf; omega)).mono ?_
  rintro e w2 ⟨rfl, F2, hsk2, ho2, hF2⟩
  rw [ups_made] at hsk2
  have HMA := Lib.hid (Mar_any S p _ True F2 w2 hsk2)
  have HO2 := Lib.hid (HO1.out.trans ho2 (fun b hb hlt => by have := HF.out b hb; omega))
  clear hsk2 ho2 hF2
  go_wp2_with fail
  refine HMA.out.mono ?_
  rintro e w3 ⟨v3, bs, rfl, henc, hrow3, _, ho3⟩
  have hO3 := HO2.out.trans ho3 (fun _ hf _ => hf)
  have ho4 : Only (fun _ => False) w3 (w3.alloc (.cells zeroSk 74)) := (Only.refl _ w3).alloc _
  have HU := Lib.hid (UnmOwn_any w3.heap.size p (.int .u8 0) (.int .u32 0) (.float .f64 0) (.pointer none) (.pointer none) (.slice none 0 0) v3 _ bs (w3.alloc (.cells zeroSk 74)) (Blk.new w3 _ _)
      (hrow3.only ho4 (fun _ _ hf => hf)) h1 h2 henc (HE.out.only (hO3.trans ho4 (fun _ hf _ => hf)) (fun _ hf => hf.elim)))
  have HO3 := Lib.hid hO3
  have HO4 := Lib.hid ho4
  have hs3 : (w3.alloc (.cells zeroSk 74)).heap.size = w3.heap.size + 1 := by simp
  have hw3 := hO3.size
  clear henc hrow3 ho3 hO3 ho4
  go_wp2_with fail
  refine HU.out.mono ?_
  rintro e w5 ⟨rfl, F5, hsk5, hF5, ho5⟩
  have HR := Lib.hid (regs_any w3.heap.size p _ False F5 w5 hsk5)
  have HF5 : Hid (∀ b, F5 b → w.heap.size ≤ b) := fun b hb => by rcases hF5 b hb with e | e <;> omega
  have HO5 := Lib.hid ((HO3.out.trans HO4.out (fun _ hf _ => hf)).trans ho5 (fun b hb hlt => by omega))
  clear hsk5 hF5 ho5
  go_wp2_with fail
  refine HR.out.mono ?_
  rintro e w6 ⟨v', rfl, hr, _, ho6⟩
  go_wp2_with fail
  go_ret2
  exact ⟨v', rfl, hr, HO5.out.trans ho6 (fun b hb hlt => by have := HF5.out b hb; omega)⟩

theorem lawBack_long (A : Option Addr) (n c p : Nat) (b : Bool) (w : World) (h : 2147483647 < n) :
    Calls Tryd.prog 12 #[.int .u8 p, .bool b, .slice A n c] w fun e w' => e = .returned (.bool true) ∧ Below w.heap.size w w' := by
  go_enter Tryd.func12, Tryd.ntmps12
  go_wp2
  go_ret
  exact ⟨rfl, Below.refl _ _⟩

set_option maxRecDepth 100000 in
theorem lawBack_bad (A : Option Addr) (n c p : Nat) (b : Bool) (w : World) (hn : n ≤ 2147483647) (h : p < 4 ∨ 18 < p) (he : ErrP w) :
    Calls Tryd.prog 12 #[.int .u8 p, .bool b, .slice A n c] w fun e w' => e = .returned (.bool true) ∧ Below w.heap.size w w' := by
  have hn' : ¬ (2147483647 : Int) < (n : Int) := by omega
  have HR := Lib.hid (implBack_bad (.slice A n c) p b w h he)
  have HRT := Lib.hid (fun W => Right_no p W h)
  clear hn h he
  go_enter Tryd.func12, Tryd.ntmps12
  go_wp2_with fail
  refine HR.out.mono ?_
  rintro e w1 ⟨rfl, rfl⟩
  go_wp2_with fail
  refine (HRT.out _).mono ?_
  rintro e w1 ⟨rfl, rfl⟩
  go_wp2_with fail
  refine (Put1_any _).mono ?_
  rintro e w2 ⟨⟨A4, c4, rfl⟩, ho2⟩
  go_wp2_with fail
  go_ret
  exact ⟨rfl, ho2.new⟩

set_option maxRecDepth 100000 in
theorem lawBack_any (A : Option Addr) (n c p : Nat) (b : Bool) (xs : List Nat) (w : World) (hxs : Nums w w.heap.size .u64 A n xs) (hx : ∀ x ∈ xs, x < 18446744073709551616) (hn : n ≤ 2147483647) (h1 : 4 ≤ p) (h2 : p ≤ 18) (he : ErrA w) :
    Calls Tryd.prog 12 #[.int .u8 p, .bool b, .slice A n c] w fun e w' => e = .returned (.bool true) ∧ Below w.heap.size w w' := by
  have hpb := pow_bounds h1 h2
  have hn' : ¬ (2147483647 : Int) < (n : Int) := by omega
  have HR := Lib.hid (implBack_any A n c _ p b xs w hxs (Nat.le_refl _) hx (by omega) h1 h2 he)
  have HS : Hid (∀ W, Only (fun _ => False) w W → Calls Tryd.prog 23 #[.int .u8 p, .slice A n c] W fun e w' =>
      ∃ v', e = .returned v' ∧ Row w' 5 .u8 v' (table p (xs.map (hv p))) ∧ (∀ g, v'.ownBlock = some g → W.heap.size ≤ g) ∧ Only (fun _ => False) W w') := fun W hW =>
    specRegs_any A n c w.heap.size p xs W (hxs.only (Nat.le_refl _) hW (fun _ _ hf => hf)) hW.size hx (by omega) h1 h2
  clear hn hxs hx he
  go_enter Tryd.func12, Tryd.ntmps12
  go_wp2_with fail
  refine HR.out.mono ?_
  rintro e w1 ⟨v1, rfl, hr1, ho1⟩
  have HR1 := Lib.hid hr1
  have HO1 := Lib.hid ho1
  clear hr1 ho1
  go_wp2_with fail
  refine (Right_yes p _ h1 h2).mono ?_
  rintro e w2 ⟨rfl, rfl⟩
  go_wp2_with fail
  refine (HS.out _ HO1.out).mono ?_
  rintro e w2 ⟨v2, rfl, hr2, _, ho2⟩
  have HSM := Lib.hid (same_rows HR1.out hr2 ho2 (by rw [table_length]; omega) 0)
  have HO2 := Lib.hid (HO1.out.trans ho2 (fun _ hf _ => hf))
  clear hr2 ho2
  go_wp2_with fail
  refine HSM.out.mono ?_
  rintro e w3 ⟨rfl, q, rfl⟩
  go_wp2_with fail
  go_ret
  exact ⟨rfl, (HO2.out.drewN q).new⟩
end Go.Proofs.YtoegfdndoeiolaaDoor

/- Walks: the law FnWrittenSpoilt. Conditions: the hashes are 64-bit numbers; the variables of the errors hold errors. -/
namespace Go.Proofs.YtoegfdndoeiolaaDoor
open Go.RowKit

set_option maxRecDepth 100000 in
theorem implWritten_any (A : Option Addr) (n c B p : Nat) (b : Bool) (xs : List Nat) (w : World) (hxs : Nums w B .u64 A n xs) (hB : B ≤ w.heap.size) (hx : ∀ x ∈ xs, x < 18446744073709551616) (hn : n < 1099511627776) (h1 : 4 ≤ p) (h2 : p ≤ 18) :
    Calls Tryd.prog 29 #[.int .u8 p, .bool b, .slice A n c] w fun e w' =>
      ∃ v' bs, e = .returned (.tuple #[v', .bool true]) ∧ EncOf p (table p (xs.map (hv p))) bs ∧ Row w' 5 .u8 v' bs ∧ Only (fun _ => False) w w' := by
  have HN := Lib.hid (NewSketch_any p b w h1 h2)
  have HX := Lib.hid hxs
  have HX64 := Lib.hid hx
  have hAB : Hid (∀ ad, A = some ad → 0 < n → ad.block < B) := fun ad ha h0 => by
    obtain ⟨ad2, e, hb, _⟩ := hxs.2 h0
    rw [ha] at e; injection e with e; rw [e]; exact hb
  clear hxs hx
  go_enter Tryd.func29, Tryd.ntmps29
  go_wp2_with fail
  refine HN.out.mono ?_
  rintro e w1 ⟨S, F, rfl, hsk, hF, ho1⟩
  have hs1 := ho1.size
  have HFI := Lib.hid (fill_any S p _ w1 F A n c B xs hsk (HX.out.only hB ho1 (fun _ _ hf => hf)) (by omega) HX64.out hn)
  have HF := Lib.hid hF
  have HO1 := Lib.hid ho1
  clear hsk hF ho1
  go_wp2_with fail
  refine (HFI.out (fun h0 ad ha hf => by have := hAB.out ad ha h0; have := HF.out _ hf; omega)).mono ?_
  rintro e w2 ⟨rfl, F2, hsk2, ho2, hF2⟩
  rw [ups_made] at hsk2
  have HMA := Lib.hid (Mar_any S p _ True F2 w2 hsk2)
  have HO2 := Lib.hid (HO1.out.trans ho2 (fun b hb hlt => by have := HF.out b hb; omega))
  clear hsk2 ho2 hF2
  go_wp2_with fail
  refine HMA.out.mono ?_
  rintro e w3 ⟨v3, bs, rfl, henc, hrow3, _, ho3⟩
  have HENC := Lib.hid henc
  have HR3 := Lib.hid hrow3
  have HO3 := Lib.hid (HO2.out.trans ho3 (fun _ hf _ => hf))
  clear henc hrow3 ho3
  go_wp2_with fail
  go_quiet (fail)
  go_wp2_with fail
  go_ret2
  exact ⟨v3, bs, rfl, HENC.out, HR3.out.only (S := fun _ => False) ((Only.refl _ _).drewN _) (fun _ _ hf => hf), HO3.out.drewN _⟩

theorem lawSpoilt_long (A : Option Addr) (n c p x : Nat) (b : Bool) (w : World) (h : 2147483647 < n) :
    Calls Tryd.prog 13 #[.int .u8 p, .bool b, .slice A n c, .int .u8 x] w fun e w' => e = .returned (.bool true) ∧ Below w.heap.size w w' := by
  go_enter Tryd.func13, Tryd.ntmps13
  go_wp2
  go_ret
  exact ⟨rfl, Below.refl _ _⟩
theorem lawSpoilt_bad (A : Option Addr) (n c p x : Nat) (b : Bool) (w : World) (hn : n ≤ 2147483647) (h : p < 4 ∨ 18 < p) :
    Calls Tryd.prog 13 #[.int .u8 p, .bool b, .slice A n c, .int .u8 x] w fun e w' => e = .returned (.bool true) ∧ Below w.heap.size w w' := by
  have hn' : ¬ (2147483647 : Int) < (n : Int) := by omega
  have HRT := Lib.hid (fun W => Right_no p W h)
  clear hn h
  go_enter Tryd.func13, Tryd.ntmps13
  go_wp2_with fail
  refine (HRT.out _).mono ?_
  rintro e w1 ⟨rfl, rfl⟩
  go_wp2_with fail
  go_ret
  exact ⟨rfl, Below.refl _ _⟩

/-- The thin reader, on a row of the call's own. -/
theorem readRow {w : World} {v : Value} {data : List Nat} (hr : Row w 5 .u8 v data) (hl : data.length < 1099511627776) (h256 : ∀ b ∈ data, b < 256) (he : ErrA w) :
    Calls Tryd.prog 27 #[v] w fun e w' => ReadP w data e w' := by
  obtain ⟨A, c, rfl, hc, hn, _, _⟩ := hr.nums
  exact Read_any A _ c data w hn hc (row_cap hr rfl) hl h256 he

set_option maxRecDepth 100000 in
theorem lawSpoilt_any (A : Option Addr) (n c p x : Nat) (b : Bool) (xs : List Nat) (w : World) (hxs : Nums w w.heap.size .u64 A n xs) (hx : ∀ x ∈ xs, x < 18446744073709551616) (hn : n ≤ 2147483647) (h1 : 4 ≤ p) (h2 : p ≤ 18) (hx256 : x < 256) (he : ErrA w) :
    Calls Tryd.prog 13 #[.int .u8 p, .bool b, .slice A n c, .int .u8 x] w fun e w' => e = .returned (.bool true) ∧ Below w.heap.size w w' := by
  obtain ⟨i0, hi, hz0, hz1, hz2⟩ := info_parts info_u8
  have hn' : ¬ (2147483647 : Int) < (n : Int) := by omega
  have HR := Lib.hid (implWritten_any A n c _ p b xs w hxs (Nat.le_refl _) hx (by omega) h1 h2)
  have HE := Lib.hid he
  clear hn hxs hx he
  go_enter Tryd.func13, Tryd.ntmps13
  go_wp2_with fail
  refine (Right_yes p _ h1 h2).mono ?_
  rintro e w0 ⟨rfl, rfl⟩
  go_wp2_with fail
  refine HR.out.mono ?_
  rintro e w1 ⟨v1, bs, rfl, henc, hr1, ho1⟩
  have hbl := henc.small h2
  have HRD := Lib.hid (readRow hr1 (by omega) (henc.byte h2) (HE.out.only ho1 (fun _ hf => hf.elim)))
  have HENC := Lib.hid henc
  have HR1 := Lib.hid hr1
  have HO1 := Lib.hid ho1
  clear henc hr1 ho1
  go_wp2_with fail
  refine HRD.out.mono ?_
  rintro e w2 ⟨ho2, (⟨u1, u2, p', t', rfl, _⟩ | ⟨rfl, hno⟩)⟩
  · have hr2 := HR1.out.only ho2 (fun _ _ hf => hf)
    obtain ⟨A1, c1, hv1, _, hn1, _, _⟩ := hr2.nums
    subst hv1
    have hO2 := HO1.out.trans ho2 (fun _ hf _ => hf)
    have hO3 : Only (fun _ => False) w (w2.alloc (.cells #[] 5)) := hO2.alloc _
    have hr0 := row_empty w2 5 .u8
    have hn2 := hn1.only (Nat.le_refl _) ((Only.refl (fun _ => False) w2).alloc (.cells #[] 5)) (fun _ _ hf => hf)
    have hsz := hO2.size
    clear ho2 HR1
    go_wp2_with (at_builtin; go_must (refine wpList_append_freshN (w0 := w) rfl (.tmp 37) (.tmp 38) 31 rfl 5 i0 (.int .u8 0) 1 Tryd.underlying31 hi hz0 hz1 hz2 rfl .u8 _ [] rfl hr0 _ A1 _ c1 bs rfl hn2 ?c1 ?c2 hO3 ?c3 ?_))
    case c1 => simp; omega
    case c2 => simp; omega
    case c3 => exact fun g hg => own_ge hg hsz
    intro v3 w3 hrow3 ho3 hf3
    go_wp2_with (at_builtin; go_must (refine wpList_append_fresh (w0 := w) rfl (.tmp 39) (.tmp 41) 31 rfl 5 i0 (.int .u8 0) 1 Tryd.underlying31 hi hz0 hz1 hz2 rfl .u8 v3 _ rfl hrow3 [x] 1 1 rfl 5 _ (one_cells x) rfl ?d1 ?d2 ho3 hf3 ?_))
    case d1 => simp; omega
    case d2 => simp; omega
    intro v4 w4 hrow4 ho4 hf4
    have HRE := Lib.hid (readRow hrow4 (by rw [List.length_append]; simp; omega) (fun y hy => by
      rcases List.mem_append.1 hy with h | h
      · exact HENC.out.byte h2 y h
      · rw [List.mem_singleton] at h; omega) (HE.out.only ho4 (fun _ hf => hf.elim)))
    have HO4 := Lib.hid ho4
    clear hrow3 ho3 hf3 hrow4 ho4 hf4 hO2 hO3 hr0 hn1 hn2 hr2
    go_wp2_with fail
    refine HRE.out.mono ?_
    rintro e w5 ⟨ho5, (⟨y1, y2, p5, t5, rfl, _, _, hd5, _⟩ | ⟨rfl, _⟩)⟩
    · exfalso
      have h8 := HENC.out.dec.head
      have hh : (bs ++ [x]).head? = some 2 := by
        cases bs with
        | nil => simp at h8
        | cons a r => exact h8
      exact absurd (Dec2.inj h2 HENC.out.dec (hd5 hh)).1 (by simp)
    · have HO5 := Lib.hid (HO4.out.trans ho5 (fun _ hf _ => hf))
      clear ho5
      go_wp2_with fail
      go_ret
      exact ⟨rfl, HO5.out.new⟩
  · exact absurd HENC.out.dec (hno p _ h2 h1)
end Go.Proofs.YtoegfdndoeiolaaDoor
