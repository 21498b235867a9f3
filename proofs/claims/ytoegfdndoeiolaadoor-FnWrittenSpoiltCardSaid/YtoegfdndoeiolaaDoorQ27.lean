/- Walks and plain laws, one behind the other (MergeS, MergeDa, MergeDb, LawJoined); their conditions stand at each. -/
import Derived.Test.YtoegfdndoeiolaaDoorQ26

/- Walks: a sparse sketch is merged into a sparse one. Conditions: both are sketches in use, of the same number of bits, and share no block. -/
namespace Go.Proofs.YtoegfdndoeiolaaDoor
open Go.RowKit

/-- 'Add', whatever it finds: the keys behind it. -/
theorem Add_k (T M k : Nat) (v : Value) (K : List Nat) (w : World) (h : USet w T v M K) (hk : k < 4294967296) (hl : K.length < 1099511627776) :
    Calls Tryd.prog 97 #[.pointer (some ⟨T, 0, none⟩), .int .u32 k] w fun e w' => ∃ b v' K', e = .returned (.bool b) ∧ USet w' T v' M K' ∧ (∀ c, c ∈ K' ↔ c ∈ K ∨ c = k) ∧ K'.length ≤ K.length + 1 ∧ Only (fun b => b = T ∨ b = M ∨ v.ownBlock = some b) w w' ∧ Lies w v v' := by
  refine (Add_any T M k v K w h hk hl).mono ?_
  rintro e w' (⟨hin, rfl, rfl⟩ | ⟨hn, rfl, v', hs, ho, hl⟩)
  · exact ⟨false, v, K, rfl, h, fun c => ⟨.inl, fun h => h.elim id (fun e => e ▸ hin)⟩, by omega, Only.refl _ _, Lies.refl _ _⟩
  · exact ⟨true, v', K ++ [k], rfl, hs, fun c => by simp, by simp, ho, hl⟩
theorem add_k (T M k : Nat) (v : Value) (K : List Nat) (w : World) (h : USet w T v M K) (hk : k < 4294967296) (hl : K.length < 1099511627776) :
    Calls Tryd.prog 70 #[.agg #[.pointer (some ⟨T, 0, none⟩)], .int .u32 k] w fun e w' => ∃ b v' K', e = .returned (.bool b) ∧ USet w' T v' M K' ∧ (∀ c, c ∈ K' ↔ c ∈ K ∨ c = k) ∧ K'.length ≤ K.length + 1 ∧ Only (fun b => b = T ∨ b = M ∨ v.ownBlock = some b) w w' ∧ Lies w v v' := by
  refine (add_any T M k v K w h hk hl).mono ?_
  rintro e w' (⟨hin, rfl, hs, ho⟩ | ⟨hn, rfl, v', hs, ho, hl⟩)
  · exact ⟨false, v, K, rfl, hs, fun c => ⟨.inl, fun h => h.elim id (fun e => e ▸ hin)⟩, by omega, ho.mono (fun _ hf _ => hf.elim), Lies.refl _ _⟩
  · exact ⟨true, v', K ++ [k], rfl, hs, fun c => by simp, by simp, ho, hl⟩

theorem mergeStep_any (T M x k : Nat) (v : Value) (K : List Nat) (w : World) (hx : w.cell? ⟨x, 0, none⟩ = some (.pointer (some ⟨T, 0, none⟩))) (h : USet w T v M K) (hk : k < 4294967296) (hl : K.length < 1099511627776) :
    Calls Tryd.prog 108 #[.int .u32 (k : Nat), .pointer (some ⟨x, 0, none⟩)] w fun e w' => e = .returned (.bool true) ∧ ∃ v' K', USet w' T v' M K' ∧ (∀ c, c ∈ K' ↔ c ∈ K ∨ c = k) ∧ K'.length ≤ K.length + 1 ∧ Only (fun b => b = T ∨ b = M ∨ v.ownBlock = some b) w w' ∧ Lies w v v' := by
  have HA := Lib.hid (Add_k T M k v K w h hk hl)
  clear h
  go_enter Tryd.func108, Tryd.ntmps108
  go_wp2_with fail
  refine HA.out.mono ?_
  rintro e w1 ⟨b, v', K', rfl, hx⟩
  go_wp2_with fail
  go_ret
  exact ⟨rfl, v', K', hx⟩

/-- Where a set's blocks are. -/
def InSet (T M : Nat) (v : Value) (b : Nat) : Prop := b = T ∨ b = M ∨ v.ownBlock = some b
/-- Keys added to a set, one after the other: what is kept. -/
structure Added (w : World) (T M : Nat) (v : Value) (K ks : List Nat) (w' : World) (v' : Value) (K' : List Nat) : Prop where
  set : USet w' T v' M K'
  mem : ∀ c, c ∈ K' ↔ c ∈ K ∨ c ∈ ks
  len : K'.length ≤ K.length + ks.length
  only : Only (InSet T M v) w w'
  lies : Lies w v v'
theorem Added.refl {w : World} {T M : Nat} {v : Value} {K : List Nat} (h : USet w T v M K) : Added w T M v K [] w v K := ⟨h, fun c => by simp, by simp, Only.refl _ _, Lies.refl _ _⟩
theorem Added.one {w w1 w2 : World} {T M k : Nat} {v v1 v2 : Value} {K ks K1 K2 : List Nat} (h : Added w T M v K ks w1 v1 K1) (hs : USet w2 T v2 M K2) (hm : ∀ c, c ∈ K2 ↔ c ∈ K1 ∨ c = k) (hl : K2.length ≤ K1.length + 1) (ho : Only (fun b => b = T ∨ b = M ∨ v1.ownBlock = some b) w1 w2) (hli : Lies w1 v1 v2) : Added w T M v K (ks ++ [k]) w2 v2 K2 :=
  ⟨hs, fun c => by rw [hm, h.mem]; simp [or_assoc], by have := h.len; rw [List.length_append]; simp only [List.length_singleton]; omega, h.only.trans ho (by
    rintro b (e | e | e) hlt
    · exact .inl e
    · exact .inr (.inl e)
    · rcases h.lies with e1 | ⟨g, e1, hge⟩
      · exact .inr (.inr (by rw [← e1]; exact e))
      · rw [e] at e1; injection e1 with e1; omega), h.lies.trans h.only.size hli⟩
theorem Added.same {w w1 w2 : World} {T M : Nat} {v v1 : Value} {K ks K1 : List Nat} (h : Added w T M v K ks w1 v1 K1) (ho : Only (fun _ => False) w1 w2) : Added w T M v K ks w2 v1 K1 :=
  ⟨h.set.only ho (fun hf => hf) (fun _ _ hf => hf) (fun hf => hf), h.mem, h.len, h.only.trans ho (fun _ hf _ => hf.elim), h.lies⟩
theorem Added.far {X : Nat → Prop} {w w1 w2 : World} {T M : Nat} {v v1 : Value} {K ks K1 : List Nat} (h : Added w T M v K ks w1 v1 K1) (ho : Only X w1 w2) (hT : T < w.heap.size) (hM : M < w.heap.size) (hv : ∀ g, v.ownBlock = some g → g < w.heap.size) (hX : ∀ b, X b → w.heap.size ≤ b) (hX2 : ∀ g, v1.ownBlock = some g → ¬ X g) : Added w T M v K ks w2 v1 K1 :=
  ⟨h.set.only ho (fun e => by have := hX _ e; omega) hX2 (fun e => by have := hX _ e; omega), h.mem, h.len, h.only.trans ho (fun b hb hlt => by have := hX _ hb; omega), h.lies⟩

set_option maxHeartbeats 400000 in
theorem sMerge_any (T M T2 M2 : Nat) (v v2 : Value) (K K2 : List Nat) (w : World) (h : USet w T v M K) (h2 : USet w T2 v2 M2 K2) (hd : ∀ b, InSet T M v b → ¬ InSet T2 M2 v2 b) (hl : K.length + K2.length < 1099511627776) :
    Calls Tryd.prog 98 #[.agg #[.pointer (some ⟨T, 0, none⟩)], .agg #[.pointer (some ⟨T2, 0, none⟩)]] w fun e w' => e = .returned (.tuple #[]) ∧ ∃ v' K', Added w T M v K K2 w' v' K' := by
  have hmf := hmf
  obtain ⟨w2, hw2⟩ : ∃ w2, w2 = (w.alloc (.cells #[.pointer (some ⟨T, 0, none⟩)] 71)).alloc (.cells #[.pointer (some ⟨T2, 0, none⟩)] 71) := ⟨_, rfl⟩
  have ho : Only (fun _ => False) w w2 := by rw [hw2]; exact ((Only.refl _ w).alloc _).alloc _
  have hx2 : Blk w2 w.heap.size 71 #[.pointer (some ⟨T, 0, none⟩)] := by rw [hw2]; exact (Blk.new w _ _).alloc _
  have hTl := h.blk.lt
  have hMl := h.map.lt
  have hvl := h.row.lt
  have HF := Lib.hid (ForEachMerge_any T2 M2 v2 K2 w2 (.pointer (some ⟨w.heap.size, 0, none⟩)) (fun i W => ∃ v' K', Added w T M v K (K2.take i) W v' K' ∧ Blk W w.heap.size 71 #[.pointer (some ⟨T, 0, none⟩)])
    (h2.only ho (fun hf => hf) (fun _ _ hf => hf) (fun hf => hf)) ⟨v, K, by rw [List.take_zero]; exact (Added.refl h).same ho, hx2⟩ (by omega)
    (by
      rintro i W ⟨v', K', ha, _⟩ _
      exact h2.only ha.only (fun e => hd _ e (.inl rfl)) (fun g hg e => hd _ e (.inr (.inr hg))) (fun e => hd _ e (.inr (.inl rfl))))
    (by
      rintro i W hi ⟨v', K', ha, hb⟩
      have hlen := ha.len
      rw [List.length_take] at hlen
      refine (mergeStep_any T M w.heap.size (K2.getD i 0) v' K' W (hb.cell 0) ha.set (h2.lt _ (mem_getD hi)) (by omega)).mono ?_
      rintro e w' ⟨rfl, v3, K3, hs3, hm3, hl3, ho3, hli3⟩
      refine ⟨rfl, v3, K3, by rw [list_take_succ K2 i hi]; exact ha.one hs3 hm3 hl3 ho3 hli3, hb.only ho3 ?_⟩
      rintro (e | e | e)
      · exact ha.set.blk.ne_ hb (by decide) e.symm
      · exact ha.set.map.ne hb e.symm
      · exact ha.set.row.blk_ne hb (by decide) e))
  have HW2 := Lib.hid hw2
  clear h h2 hd ho hx2 hw2 hvl
  go_enter Tryd.func98, Tryd.ntmps98
  go_wp2_with (go_at_call 87; rw [← HW2.out]; refine HF.out.mono ?_; rintro e w3 ⟨rfl, v', K', ha, _⟩)
  rw [List.take_length] at ha
  go_end0
  exact ⟨rfl, v', K', ha⟩

set_option maxHeartbeats 1000000 in
set_option maxRecDepth 100000 in
theorem mergeSparseSketch_any (S S2 p : Nat) (t t2 : List Nat) (F F2 : Nat → Prop) (w : World) (h : SkS w S p t True F) (h2 : SkS w S2 p t2 True F2) (h1p : 4 ≤ p) (h2p : p ≤ 18) (hFS : F S) (hFlt : ∀ b, F b → b < w.heap.size) (hd : ∀ b, F b → ¬ F2 b) (hF2S : F2 S2) :
    Calls Tryd.prog 65 #[.pointer (some ⟨S, 0, none⟩), .pointer (some ⟨S2, 0, none⟩)] w fun e w' => e = .returned (.tuple #[]) ∧ Turns w S p (pmax t t2) True F w' := by
  have hpb := pow_bounds h1p h2p
  obtain ⟨al, T, M, v, K, L, u, ks, hs, hfit, rfl, hFT, hFM, hFL, hFv, hFu⟩ := h
  obtain ⟨al2, T2, M2, v2, K2, L2, u2, ks2, hs2, hfit2, rfl, hFT2, hFM2, hFL2, hFv2, hFu2⟩ := h2
  have hlv := hfit.live trivial
  have hlv2 := hfit2.live trivial
  have hkl2 : ks2.length ≤ 262144 := by have := enc_length_le ks2 0; omega
  obtain ⟨t0, ht0⟩ : ∃ t0, t0 = pmax (table p ((K ++ ks).map (kv p))) (table p ((K2 ++ ks2).map (kv p))) := ⟨_, rfl⟩
  rw [← ht0]
  have hHF : Hid (∀ b, InSet T M v b → F b) := by
    rintro b (rfl | rfl | e)
    · exact hFT
    · exact hFM
    · exact hFv b e
  have hHF2 : ∀ b, InSet T2 M2 v2 b → F2 b := by
    rintro b (rfl | rfl | e)
    · exact hFT2
    · exact hFM2
    · exact hFv2 b e
  have hwd : Only (fun _ => False) w w.drew := (Only.refl _ w).drew
  have hsd : Sparse w.drew S p al T M v K L u ks := hs.only hwd (fun hf => hf) (fun hf => hf) (fun hf => hf) (fun _ _ hf => hf) (fun hf => hf) (fun _ _ hf => hf)
  have hs2d : Sparse w.drew S2 p al2 T2 M2 v2 K2 L2 u2 ks2 := hs2.only hwd (fun hf => hf) (fun hf => hf) (fun hf => hf) (fun _ _ hf => hf) (fun hf => hf) (fun _ _ hf => hf)
  have HM := Lib.hid (sMerge_any T M T2 M2 v v2 K K2 w.drew hsd.set hs2d.set (fun b hb hb2 => hd b (hHF.out b hb) (hHF2 b hb2)) (by omega))
  have hSn : Hid (∀ b, InSet T M v b → b ≠ S) := by
    rintro b (rfl | rfl | e) rfl
    · exact hs.set.blk.ne_ hs.blk (by decide) rfl
    · exact hs.set.map.ne hs.blk rfl
    · exact hs.set.row.blk_ne hs.blk (by decide) e
  have c3 : w.cell? ⟨S, 3, none⟩ = some (.pointer (some ⟨T, 0, none⟩)) := hs.blk.cell 3
  have d3 : w.cell? ⟨S2, 3, none⟩ = some (.pointer (some ⟨T2, 0, none⟩)) := hs2.blk.cell 3
  have HSD := Lib.hid hsd
  have HS2D : Hid (∀ W, Only (InSet T M v) w.drew W → SkB W S2 p al2 (.pointer (some ⟨T2, 0, none⟩)) (.pointer (some ⟨L2, 0, none⟩)) (.slice none 0 0) ∧ CList W L2 u2 ks2) := fun W hW =>
    ⟨Blk.only hs2d.blk hW (fun e => hd _ (hHF.out _ e) hF2S), hs2d.list.only hW (fun e => hd _ (hHF.out _ e) hFL2) (fun g hg e => hd _ (hHF.out _ e) (hFu2 g hg))⟩
  have HFIT := Lib.hid hfit
  have HFIT2 := Lib.hid hfit2
  have HT0 := Lib.hid ht0
  have HF : Hid (F S ∧ F T ∧ F M ∧ F L ∧ (∀ g, v.ownBlock = some g → F g) ∧ (∀ g, u.ownBlock = some g → F g) ∧ ∀ b, F b → b < w.heap.size) := ⟨hFS, hFT, hFM, hFL, hFv, hFu, hFlt⟩
  have hTl : T < w.heap.size := hs.set.blk.lt
  have hMl : M < w.heap.size := hs.set.map.lt
  have hvl : Hid (∀ g, v.ownBlock = some g → g < w.heap.size) := hs.set.row.lt
  have hkey2 : Hid (∀ t, t < ks2.length → ks2.getD t 0 < 4294967296) := fun t ht => hfit2.valid.keys.2.1 _ (mem_getD ht)
  have hSlt : S < w.heap.size := Blk.lt hs.blk
  clear hs hs2 hfit hfit2 ht0 hFS hFT hFM hFL hFv hFu hFlt hFT2 hFM2 hFL2 hFv2 hFu2 hF2S hd hwd hsd hs2d hHF2
  go_enter Tryd.func65, Tryd.ntmps65
  go_wp2_with fail
  go_region_held3 (fun w' => w'.cell? ⟨S, 3, none⟩ = some (.pointer (some ⟨T, 0, none⟩)) ∧ w'.cell? ⟨S2, 3, none⟩ = some (.pointer (some ⟨T2, 0, none⟩)))
    (first | go_keep | exact ⟨k3, m3⟩)
    (first
      | (go_at_call 98; refine HM.out.mono ?_; rintro e w1 ⟨rfl, v1, K1, ha⟩
         have HA1 := Lib.hid ha
         have k3 : w1.cell? ⟨S, 3, none⟩ = some (.pointer (some ⟨T, 0, none⟩)) := (Blk.only HSD.out.blk ha.only (fun e => hSn.out _ e rfl)).cell 3
         have m3 : w1.cell? ⟨S2, 3, none⟩ = some (.pointer (some ⟨T2, 0, none⟩)) := (HS2D.out w1 ha.only).1.cell 3
         clear ha)
      | fail)
  have m4 : w1.cell? ⟨S2, 4, none⟩ = some (.pointer (some ⟨L2, 0, none⟩)) := (HS2D.out w1 HA1.out.only).1.cell 4
  go_wp2_with fail
  refine (Iter_any L2 w1).mono ?_
  rintro e w2 ⟨rfl, ho2⟩
  have ha2 := HA1.out.same ho2
  have hit0 := ItInv.start (HS2D.out w2 ha2.only).2 HFIT2.out.valid.keys
  have hal : Only (fun _ => False) w2 (w2.alloc (.cells #[.int .i64 (at_ [] : Nat), .int .u32 (lastOr 0 [] : Nat), .pointer (some ⟨L2, 0, none⟩)] 82)) := (Only.refl _ w2).alloc _
  have HA2 := Lib.hid (ha2.same hal)
  have HI0 := Lib.hid hit0
  have hws : w.heap.size ≤ w2.heap.size := by have := ha2.only.size; exact this
  clear ha2 hit0 hal ho2 c3 d3 m4
  go_wp2_with fail
  go_loopg [4] ks2.length (fun g4 s4 wr => ∃ t I v1 K1, g4 + t = ks2.length ∧ s4 = .pointer (some ⟨I, 0, none⟩) ∧ w.heap.size ≤ I ∧ Hid (ItInv wr L2 I u2 ks2 t) ∧ Hid (Added w.drew T M v K (K2 ++ ks2.take t) wr v1 K1))
  case atStart => exact ⟨0, w2.heap.size, v1, K1, by omega, rfl, hws, HI0.out, by rw [List.take_zero, List.append_nil]; exact HA2.out⟩
  case round =>
    obtain ⟨t, I, vr, Kr, hg, rfl, hI, HIT, HAD⟩ := hrel
    obtain ⟨a0, b0, e0⟩ := HIT.out.cells
    by_cases ht : t < ks2.length
    · have HN1 := Lib.hid (hasNext_i HIT.out (Nat.le_of_lt ht))
      rw [decide_eq_true ht] at HN1
      obtain ⟨k, hkk⟩ : ∃ k, ks2.getD t 0 = k := ⟨_, rfl⟩
      have hk32 : k < 4294967296 := by rw [← hkk]; exact hkey2.out t ht
      go_wp2_with fail
      refine HN1.out.mono ?_
      rintro e wa ⟨rfl, hoa⟩
      have HADa := Lib.hid (HAD.out.same hoa)
      have HITa := Lib.hid (HIT.out.same hoa)
      have ka : wa.cell? ⟨S, 3, none⟩ = some (.pointer (some ⟨T, 0, none⟩)) := (Blk.only HSD.out.blk HADa.out.only (fun e => hSn.out _ e rfl)).cell 3
      have HNX : Hid (Calls Tryd.prog 50 #[.pointer (some ⟨I, 0, none⟩)] wa.drew fun e w' => e = .returned (.int .u32 (k : Nat)) ∧ ItInv w' L2 I u2 ks2 (t + 1) ∧ Only (fun b => b = I) wa.drew w') := by
        have h := next_i (HITa.out.same ((Only.refl _ wa).drew)) ht
        rw [hkk] at h
        exact h
      have hlenA := HADa.out.len
      rw [List.length_append, List.length_take] at hlenA
      have hKr : Kr.length < 1099511627776 := by omega
      have HTK : Hid (K2 ++ ks2.take (t + 1) = (K2 ++ ks2.take t) ++ [k]) := by
        show _ = _
        rw [list_take_succ ks2 t ht, hkk, List.append_assoc]
      clear hoa hlenA
      go_wp2_with fail
      go_region_held3 (fun w' => w'.cell? ⟨S, 3, none⟩ = some (.pointer (some ⟨T, 0, none⟩)))
        (first | go_keep | exact kb | exact kc)
        (first
          | (go_at_call 50; refine HNX.out.mono ?_; rintro e wb ⟨rfl, hib, hob⟩
             have hob' : Only (fun b => b = I) wa wb := ((Only.refl (fun b => b = I) wa).drew).trans hob (fun b hb _ => hb)
             have HADb := Lib.hid (HADa.out.far hob' hTl hMl (fun g hg => hvl.out g hg) (fun b hb => by rw [hb]; exact hI) (fun g hg e => HADa.out.set.row.blk_ne HITa.out.at_ (by decide) (by rw [hg, e])))
             have HITb := Lib.hid hib
             have kb : wb.cell? ⟨S, 3, none⟩ = some (.pointer (some ⟨T, 0, none⟩)) := (Blk.only HSD.out.blk HADb.out.only (fun e => hSn.out _ e rfl)).cell 3
             have HAK := Lib.hid (add_k T M k vr Kr wb HADb.out.set hk32 hKr)
             clear hib hob hob')
          | (go_at_call 70; refine HAK.out.mono ?_; rintro e wc ⟨b, v3, K3, rfl, hs3, hm3, hl3, ho3, hli3⟩
             have HADc := Lib.hid (HADb.out.one hs3 hm3 hl3 ho3 hli3)
             have HITc := Lib.hid (HITb.out.only ho3 (by
               rintro (e | e | e)
               · exact HADb.out.set.blk.ne_ HITb.out.at_ (by decide) e.symm
               · exact HADb.out.set.map.ne HITb.out.at_ e.symm
               · exact HADb.out.set.row.blk_ne HITb.out.at_ (by decide) e) (by
               rintro (e | e | e)
               · exact HADb.out.set.blk.ne_ HITb.out.list.1 (by decide) e.symm
               · exact HADb.out.set.map.ne HITb.out.list.1 e.symm
               · exact HADb.out.set.row.blk_ne HITb.out.list.1 (by decide) e) (by
               rintro g hg (e | e | e)
               · exact HITb.out.list.2.1.blk_ne HADb.out.set.blk (by decide) (by rw [hg, e])
               · exact HADb.out.set.map.row_ne HITb.out.list.2.1 (by rw [hg, e])
               · exact HITb.out.list.2.1.row_ne HADb.out.set.row (by decide) g hg e))
             have kc : wc.cell? ⟨S, 3, none⟩ = some (.pointer (some ⟨T, 0, none⟩)) := (Blk.only HSD.out.blk HADc.out.only (fun e => hSn.out _ e rfl)).cell 3
             clear hs3 hm3 hl3 ho3 hli3)
          | fail)
      obtain ⟨a5, b5, e5⟩ := HITc.out.cells
      go_wp2_with fail
      go_roundg (ks2.length - (t + 1))
      case measure => omega
      case rel =>
        have hal : Only (fun _ => False) wc (wc.alloc (.cells #[.int .i64 (at_ (ks2.take (t + 1)) : Nat), .int .u32 (lastOr 0 (ks2.take (t + 1)) : Nat), .pointer (some ⟨L2, 0, none⟩)] 82)) := (Only.refl _ wc).alloc _
        refine ⟨t + 1, wc.heap.size, v3, K3, by omega, rfl, ?_, HITc.out.again, ?_⟩
        · have := HADc.out.only.size
          exact this
        · rw [HTK.out]
          exact HADc.out.same hal
    · have htk : ks2.take t = ks2 := List.take_of_length_le (by omega)
      have HADn : Hid (Added w.drew T M v K (K2 ++ ks2) wr vr Kr) := by
        have := HAD.out
        rw [htk] at this
        exact this
      have HN1 := Lib.hid (hasNext_i HIT.out (by omega))
      rw [decide_eq_false ht] at HN1
      clear ht htk
      go_wp2_with fail
      refine HN1.out.mono ?_
      rintro e wa ⟨rfl, hoa⟩
      have hA := HADn.out.same hoa
      obtain ⟨f1, f2, f3, f4, f5, f6, f7⟩ := HF.out
      have hdw : Only (fun _ => False) w w.drew := (Only.refl _ w).drew
      have hoF : Only F w wa := (hdw.mono (fun _ hf _ => hf.elim)).trans hA.only (fun b hb _ => hHF.out b hb)
      have hsp : Sparse wa S p al T M vr Kr L u ks := by
        refine ⟨Blk.only HSD.out.blk hA.only (fun e => hSn.out _ e rfl), hA.set, HSD.out.list.only hA.only ?_ ?_⟩
        · rintro (e | e | e)
          · exact HSD.out.set.blk.ne_ HSD.out.list.1 (by decide) e.symm
          · exact HSD.out.set.map.ne HSD.out.list.1 e.symm
          · exact HSD.out.set.row.blk_ne HSD.out.list.1 (by decide) e
        · rintro g hg (e | e | e)
          · exact HSD.out.list.2.1.blk_ne HSD.out.set.blk (by decide) (by rw [hg, e])
          · exact HSD.out.set.map.row_ne HSD.out.list.2.1 (by rw [hg, e])
          · exact HSD.out.list.2.1.row_ne HSD.out.set.row (by decide) g hg e
      have hlen := hA.len
      rw [List.length_append] at hlen
      have hsz := hoF.size
      have hvr : ∀ g, vr.ownBlock = some g → F g ∨ w.heap.size ≤ g := by
        intro g hg
        rcases hA.lies with e | ⟨g', e, hge⟩
        · exact .inl (f5 g (by rw [← e]; exact hg))
        · rw [hg] at e; injection e with e
          have e2 : w.drew.heap.size = w.heap.size := rfl
          exact .inr (by omega)
      have hokr : ∀ k ∈ Kr, okKey k p := fun k hk => by
        rcases (hA.mem k).1 hk with h | h
        · exact HFIT.out.okK k h
        · rcases List.mem_append.1 h with h | h
          · exact HFIT2.out.okK k h
          · exact HFIT2.out.valid.2.1 k h
      have htab : table p ((Kr ++ ks).map (kv p)) = t0 := by
        rw [HT0.out, pmax_table, ← List.map_append]
        refine table_congr fun q => ?_
        rw [List.mem_map, List.mem_map]
        constructor
        · rintro ⟨k, hk, rfl⟩
          refine ⟨k, ?_, rfl⟩
          rcases List.mem_append.1 hk with h | h
          · rcases (hA.mem k).1 h with h | h
            · simp [h]
            · rcases List.mem_append.1 h with h | h <;> simp [h]
          · simp [h]
        · rintro ⟨k, hk, rfl⟩
          refine ⟨k, ?_, rfl⟩
          rcases List.mem_append.1 hk with h | h
          · rcases List.mem_append.1 h with h | h
            · exact List.mem_append.2 (.inl ((hA.mem k).2 (.inl h)))
            · exact List.mem_append.2 (.inr h)
          · exact List.mem_append.2 (.inl ((hA.mem k).2 (.inr h)))
      have HMT := Lib.hid (maybeToNormal_any S p al T M L vr u Kr ks wa (Grown F w wa) hsp h1p h2p hokr HFIT.out.valid hlv.2 (by omega)
        ⟨by have := f7 S f1; omega, .inl f1⟩ ⟨by have := f7 T f2; omega, .inl f2⟩ ⟨by have := f7 M f3; omega, .inl f3⟩ ⟨by have := f7 L f4; omega, .inl f4⟩ (fun g hg => ⟨hA.set.row.lt g hg, hvr g hg⟩) (fun g hg => ⟨by have := f7 g (f6 g hg); omega, .inl (f6 g hg)⟩) (fun b hb => hb.1))
      rw [htab] at HMT
      have HOF := Lib.hid hoF
      clear hA hsp hoF hdw f1 f2 f3 f4 f5 f6 f7 hvr hokr htab hlen hoa
      go_wp2_with fail
      refine HMT.out.mono ?_
      rintro e wd ⟨rfl, hT⟩
      go_wp2_with fail
      go_end0
      exact ⟨rfl, Turns.trans HOF.out (fun b hb => hb.2) hT⟩
end Go.Proofs.YtoegfdndoeiolaaDoor

/- Walks: a sketch is merged into a dense one, or into one that is made dense. Conditions: both are sketches in use, of the same number of bits, and share no block. -/
namespace Go.Proofs.YtoegfdndoeiolaaDoor
open Go.RowKit

/-- Keys put into registers, one after the other. -/
def upk (p : Nat) (r : List Nat) (K : List Nat) : List Nat := K.foldl (fun r k => up r (decIdx k p) (decVal k p)) r
theorem upk_snoc (p : Nat) (r K : List Nat) (k : Nat) : upk p r (K ++ [k]) = up (upk p r K) (decIdx k p) (decVal k p) := by simp [upk]
theorem upk_append (p : Nat) (r K K2 : List Nat) : upk p r (K ++ K2) = upk p (upk p r K) K2 := by simp [upk]
theorem upk_length (p : Nat) (r K : List Nat) : (upk p r K).length = r.length := by
  induction K generalizing r with
  | nil => rfl
  | cons k K ih => show (upk p (up r _ _) K).length = _; rw [ih, up_length]
theorem upk_get (p : Nat) (r K : List Nat) (i : Nat) (h : i < r.length) : (upk p r K).getD i 0 = max (r.getD i 0) (reg (K.map (kv p)) i) := by
  induction K generalizing r with
  | nil => show r.getD i 0 = max (r.getD i 0) 0; omega
  | cons k K ih =>
    show (upk p (up r (decIdx k p) (decVal k p)) K).getD i 0 = _
    rw [ih _ (by rw [up_length]; exact h), up_get _ _ _ _ h, List.map_cons]
    show _ = max _ (if (kv p k).1 = i then max (kv p k).2 (reg (K.map (kv p)) i) else reg (K.map (kv p)) i)
    have e1 : (kv p k).1 = decIdx k p := rfl
    have e2 : (kv p k).2 = decVal k p := rfl
    rw [e1, e2]
    split <;> omega
theorem upk_pmax (p : Nat) (r K : List Nat) (h : r.length = 2 ^ p) : upk p r K = pmax r (table p (K.map (kv p))) := by
  have hl : r.length = (table p (K.map (kv p))).length := by rw [table_length, h]
  apply list_ext_getD
  · rw [upk_length, pmax_length hl]
  · intro i hi
    rw [upk_length] at hi
    rw [upk_get p r K i hi, pmax_get hi (by rw [← hl]; exact hi), table_get p _ i (by rw [← h]; exact hi)]
theorem upk_byte {p : Nat} {r K : List Nat} (h : ∀ v ∈ r, v < 256) : ∀ v ∈ upk p r K, v < 256 := by
  induction K generalizing r with
  | nil => exact h
  | cons k K ih =>
    refine ih (r := up r (decIdx k p) (decVal k p)) fun v hv => ?_
    unfold up at hv
    rcases List.mem_or_eq_of_mem_set hv with h1 | rfl
    · exact h v h1
    · have := decVal_lt k p
      have := getD_lt h (show 0 < 256 by omega) (decIdx k p)
      omega
theorem pmax_le {r s : List Nat} {b : Nat} (h1 : ∀ v ∈ r, v ≤ b) (h2 : ∀ v ∈ s, v ≤ b) : ∀ v ∈ pmax r s, v ≤ b := by
  intro v hv
  unfold pmax at hv
  obtain ⟨i, hi, rfl⟩ := List.getElem_of_mem hv
  rw [List.length_zipWith] at hi
  rw [List.getElem_zipWith]
  have a1 := h1 _ (List.getElem_mem (show i < r.length by omega))
  have a2 := h2 _ (List.getElem_mem (show i < s.length by omega))
  omega

theorem each2_any (k x : Nat) (c1 c2 : Value) (Post : World → Prop) (w : World) (hx : w.cell? ⟨x, 0, none⟩ = some (.func (.func 99) #[] #[c1, c2]))
    (hc : Calls Tryd.prog 99 #[.int .u32 (k : Nat), c1, c2] w fun e w' => e = .returned (.tuple #[]) ∧ Post w') :
    Calls Tryd.prog 88 #[.int .u32 (k : Nat), .pointer (some ⟨x, 0, none⟩)] w fun e w' => e = .returned (.bool true) ∧ Post w' := by
  have HC := Lib.hid hc
  clear hc
  go_enter Tryd.func88, Tryd.ntmps88
  go_wp2_with (go_at_call 99; refine HC.out.mono ?_; rintro e w1 ⟨rfl, hp⟩)
  go_ret
  exact ⟨rfl, hp⟩

set_option maxHeartbeats 400000 in
theorem sForEach2_any (T M : Nat) (v : Value) (K : List Nat) (w : World) (c1 c2 : Value) (Inv : Nat → World → Prop) (h : USet w T v M K) (h0 : ∀ W, Only (fun _ => False) w W → Inv 0 W) (hl : K.length < 1099511627776)
    (hset : ∀ i W, Inv i W → i ≤ K.length → USet W T v M K)
    (hstep : ∀ i W, i < K.length → Inv i W → Calls Tryd.prog 99 #[.int .u32 (K.getD i 0 : Nat), c1, c2] W fun e w' => e = .returned (.tuple #[]) ∧ Inv (i + 1) w' ∧ ∀ x cs, Blk W x 86 cs → Blk w' x 86 cs) :
    Calls Tryd.prog 59 #[.agg #[.pointer (some ⟨T, 0, none⟩)], .func (.func 99) #[] #[c1, c2]] w fun e w' => e = .returned (.tuple #[]) ∧ Inv K.length w' := by
  have hmf := hmf
  obtain ⟨w2, hw2⟩ : ∃ w2, w2 = (w.alloc (.cells #[.pointer (some ⟨T, 0, none⟩)] 71)).alloc (.cells #[.func (.func 99) #[] #[c1, c2]] 86) := ⟨_, rfl⟩
  have ho : Only (fun _ => False) w w2 := by rw [hw2]; exact ((Only.refl _ w).alloc _).alloc _
  have hbf : Blk w2 (w.heap.size + 1) 86 #[.func (.func 99) #[] #[c1, c2]] := by
    have := Blk.new (w.alloc (.cells #[.pointer (some ⟨T, 0, none⟩)] 71)) 86 #[.func (.func 99) #[] #[c1, c2]]
    rw [show (w.alloc (.cells #[.pointer (some ⟨T, 0, none⟩)] 71)).heap.size = w.heap.size + 1 from by simp] at this
    rw [hw2]
    exact this
  have HF := Lib.hid (ForEachEach_any T M v K w2 (.pointer (some ⟨w.heap.size + 1, 0, none⟩)) (fun i W => Inv i W ∧ Blk W (w.heap.size + 1) 86 #[.func (.func 99) #[] #[c1, c2]])
    (h.only ho (fun hf => hf) (fun _ _ hf => hf) (fun hf => hf)) ⟨h0 _ ho, hbf⟩ hl (fun i W hi hle => hset i W hi.1 hle)
    (fun i W hlt hi => each2_any _ _ c1 c2 _ W (hi.2.cell 0) ((hstep i W hlt hi.1).mono fun e w' ⟨he, h1, h2⟩ => ⟨he, h1, h2 _ _ hi.2⟩)))
  have HW2 := Lib.hid hw2
  clear h h0 hset hstep ho hbf hw2
  go_enter Tryd.func59, Tryd.ntmps59
  go_wp2_with (go_at_call 87; rw [← HW2.out]; refine HF.out.mono ?_; rintro e w3 ⟨rfl, hi3, _⟩)
  go_end0
  exact ⟨rfl, hi3⟩

/-- A key of the other sketch raises a register. -/
theorem denseStep_any (x y S S2 p al k : Nat) (rv : Value) (r : List Nat) (w : World) (hx : Blk w x 57 #[.pointer (some ⟨S, 0, none⟩)]) (hy : Blk w y 57 #[.pointer (some ⟨S2, 0, none⟩)]) (h0 : w.cell? ⟨S2, 0, none⟩ = some (.int .u8 (p : Int)))
    (hb : SkB w S p al (.pointer none) (.pointer none) rv) (hr : Row w 5 .u8 rv r) (hl : r.length = 2 ^ p) (h256 : ∀ v ∈ r, v < 256) (hk : k < 4294967296) (h1 : 4 ≤ p) (h2 : p ≤ 18) :
    Calls Tryd.prog 99 #[.int .u32 (k : Nat), .pointer (some ⟨y, 0, none⟩), .pointer (some ⟨x, 0, none⟩)] w fun e w' => e = .returned (.tuple #[]) ∧ Row w' 5 .u8 rv (up r (decIdx k p) (decVal k p)) ∧ Only (fun b => rv.ownBlock = some b) w w' := by
  have hpb := pow_bounds h1 h2
  have cx := hx.cell 0
  have cy := hy.cell 0
  have HI := Lib.hid (insert_any S p al (decIdx k p) (decVal k p) _ _ rv r w hb hr (by rw [hl]; exact decIdx_lt k p) (by have := decVal_lt k p; omega) h256 (by omega))
  clear hx hy hb hr hl h256
  go_enter Tryd.func99, Tryd.ntmps99
  go_wp2_with fail
  refine (decodeHash_any k p _ hk h1 h2).mono ?_
  rintro e w1 ⟨rfl, rfl⟩
  go_wp2_with fail
  refine HI.out.mono ?_
  rintro e w1 ⟨rfl, hr, ho⟩
  go_wp2_with fail
  go_end0
  exact ⟨rfl, hr, ho⟩

/-- Registers merged up to the i-th. -/
def pmx (p : Nat) (t t2 : List Nat) (i : Nat) : List Nat := (List.range (2 ^ p)).map fun j => if j < i then max (t.getD j 0) (t2.getD j 0) else t.getD j 0
theorem pmx_length (p : Nat) (t t2 : List Nat) (i : Nat) : (pmx p t t2 i).length = 2 ^ p := by simp [pmx]
theorem pmx_get (p : Nat) (t t2 : List Nat) (i j : Nat) (h : j < 2 ^ p) : (pmx p t t2 i).getD j 0 = if j < i then max (t.getD j 0) (t2.getD j 0) else t.getD j 0 := by
  unfold pmx
  rw [List.getD_eq_getElem?_getD, List.getElem?_map, List.getElem?_range h]
  rfl
theorem pmx_zero (p : Nat) (t t2 : List Nat) (h : t.length = 2 ^ p) : pmx p t t2 0 = t := by
  apply list_ext_getD
  · rw [pmx_length, h]
  · intro j hj
    rw [pmx_length] at hj
    rw [pmx_get p t t2 0 j hj, if_neg (by omega)]
theorem pmx_last (p : Nat) (t t2 : List Nat) (h : t.length = 2 ^ p) (h2 : t2.length = 2 ^ p) : pmx p t t2 (2 ^ p) = pmax t t2 := by
  apply list_ext_getD
  · rw [pmx_length, pmax_length (by rw [h, h2]), h]
  · intro j hj
    rw [pmx_length] at hj
    rw [pmx_get p t t2 _ j hj, if_pos hj, pmax_get (by rw [h]; exact hj) (by rw [h2]; exact hj)]
theorem pmx_keep (p : Nat) (t t2 : List Nat) (i : Nat) (h : t2.getD i 0 ≤ t.getD i 0) : pmx p t t2 (i + 1) = pmx p t t2 i := by
  unfold pmx
  refine List.map_congr_left fun j _ => ?_
  by_cases hj : j = i
  · subst hj
    rw [if_pos (by omega), if_neg (by omega)]; omega
  · by_cases hlt : j < i
    · rw [if_pos (by omega), if_pos hlt]
    · rw [if_neg (by omega), if_neg hlt]
theorem pmx_set (p : Nat) (t t2 : List Nat) (i : Nat) (hi : i < 2 ^ p) (h : t.getD i 0 < t2.getD i 0) : (pmx p t t2 i).set i (t2.getD i 0) = pmx p t t2 (i + 1) := by
  apply list_ext_getD
  · rw [List.length_set, pmx_length, pmx_length]
  · intro j hj
    rw [List.length_set, pmx_length] at hj
    rw [pmx_get p t t2 _ j hj, List.getD_eq_getElem?_getD, List.getElem?_set]
    by_cases hji : i = j
    · subst hji
      rw [if_pos rfl, if_pos (by rw [pmx_length]; exact hi), if_pos (by omega)]
      show t2.getD i 0 = _
      omega
    · rw [if_neg hji, ← List.getD_eq_getElem?_getD, pmx_get p t t2 _ j hj]
      by_cases hlt : j < i
      · rw [if_pos hlt, if_pos (by omega)]
      · rw [if_neg hlt, if_neg (by omega)]

/-- The state in which registers are merged into a sketch that is dense. -/
structure MD (wB : World) (S p al : Nat) (rv : Value) (r : List Nat) (W : World) : Prop where
  blk : SkB W S p al (.pointer none) (.pointer none) rv
  row : Row W 5 .u8 rv r
  only : Only (fun b => rv.ownBlock = some b) wB W
theorem MD.same {wB W W' : World} {S p al : Nat} {rv : Value} {r : List Nat} (h : MD wB S p al rv r W) (ho : Only (fun _ => False) W W') : MD wB S p al rv r W' :=
  ⟨Blk.only h.blk ho (fun hf => hf), h.row.only ho (fun _ _ hf => hf), h.only.trans ho (fun _ hf _ => hf.elim)⟩
theorem MD.step {wB W W' : World} {S p al : Nat} {rv : Value} {r r' : List Nat} (h : MD wB S p al rv r W) (hr : Row W' 5 .u8 rv r') (ho : Only (fun b => rv.ownBlock = some b) W W') : MD wB S p al rv r' W' :=
  ⟨Blk.only h.blk ho (h.row.blk_ne h.blk (by decide)), hr, h.only.trans ho (fun _ hb _ => hb)⟩
end Go.Proofs.YtoegfdndoeiolaaDoor

/- Walks: the function that merges a sketch into a dense one. Conditions: both are sketches in use, of the same number of bits, and share no block. -/
namespace Go.Proofs.YtoegfdndoeiolaaDoor
open Go.RowKit

theorem MD.iter {wB W W' : World} {S p al I L : Nat} {pre : List Nat} {rv : Value} {r : List Nat} (h : MD wB S p al rv r W) (hi : ItAt W I L pre) (ho : Only (fun b => b = I) W W') (hI : wB.heap.size ≤ I) : MD wB S p al rv r W' :=
  ⟨Blk.only h.blk ho (fun e => (Blk.ne_ h.blk hi (by decide)) e), h.row.only ho (fun g hg e => h.row.blk_ne hi (by decide) (by rw [hg, e])), h.only.trans ho (fun b hb hlt => by omega)⟩

set_option maxHeartbeats 2000000 in
set_option maxRecDepth 100000 in
theorem mergeDenseSketch_any (S S2 p : Nat) (t t2 : List Nat) (F F2 : Nat → Prop) (w : World) (h : Sk w S p t True F) (h2 : Sk w S2 p t2 True F2) (hd : ∀ b, F b → ¬ F2 b) :
    Calls Tryd.prog 66 #[.pointer (some ⟨S, 0, none⟩), .pointer (some ⟨S2, 0, none⟩)] w fun e w' => e = .returned (.tuple #[]) ∧ Turns w S p (pmax t t2) True F w' := by
  have hmf := hmf
  have h1p := h.lo
  have h2p := h.hi
  have hpb := pow_bounds h1p h2p
  obtain ⟨wB, hwB⟩ : ∃ wB, wB = (w.alloc (.cells #[.pointer (some ⟨S, 0, none⟩)] 57)).alloc (.cells #[.pointer (some ⟨S2, 0, none⟩)] 57) := ⟨_, rfl⟩
  have hoB : Only (fun _ => False) w wB := by rw [hwB]; exact ((Only.refl _ w).alloc _).alloc _
  have hbx : Blk wB w.heap.size 57 #[.pointer (some ⟨S, 0, none⟩)] := by rw [hwB]; exact (Blk.new w _ _).alloc _
  have hby : Blk wB (w.heap.size + 1) 57 #[.pointer (some ⟨S2, 0, none⟩)] := by
    have h := Blk.new (w.alloc (.cells #[.pointer (some ⟨S, 0, none⟩)] 57)) 57 #[.pointer (some ⟨S2, 0, none⟩)]
    rw [show (w.alloc (.cells #[.pointer (some ⟨S, 0, none⟩)] 57)).heap.size = w.heap.size + 1 from by simp] at h
    rw [hwB]; exact h
  have hszB : wB.heap.size = w.heap.size + 2 := by rw [hwB]; simp
  have HK := Lib.hid (h.same hoB)
  have HK2 := Lib.hid (h2.same hoB)
  have HFlt : Hid (∀ b, F b → b < w.heap.size) := h.lt
  have HF2lt : Hid (∀ b, F2 b → b < w.heap.size) := h2.lt
  have HD := Lib.hid hd
  have HTL : Hid (t.length = 2 ^ p) := h.len
  have HTL2 : Hid (t2.length = 2 ^ p) := h2.len
  have HLE2 : Hid (∀ v ∈ t2, v ≤ 65 - p) := h2.le
  have HOB := Lib.hid hoB
  have HBX := Lib.hid hbx
  have HBY := Lib.hid hby
  have HWB := Lib.hid hwB
  clear h h2 hd hoB hbx hby hwB
  go_enter Tryd.func66, Tryd.ntmps66
  go_wp2_with fail
  rw [← HWB.out]
  have hFx : ∀ b, F b → b < wB.heap.size := fun b hb => by have := HFlt.out b hb; omega
  have hR : ∃ sp : Bool, (∃ a, sp = true ∧ wB.cell? ⟨S, 4, none⟩ = some (.pointer (some a)) ∧ SkS wB S p t True F) ∨ (sp = false ∧ wB.cell? ⟨S, 4, none⟩ = some (.pointer none) ∧ SkD wB S p t F) := by
    rcases HK.out.is with hdd | hss
    · obtain ⟨al, rv, hdn, _⟩ := id hdd
      exact ⟨false, .inr ⟨rfl, hdn.blk.cell 4, hdd⟩⟩
    · obtain ⟨al, T, M, v, K, L, u, ks, hsn, _⟩ := id hss
      exact ⟨true, .inl ⟨_, rfl, hsn.blk.cell 4, hss⟩⟩
  obtain ⟨sp, hsp⟩ := hR
  have HSPC : Hid (Calls Tryd.prog 61 #[.pointer (some ⟨S, 0, none⟩)] wB fun e w' => e = .returned (.bool sp) ∧ wB = w') := by
    rcases hsp with ⟨a, rfl, hc, _⟩ | ⟨rfl, hc, _⟩
    · exact sparse_yes S a wB hc
    · exact sparse_no S wB hc
  have HSP := Lib.hid hsp
  have bx0 := HBX.out.cell 0
  clear hsp
  refine HSPC.out.mono ?_
  rintro e w1 ⟨rfl, rfl⟩
  go_upto_if 10 with fail
  go_cut [] (fun wc => ∃ F', SkD wc S p t F' ∧ F' S ∧ (∀ b, F' b → b < wc.heap.size) ∧ Only F wB wc ∧ (∀ b, F' b → F b ∨ wB.heap.size ≤ b))
  case first =>
    cases sp
    · have hD : SkD wB S p t F := by
        rcases HSP.out with ⟨_, h, _⟩ | ⟨_, _, h⟩
        · cases h
        · exact h
      have HDD := Lib.hid hD
      clear hD
      go_wp2_with fail
      go_meet
      case rel => exact ⟨F, HDD.out, HK.out.own, hFx, Only.refl _ _, fun b hb => .inl hb⟩
    · have hS : SkS wB S p t True F := by
        rcases HSP.out with ⟨_, _, _, h⟩ | ⟨h, _⟩
        · exact h
        · cases h
      obtain ⟨al, T, M, v, K, L, u, ks, hs, hfit, htt, hFT, _⟩ := hS
      have hlv := hfit.live trivial
      have hkl : ks.length ≤ 262144 := by have := enc_length_le ks 0; omega
      have HTN := Lib.hid (toNormal_sk S p al T M L v u K ks wB F hs h1p h2p hfit.okK hfit.valid.2.1 hfit.valid.keys (by omega) HK.out.own hFT)
      rw [← htt] at HTN
      clear hs hfit hFT hlv htt
      go_wp2_with fail
      refine HTN.out.mono ?_
      rintro e w2 ⟨rfl, F', hd', hsk', ho', hF'⟩
      have HR : Hid (∃ F', SkD w2 S p t F' ∧ F' S ∧ (∀ b, F' b → b < w2.heap.size) ∧ Only F wB w2 ∧ (∀ b, F' b → F b ∨ wB.heap.size ≤ b)) := ⟨F', hd', hsk'.own, hsk'.lt, ho', hF'⟩
      clear hd' hsk' ho' hF'
      go_wp2_with fail
      go_meet
      case rel => exact HR.out
  case rest =>
    obtain ⟨F', ⟨al, rv, hdn, hle, hFr⟩, hF'S, hF'lt, hoF, hF'n⟩ := hcut
    have hF'w : ∀ b, F' b → b < w.heap.size ∨ w.heap.size + 2 ≤ b := fun b hb => (hF'n b hb).imp (HFlt.out b) (fun h => by omega)
    have hx1 := HBX.out.only hoF (fun hf => by have := HFlt.out _ hf; omega)
    have hy1 := HBY.out.only hoF (fun hf => by have := HFlt.out _ hf; omega)
    have hrvx : ∀ g, rv.ownBlock = some g → g ≠ w.heap.size ∧ g ≠ w.heap.size + 1 := fun g hg => by have := hF'w g (hFr g hg); omega
    have hk2 := HK2.out.only hoF (fun b hb hf => HD.out b hf hb)
    have hrv2 : ∀ g, rv.ownBlock = some g → ¬ F2 g := fun g hg hf => by
      rcases hF'n g (hFr g hg) with h | h
      · exact HD.out g h hf
      · have := HF2lt.out g hf; omega
    have hMD : MD wc S p al rv t wc := ⟨hdn.blk, hdn.row, Only.refl _ _⟩
    have x0 := hx1.cell 0
    have y0 := hy1.cell 0
    have htl := hdn.len
    have HMD := Lib.hid hMD
    have HX1 := Lib.hid hx1
    have HY1 := Lib.hid hy1
    have HK2c := Lib.hid hk2
    have HRV2 := Lib.hid hrv2
    have HRVX := Lib.hid hrvx
    have HLE := Lib.hid hle
    have HT256 : Hid (∀ v ∈ t, v < 256) := fun v hv => by have := hle v hv; omega
    -- what is handed back, whatever was merged
    have HEND : Hid (∀ W, MD wc S p al rv (pmax t t2) W → Turns w S p (pmax t t2) True F W) := fun W hW => by
      have hll : (pmax t t2).length = 2 ^ p := by rw [pmax_length (by rw [HTL.out, HTL2.out]), HTL.out]
      refine ⟨F', ⟨hF'S, fun b hb => Nat.lt_of_lt_of_le (hF'lt b hb) hW.only.size, h1p, h2p, .inl ⟨al, rv, ⟨hW.blk, hW.row, hll⟩, pmax_le hle HLE2.out, hFr⟩⟩, ?_, fun b hb => (hF'n b hb).imp id (fun h => by omega)⟩
      refine ((HOB.out.mono (fun _ hf _ => hf.elim)).trans hoF (fun b hb _ => hb)).trans hW.only (fun b hb hlt => ?_)
      rcases hF'n b (hFr b hb) with h | h
      · exact h
      · omega
    clear hdn hle hoF hF'n hF'w hx1 hy1 hk2 hrv2 hMD hrvx
    rcases HK2c.out.is with hd2 | hs2
    · obtain ⟨al2, rv2, hdn2, hle2, hFr2⟩ := hd2
      obtain ⟨A2, k2, rfl, hkc2, _, _, _⟩ := hdn2.row.nums
      obtain ⟨N, hN⟩ : ∃ N, N = 2 ^ p := ⟨_, rfl⟩
      rcases hdn2.row.form with ⟨_, hnil⟩ | ⟨g2, cp2, hv2, hc2, hg2, ho2⟩
      · have := hdn2.len; rw [hnil] at this; simp only [List.length_nil] at this; omega
      injection hv2 with e1 e2 e3
      subst e1
      subst e3
      rcases HMD.out.row.form with ⟨_, hnil⟩ | ⟨g, cp, rfl, hcp, hgl, hown⟩
      · rw [hnil] at htl; simp only [List.length_nil] at htl; omega
      have hlt2 : t2.length = N := by rw [hdn2.len, hN]
      have hlt1 : t.length = N := by rw [htl, hN]
      rw [hlt2] at hdn2 ho2 hc2
      have c24 : wc.cell? ⟨S2, 4, none⟩ = some (.pointer none) := hdn2.blk.cell 4
      have c25 : wc.cell? ⟨S2, 5, none⟩ = some (.slice (some ⟨g2, 0, none⟩) N k2) := hdn2.blk.cell 5
      have hgS2 : ¬ F2 g := HRV2.out g hown
      have HDN2 : Hid (∀ W, Only (fun b => (Value.slice (some ⟨g, 0, none⟩) t.length cp).ownBlock = some b) wc W → Dense W S2 p al2 (.slice (some ⟨g2, 0, none⟩) N k2) t2) := fun W hW =>
        hdn2.only hW (fun e => by injection e with e; have e : g = S2 := e; rw [e] at hgS2; exact hgS2 HK2.out.own) (fun b hb e => by injection e with e; have e : g = b := e; rw [e] at hgS2; exact hgS2 (hFr2 b (by rw [hlt2]; exact hb)))
      have hNb : N ≤ 262144 := by omega
      rw [hlt1] at HMD HEND hown hcp HRV2 HRVX hFr HDN2
      have HNp := Lib.hid hN
      have HT1 := Lib.hid hlt1
      have HT2 := Lib.hid hlt2
      clear hdn2 hle2 hFr2 hN hlt1 hlt2 htl
      go_wp2_with fail
      refine (sparse_no S2 wc c24).mono ?_
      rintro e w1 ⟨rfl, rfl⟩
      go_wp2_with fail
      go_loopg [47] N (fun g47 s47 wr => ∃ i, g47 + i = N ∧ s47 = .int .i64 (i : Nat) ∧ Hid (MD wc S p al (.slice (some ⟨g, 0, none⟩) N cp) (pmx p t t2 i) wr))
      case atStart => exact ⟨0, by omega, rfl, by rw [pmx_zero p t t2 (by rw [HT1.out, HNp.out])]; exact HMD.out⟩
      case round =>
        obtain ⟨i, hgi, rfl, HM⟩ := hrel
        by_cases hi : i < N
        · have hx2 := HX1.out.only HM.out.only (fun e => by injection e with e; exact (HRVX.out g rfl).1 e)
          have hy2 := HY1.out.only HM.out.only (fun e => by injection e with e; exact (HRVX.out g rfl).2 e)
          have x2 := hx2.cell 0
          have y2 := hy2.cell 0
          have hdn2 := HDN2.out wr HM.out.only
          obtain ⟨y, hy⟩ : ∃ y, t2.getD i 0 = y := ⟨_, rfl⟩
          obtain ⟨z, hz⟩ : ∃ z, t.getD i 0 = z := ⟨_, rfl⟩
          have cy : wr.cell? ⟨g2, i, none⟩ = some (.int .u8 (y : Nat)) := by rw [← hy]; exact hdn2.row.cell rfl i (by rw [HT2.out]; exact hi)
          have cz : wr.cell? ⟨g, i, none⟩ = some (.int .u8 (z : Nat)) := by
            have h := HM.out.row.cell rfl i (by rw [pmx_length, ← HNp.out]; exact hi)
            rw [pmx_get p t t2 i i (by rw [← HNp.out]; exact hi), if_neg (Nat.lt_irrefl i), hz] at h
            exact h
          have fz : wr.frozen? ⟨g, i, none⟩ = false := HM.out.row.frozen rfl i
          have s5 : wr.cell? ⟨S, 5, none⟩ = some (.slice (some ⟨g, 0, none⟩) N cp) := HM.out.blk.cell 5
          have HX2 := Lib.hid hx2
          have HY := Lib.hid hy
          have HZ := Lib.hid hz
          clear hx2 hy2 hdn2 hy hz
          by_cases hyz : z < y
          · have hyz2 : decide ((z : Int) < (y : Int)) = true := decide_eq_true (by omega)
            have hset : MD wc S p al (.slice (some ⟨g, 0, none⟩) N cp) (pmx p t t2 (i + 1)) (wr.setCell ⟨g, i, none⟩ (.int .u8 (y : Nat))) := by
              refine HM.out.step ?_ ((Only.refl (fun b => (Value.slice (some ⟨g, 0, none⟩) N cp).ownBlock = some b) wr).setCell (p := ⟨g, i, none⟩) (fun _ => rfl) _)
              have h := HM.out.row.set_ (by rw [pmx_length, HNp.out]) i y
              have e := pmx_set p t t2 i (by rw [← HNp.out]; exact hi) (by rw [HY.out, HZ.out]; exact hyz)
              rw [HY.out] at e
              rw [e] at h
              exact h
            have HSET := Lib.hid hset
            clear hset
            go_wp2_with fail
            go_roundg (N - (i + 1))
            case measure => omega
            case rel => exact ⟨i + 1, by omega, by go_num, HSET.out⟩
          · have hyz2 : decide ((z : Int) < (y : Int)) = false := decide_eq_false (by omega)
            have HKEEP : Hid (MD wc S p al (.slice (some ⟨g, 0, none⟩) N cp) (pmx p t t2 (i + 1)) wr) := by
              show MD _ _ _ _ _ _ _
              rw [pmx_keep p t t2 i (by rw [HY.out, HZ.out]; omega)]
              exact HM.out
            go_wp2_with fail
            go_roundg (N - (i + 1))
            case measure => omega
            case rel => exact ⟨i + 1, by omega, by go_num, HKEEP.out⟩
        · have hin : i = N := by omega
          have HL : Hid (MD wc S p al (.slice (some ⟨g, 0, none⟩) N cp) (pmax t t2) wr) := by
            have h := HM.out
            rw [hin, HNp.out, pmx_last p t t2 (by rw [HT1.out, HNp.out]) (by rw [HT2.out, HNp.out]), ← HNp.out] at h
            exact h
          go_wp2_with fail
          go_end0
          exact ⟨rfl, HEND.out _ HL.out⟩
    · obtain ⟨al2, T2, M2, v2, K2, L2, u2, ks2, hs2, hfit2, ht2, hFT2, hFM2, hFL2, hFv2, hFu2⟩ := hs2
      have hlv2 := hfit2.live trivial
      have hkl2 : ks2.length ≤ 262144 := by have := enc_length_le ks2 0; omega
      have HV2 : Hid (∀ W, Only (fun b => rv.ownBlock = some b) wc W → Sparse W S2 p al2 T2 M2 v2 K2 L2 u2 ks2) := fun W hW =>
        hs2.only hW (fun e => HRV2.out _ e HK2c.out.own) (fun e => HRV2.out _ e hFT2) (fun e => HRV2.out _ e hFM2) (fun g hg e => HRV2.out _ e (hFv2 g hg)) (fun e => HRV2.out _ e hFL2) (fun g hg e => HRV2.out _ e (hFu2 g hg))
      have c24 : wc.cell? ⟨S2, 4, none⟩ = some (.pointer (some ⟨L2, 0, none⟩)) := hs2.blk.cell 4
      have c23 : wc.cell? ⟨S2, 3, none⟩ = some (.pointer (some ⟨T2, 0, none⟩)) := hs2.blk.cell 3
      have HFE := Lib.hid (sForEach2_any T2 M2 v2 K2 wc (.pointer (some ⟨w.heap.size + 1, 0, none⟩)) (.pointer (some ⟨w.heap.size, 0, none⟩)) (fun i W => MD wc S p al rv (upk p t (K2.take i)) W) hs2.set
        (fun W hW => by rw [List.take_zero]; exact HMD.out.same hW) (by omega) (fun i W hi _ => (HV2.out W hi.only).set)
        (fun i W hi hm => by
          have hx2 := HX1.out.only hm.only (fun e => (HRVX.out _ e).1 rfl)
          have hy2 := HY1.out.only hm.only (fun e => (HRVX.out _ e).2 rfl)
          have hk2 := (HV2.out W hm.only).set.lt _ (mem_getD hi)
          refine (denseStep_any w.heap.size (w.heap.size + 1) S S2 p al (K2.getD i 0) rv _ W hx2 hy2 ((HV2.out W hm.only).blk.cell 0) hm.blk hm.row (by rw [upk_length, HTL.out]) (upk_byte HT256.out) hk2 h1p h2p).mono ?_
          rintro e w' ⟨rfl, hr, ho⟩
          refine ⟨rfl, ?_, fun x cs hx => hx.only ho (hm.row.blk_ne hx (by decide))⟩
          rw [list_take_succ K2 i hi, upk_snoc]
          exact hm.step hr ho))
      rw [List.take_length] at HFE
      have HKY : Hid (Keys ks2) := hfit2.valid.keys
      have HFU2 : Hid (∀ g, u2.ownBlock = some g → F2 g) := hFu2
      have HPM : Hid (upk p t (K2 ++ ks2) = pmax t t2) := by
        show _ = _
        rw [upk_pmax p t _ HTL.out, ht2]
      have hwcs : w.heap.size ≤ wc.heap.size := by have := HX1.out.lt; omega
      clear hs2 hfit2 ht2 hFT2 hFM2 hFL2 hFv2 hFu2 hlv2
      go_wp2_with fail
      refine (sparse_yes S2 _ wc c24).mono ?_
      rintro e w1 ⟨rfl, rfl⟩
      go_wp2_with fail
      refine HFE.out.mono ?_
      rintro e w2 ⟨rfl, hm2⟩
      have HM2 := Lib.hid hm2
      have y2 : w2.cell? ⟨w.heap.size + 1, 0, none⟩ = some (.pointer (some ⟨S2, 0, none⟩)) := (HY1.out.only hm2.only (fun e => (HRVX.out _ e).2 rfl)).cell 0
      have d24 : w2.cell? ⟨S2, 4, none⟩ = some (.pointer (some ⟨L2, 0, none⟩)) := (HV2.out w2 hm2.only).blk.cell 4
      clear hm2
      go_wp2_with fail
      refine (Iter_any L2 w2).mono ?_
      rintro e w3 ⟨rfl, ho3⟩
      have hm3 := HM2.out.same ho3
      have hit0 := ItInv.start (HV2.out w3 hm3.only).list HKY.out
      have hal : Only (fun _ => False) w3 (w3.alloc (.cells #[.int .i64 (at_ [] : Nat), .int .u32 (lastOr 0 [] : Nat), .pointer (some ⟨L2, 0, none⟩)] 82)) := (Only.refl _ w3).alloc _
      have HM3 := Lib.hid (hm3.same hal)
      have HI0 := Lib.hid hit0
      have hs3 : wc.heap.size ≤ w3.heap.size := hm3.only.size
      clear hm3 hit0 hal ho3 y2 d24
      go_wp2_with fail
      go_loopg [4] ks2.length (fun g4 s4 wr => ∃ j I, g4 + j = ks2.length ∧ s4 = .pointer (some ⟨I, 0, none⟩) ∧ wc.heap.size ≤ I ∧ Hid (ItInv wr L2 I u2 ks2 j) ∧ Hid (MD wc S p al rv (upk p t (K2 ++ ks2.take j)) wr))
      case atStart => exact ⟨0, w3.heap.size, by omega, rfl, hs3, HI0.out, by rw [List.take_zero, List.append_nil]; exact HM3.out⟩
      case round =>
        obtain ⟨j, I, hg, rfl, hI, HIT, HM⟩ := hrel
        obtain ⟨a0, b0, e0⟩ := HIT.out.cells
        by_cases hj : j < ks2.length
        · have HN1 := Lib.hid (hasNext_i HIT.out (Nat.le_of_lt hj))
          rw [decide_eq_true hj] at HN1
          obtain ⟨k, hkk⟩ : ∃ k, ks2.getD j 0 = k := ⟨_, rfl⟩
          have hk32 : k < 4294967296 := by rw [← hkk]; exact HIT.out.key hj
          go_wp2_with fail
          refine HN1.out.mono ?_
          rintro e wa ⟨rfl, hoa⟩
          have hma := HM.out.same hoa
          have hita := HIT.out.same hoa
          have HFC : Hid (∀ W, MD wc S p al rv (upk p t (K2 ++ ks2.take j)) W → W.cell? ⟨w.heap.size + 1, 0, none⟩ = some (.pointer (some ⟨S2, 0, none⟩)) ∧ W.cell? ⟨S2, 0, none⟩ = some (.int .u8 (p : Int)) ∧ W.cell? ⟨w.heap.size, 0, none⟩ = some (.pointer (some ⟨S, 0, none⟩))) := fun W hW =>
            ⟨(HY1.out.only hW.only (fun e => (HRVX.out _ e).2 rfl)).cell 0, (HV2.out W hW.only).blk.cell 0, (HX1.out.only hW.only (fun e => (HRVX.out _ e).1 rfl)).cell 0⟩
          obtain ⟨ya, sa, xa⟩ := HFC.out wa hma
          have HNX : Hid (Calls Tryd.prog 50 #[.pointer (some ⟨I, 0, none⟩)] wa.drew fun e w' => e = .returned (.int .u32 (k : Nat)) ∧ ItInv w' L2 I u2 ks2 (j + 1) ∧ Only (fun b => b = I) wa.drew w') := by
            have h := next_i (hita.same ((Only.refl _ wa).drew)) hj
            rw [hkk] at h
            exact h
          have HMa := Lib.hid (hma.same ((Only.refl _ wa).drew))
          have HITa := Lib.hid (hita.same ((Only.refl _ wa).drew))
          clear hoa hma hita
          go_wp2_with fail
          go_region_held3 (fun w' => w'.cell? ⟨w.heap.size + 1, 0, none⟩ = some (.pointer (some ⟨S2, 0, none⟩)) ∧ w'.cell? ⟨S2, 0, none⟩ = some (.int .u8 (p : Int)))
            (first | go_keep | exact ⟨yb, sb⟩)
            (first
              | (go_at_call 50; refine HNX.out.mono ?_; rintro e wb ⟨rfl, hib, hob⟩
                 have HMb := Lib.hid (HMa.out.iter HITa.out.at_ hob hI)
                 have HIB := Lib.hid hib
                 obtain ⟨yb, sb, xb⟩ := HFC.out wb HMb.out
                 clear hib hob)
              | (go_at_call 100; refine (decodeHash_any k p _ hk32 h1p h2p).mono ?_; rintro e wx ⟨rfl, rfl⟩)
              | fail)
          have HINS := Lib.hid (insert_any S p al (decIdx k p) (decVal k p) _ _ rv _ wb HMb.out.blk HMb.out.row (by rw [upk_length, HTL.out]; exact decIdx_lt k p) (by have := decVal_lt k p; omega) (upk_byte HT256.out) (by rw [upk_length, HTL.out]; omega))
          go_wp2_with fail
          refine HINS.out.mono ?_
          rintro e wd ⟨rfl, hrd, hod⟩
          have hmd := HMb.out.step hrd hod
          have HMd : Hid (MD wc S p al rv (upk p t (K2 ++ ks2.take (j + 1))) wd) := by
            show MD _ _ _ _ _ _ _
            rw [list_take_succ ks2 j hj, ← List.append_assoc, upk_snoc, hkk]
            exact hmd
          have hid : ItInv wd L2 I u2 ks2 (j + 1) := by
            refine HIB.out.only hod (HMb.out.row.blk_ne HIB.out.at_ (by decide)) (HMb.out.row.blk_ne HIB.out.list.1 (by decide)) (fun g hg e => ?_)
            have hL := (HV2.out wd hmd.only).list.2.1
            exact HRV2.out g e (HFU2.out g hg)
          have HID := Lib.hid hid
          obtain ⟨a5, b5, e5⟩ := hid.cells
          clear hid hmd hrd hod
          go_wp2_with fail
          go_roundg (ks2.length - (j + 1))
          case measure => omega
          case rel =>
            have hal : Only (fun _ => False) wd (wd.alloc (.cells #[.int .i64 (at_ (ks2.take (j + 1)) : Nat), .int .u32 (lastOr 0 (ks2.take (j + 1)) : Nat), .pointer (some ⟨L2, 0, none⟩)] 82)) := (Only.refl _ wd).alloc _
            exact ⟨j + 1, wd.heap.size, by omega, rfl, HMd.out.only.size, HID.out.again, HMd.out.same hal⟩
        · have hjt : ks2.take j = ks2 := List.take_of_length_le (by omega)
          have HMn : Hid (MD wc S p al rv (pmax t t2) wr) := by
            have h := HM.out
            rw [hjt, HPM.out] at h
            exact h
          have HN1 := Lib.hid (hasNext_i HIT.out (by omega))
          rw [decide_eq_false hj] at HN1
          clear hj hjt
          go_wp2_with fail
          refine HN1.out.mono ?_
          rintro e wa ⟨rfl, hoa⟩
          have HMe := Lib.hid (HMn.out.same hoa)
          clear hoa
          go_wp2_with fail
          go_end0
          exact ⟨rfl, HEND.out _ HMe.out⟩
end Go.Proofs.YtoegfdndoeiolaaDoor

/- Walks: a sketch is merged into another one; the laws FnExactJoined and FnJoinTurns. Conditions: the hashes are 64-bit numbers; the variable of the error of a wrong number of bits holds an error. -/
namespace Go.Proofs.YtoegfdndoeiolaaDoor
open Go.RowKit

set_option maxHeartbeats 1000000 in
set_option maxRecDepth 100000 in
theorem Merge_any (S S2 p : Nat) (t t2 : List Nat) (F F2 : Nat → Prop) (w : World) (h : Sk w S p t True F) (h2 : Sk w S2 p t2 True F2) (hd : ∀ b, F b → ¬ F2 b) :
    Calls Tryd.prog 42 #[.pointer (some ⟨S, 0, none⟩), .pointer (some ⟨S2, 0, none⟩)] w fun e w' => e = .returned .nilIface ∧ Turns w S p (pmax t t2) True F w' := by
  have h1p := h.lo
  have h2p := h.hi
  have hp0 : ((p : Int) == 0) = false := by rw [beq_eq_false_iff_ne]; omega
  have hR : ∀ {S0 : Nat} {t0 : List Nat} {F0 : Nat → Prop}, Sk w S0 p t0 True F0 → w.cell? ⟨S0, 0, none⟩ = some (.int .u8 (p : Int)) ∧ ∃ sp : Bool, (∃ a, sp = true ∧ w.cell? ⟨S0, 4, none⟩ = some (.pointer (some a)) ∧ SkS w S0 p t0 True F0) ∨ (sp = false ∧ w.cell? ⟨S0, 4, none⟩ = some (.pointer none)) := by
    intro S0 t0 F0 hk
    rcases hk.is with hdd | hss
    · obtain ⟨al, rv, hdn, _⟩ := id hdd
      exact ⟨hdn.blk.cell 0, false, .inr ⟨rfl, hdn.blk.cell 4⟩⟩
    · obtain ⟨al, T, M, v, K, L, u, ks, hsn, _⟩ := id hss
      exact ⟨hsn.blk.cell 0, true, .inl ⟨_, rfl, hsn.blk.cell 4, hss⟩⟩
  obtain ⟨c0, sp, hsp⟩ := hR h
  obtain ⟨d0, sp2, hsp2⟩ := hR h2
  have HSPC : ∀ q, Calls Tryd.prog 61 #[.pointer (some ⟨S, 0, none⟩)] (w.drewN q) fun e w' => e = .returned (.bool sp) ∧ w.drewN q = w' := fun q => by
    rcases hsp with ⟨a, rfl, hc, _⟩ | ⟨rfl, hc⟩
    · exact sparse_yes S a _ hc
    · exact sparse_no S _ hc
  have HSPC2 : ∀ q, Calls Tryd.prog 61 #[.pointer (some ⟨S2, 0, none⟩)] (w.drewN q) fun e w' => e = .returned (.bool sp2) ∧ w.drewN q = w' := fun q => by
    rcases hsp2 with ⟨a, rfl, hc, _⟩ | ⟨rfl, hc⟩
    · exact sparse_yes S2 a _ hc
    · exact sparse_no S2 _ hc
  have hq : ∀ q, Only (fun _ => False) w (w.drewN q) := fun q => (Only.refl _ w).drewN q
  have HSS : Hid (sp = true → sp2 = true → ∀ q, Calls Tryd.prog 65 #[.pointer (some ⟨S, 0, none⟩), .pointer (some ⟨S2, 0, none⟩)] (w.drewN q) fun e w' => e = .returned (.tuple #[]) ∧ Turns w S p (pmax t t2) True F w') := by
    intro e1 e2 q
    rcases hsp with ⟨a, _, _, hs⟩ | ⟨e, _⟩
    · rcases hsp2 with ⟨a2, _, _, hs2⟩ | ⟨e, _⟩
      · refine (mergeSparseSketch_any S S2 p t t2 F F2 (w.drewN q) (hs.only (hq q) (fun hf => hf) (fun _ _ hf => hf)) (hs2.only (hq q) (fun hf => hf) (fun _ _ hf => hf)) h1p h2p h.own h.lt hd h2.own).mono ?_
        rintro e w' ⟨rfl, hT⟩
        exact ⟨rfl, Turns.trans ((hq q).mono (fun _ hf _ => hf.elim)) (fun b hb => .inl hb) hT⟩
      · rw [e2] at e; cases e
    · rw [e1] at e; cases e
  have HDD : Hid (∀ q, Calls Tryd.prog 66 #[.pointer (some ⟨S, 0, none⟩), .pointer (some ⟨S2, 0, none⟩)] (w.drewN q) fun e w' => e = .returned (.tuple #[]) ∧ Turns w S p (pmax t t2) True F w') := by
    intro q
    refine (mergeDenseSketch_any S S2 p t t2 F F2 (w.drewN q) (h.same (hq q)) (h2.same (hq q)) hd).mono ?_
    rintro e w' ⟨rfl, hT⟩
    exact ⟨rfl, Turns.trans ((hq q).mono (fun _ hf _ => hf.elim)) (fun b hb => .inl hb) hT⟩
  have HS1 := Lib.hid HSPC
  have HS2 := Lib.hid HSPC2
  clear hR hsp hsp2 h h2 hd HSPC HSPC2 hq
  go_enter Tryd.func42, Tryd.ntmps42
  go_wp2_with fail
  go_quiet (fail)
  go_wp2_with fail
  refine (HS1.out _).mono ?_
  rintro e w1 ⟨rfl, rfl⟩
  cases sp
  · go_wp2_with fail
    refine (HDD.out _).mono ?_
    rintro e w2 ⟨rfl, hT⟩
    go_wp2_with fail
    go_ret
    exact ⟨rfl, hT⟩
  · go_wp2_with fail
    refine (HS2.out _).mono ?_
    rintro e w1 ⟨rfl, rfl⟩
    cases sp2
    · go_wp2_with fail
      refine (HDD.out _).mono ?_
      rintro e w2 ⟨rfl, hT⟩
      go_wp2_with fail
      go_ret
      exact ⟨rfl, hT⟩
    · go_wp2_with fail
      refine (HSS.out (by trivial) (by trivial) _).mono ?_
      rintro e w2 ⟨rfl, hT⟩
      go_wp2_with fail
      go_ret
      exact ⟨rfl, hT⟩

set_option maxRecDepth 100000 in
theorem implJoined_any (A A2 : Option Addr) (n c n2 c2 B p : Nat) (b b2 : Bool) (xs ys : List Nat) (w : World) (hxs : Nums w B .u64 A n xs) (hys : Nums w B .u64 A2 n2 ys) (hB : B ≤ w.heap.size) (hx : ∀ x ∈ xs, x < 18446744073709551616) (hy : ∀ x ∈ ys, x < 18446744073709551616) (hn : n < 1099511627776) (hn2 : n2 < 1099511627776) (h1 : 4 ≤ p) (h2 : p ≤ 18) :
    Calls Tryd.prog 26 #[.int .u8 p, .bool b, .slice A n c, .bool b2, .slice A2 n2 c2] w fun e w' =>
      ∃ v', e = .returned (.tuple #[v', .bool true]) ∧ Row w' 5 .u8 v' (table p ((xs ++ ys).map (hv p))) ∧ Only (fun _ => False) w w' := by
  have HN := Lib.hid (NewSketch_any p b w h1 h2)
  have HN2 := Lib.hid (fun W => NewSketch_any p b2 W h1 h2)
  have HX := Lib.hid hxs
  have HX64 := Lib.hid hx
  have HY := Lib.hid hys
  have HY64 := Lib.hid hy
  have hAB : Hid (∀ ad, A = some ad → 0 < n → ad.block < B) := fun ad ha h0 => by
    obtain ⟨ad2, e, hb, _⟩ := hxs.2 h0
    rw [ha] at e; injection e with e; rw [e]; exact hb
  have hAB2 : Hid (∀ ad, A2 = some ad → 0 < n2 → ad.block < B) := fun ad ha h0 => by
    obtain ⟨ad2, e, hb, _⟩ := hys.2 h0
    rw [ha] at e; injection e with e; rw [e]; exact hb
  clear hxs hx hys hy
  go_enter Tryd.func26, Tryd.ntmps26
  go_wp2_with fail
  refine HN.out.mono ?_
  rintro e w1 ⟨S, F, rfl, hsk, hF, ho1⟩
  have HSK := Lib.hid hsk
  have HF := Lib.hid hF
  have HO1 := Lib.hid ho1
  have hs1 := ho1.size
  clear hsk hF ho1
  go_wp2_with fail
  refine (HN2.out w1).mono ?_
  rintro e w2 ⟨S2, F2, rfl, hsk2, hF2, ho2⟩
  have HSK2 := Lib.hid hsk2
  have HF2 := Lib.hid hF2
  have HO2 := Lib.hid (HO1.out.trans ho2 (fun _ hf _ => hf))
  have hs2 := ho2.size
  have HFL : Hid (∀ b, F b → b < w1.heap.size) := HSK.out.lt
  have HFI := Lib.hid (fill_any S p _ w2 F A n c B xs (HSK.out.same ho2) (HX.out.only hB HO2.out (fun _ _ hf => hf)) (by omega) HX64.out hn)
  clear hsk2 hF2 ho2
  go_wp2_with fail
  refine (HFI.out (fun h0 ad ha hf => by have := hAB.out ad ha h0; have := HF.out _ hf; omega)).mono ?_
  rintro e w3 ⟨rfl, F3, hsk3, ho3, hF3⟩
  rw [ups_made] at hsk3
  have HSK3 := Lib.hid hsk3
  have hs3 := ho3.size
  have HO3 := Lib.hid (HO2.out.trans ho3 (fun b hb hlt => by have := HF.out b hb; omega))
  have HF3n : Hid (∀ b, F3 b → w.heap.size ≤ b) := fun b hb => (hF3 b hb).elim (HF.out b) (fun h => by omega)
  have HD3 : Hid (∀ b, F3 b → ¬ F2 b) := fun b hb hf => by
    have := HF2.out b hf
    have := HSK2.out.lt b hf
    rcases hF3 b hb with h | h
    · have := HFL.out b h; omega
    · omega
  have HFI2 := Lib.hid (fill_any S2 p _ w3 F2 A2 n2 c2 B ys (HSK2.out.only ho3 (fun b hb hf => by have := HFL.out b hf; have := HF2.out b hb; omega)) (HY.out.only hB HO3.out (fun _ _ hf => hf)) (by omega) HY64.out hn2)
  clear hsk3 ho3 hF3
  go_wp2_with fail
  refine (HFI2.out (fun h0 ad ha hf => by have := hAB2.out ad ha h0; have := HF2.out _ hf; omega)).mono ?_
  rintro e w4 ⟨rfl, F4, hsk4, ho4, hF4⟩
  rw [ups_made] at hsk4
  have HO4 := Lib.hid (HO3.out.trans ho4 (fun b hb hlt => by have := HF2.out b hb; omega))
  have HMG := Lib.hid (Merge_any S S2 p _ _ F3 F4 w4 (HSK3.out.only ho4 (fun b hb hf => HD3.out b hb hf)) hsk4 (fun b hb hf => by
    rcases hF4 b hf with h | h
    · exact HD3.out b hb h
    · have := HSK3.out.lt b hb; omega))
  have hs4 := ho4.size
  clear hsk4 ho4 hF4
  go_wp2_with fail
  refine HMG.out.mono ?_
  rintro e w5 ⟨rfl, F5, hsk5, ho5, hF5⟩
  rw [pmax_table, ← List.map_append] at hsk5
  have HR := Lib.hid (regs_any S p _ True F5 w5 hsk5)
  have HO5 := Lib.hid (HO4.out.trans ho5 (fun b hb hlt => by have := HF3n.out b hb; omega))
  have HF5 : Hid (∀ b, F5 b → w.heap.size ≤ b) := fun b hb => (hF5 b hb).elim (HF3n.out b) (fun h => by omega)
  clear hsk5 ho5 hF5
  go_wp2_with fail
  refine HR.out.mono ?_
  rintro e w6 ⟨v', rfl, hr, _, ho6⟩
  go_wp2_with fail
  go_ret2
  exact ⟨v', rfl, hr, HO5.out.trans ho6 (fun b hb hlt => by have := HF5.out b hb; omega)⟩

theorem implJoined_bad (v v2 : Value) (p : Nat) (b b2 : Bool) (w : World) (h : p < 4 ∨ 18 < p) (he : ErrP w) :
    Calls Tryd.prog 26 #[.int .u8 p, .bool b, v, .bool b2, v2] w fun e w' => e = .returned (.tuple #[.slice none 0 0, .bool false]) ∧ w = w' := by
  have HN := Lib.hid (NewSketch_bad p b w h he)
  clear h he
  go_enter Tryd.func26, Tryd.ntmps26
  go_wp2_with fail
  refine HN.out.mono ?_
  rintro e w1 ⟨⟨a, rfl⟩, rfl⟩
  go_wp2_with fail
  go_ret2
  exact ⟨rfl, rfl⟩

theorem lawJoined_long (A A2 : Option Addr) (n c n2 c2 p : Nat) (b b2 : Bool) (w : World) (h : 2147483647 < n ∨ 2147483647 < n2) :
    Calls Tryd.prog 8 #[.int .u8 p, .bool b, .slice A n c, .bool b2, .slice A2 n2 c2] w fun e w' => e = .returned (.bool true) ∧ Below w.heap.size w w' := by
  by_cases h1 : 2147483647 < n
  · go_enter Tryd.func8, Tryd.ntmps8
    go_wp2
    go_ret
    exact ⟨rfl, Below.refl _ _⟩
  · have h2 : 2147483647 < n2 := h.resolve_left h1
    clear h
    go_enter Tryd.func8, Tryd.ntmps8
    go_wp2
    go_ret
    exact ⟨rfl, Below.refl _ _⟩

theorem lawTurns_long (A A2 : Option Addr) (n c n2 c2 p : Nat) (b b2 : Bool) (w : World) (h : 2147483647 < n ∨ 2147483647 < n2) :
    Calls Tryd.prog 9 #[.int .u8 p, .bool b, .slice A n c, .bool b2, .slice A2 n2 c2] w fun e w' => e = .returned (.bool true) ∧ Below w.heap.size w w' := by
  by_cases h1 : 2147483647 < n
  · go_enter Tryd.func9, Tryd.ntmps9
    go_wp2
    go_ret
    exact ⟨rfl, Below.refl _ _⟩
  · have h2 : 2147483647 < n2 := h.resolve_left h1
    clear h
    go_enter Tryd.func9, Tryd.ntmps9
    go_wp2
    go_ret
    exact ⟨rfl, Below.refl _ _⟩

set_option maxRecDepth 100000 in
theorem lawJoined_bad (A A2 : Option Addr) (n c n2 c2 p : Nat) (b b2 : Bool) (w : World) (hn : n ≤ 2147483647) (hn2 : n2 ≤ 2147483647) (h : p < 4 ∨ 18 < p) (he : ErrP w) :
    Calls Tryd.prog 8 #[.int .u8 p, .bool b, .slice A n c, .bool b2, .slice A2 n2 c2] w fun e w' => e = .returned (.bool true) ∧ Below w.heap.size w w' := by
  have hn' : ¬ (2147483647 : Int) < (n : Int) := by omega
  have hn2' : ¬ (2147483647 : Int) < (n2 : Int) := by omega
  have HR := Lib.hid (implJoined_bad (.slice A n c) (.slice A2 n2 c2) p b b2 w h he)
  have HRT := Lib.hid (fun W => Right_no p W h)
  clear hn hn2 h he
  go_enter Tryd.func8, Tryd.ntmps8
  go_wp2_with fail
  refine HR.out.mono ?_
  rintro e w1 ⟨rfl, rfl⟩
  go_wp2_with fail
  refine (HRT.out _).mono ?_
  rintro e w1 ⟨rfl, rfl⟩
  go_wp2_with fail
  refine (Put1_any _).mono ?_
  rintro e w2 ⟨⟨A4, c4, rfl⟩, ho2⟩
  go_wp2_with fail
  go_ret
  exact ⟨rfl, ho2.new⟩

set_option maxRecDepth 100000 in
theorem lawJoined_any (A A2 : Option Addr) (n c n2 c2 p : Nat) (b b2 : Bool) (xs ys : List Nat) (w : World) (hxs : Nums w w.heap.size .u64 A n xs) (hys : Nums w w.heap.size .u64 A2 n2 ys) (hx : ∀ x ∈ xs, x < 18446744073709551616) (hy : ∀ x ∈ ys, x < 18446744073709551616) (hn : n ≤ 2147483647) (hn2 : n2 ≤ 2147483647) (h1 : 4 ≤ p) (h2 : p ≤ 18) :
    Calls Tryd.prog 8 #[.int .u8 p, .bool b, .slice A n c, .bool b2, .slice A2 n2 c2] w fun e w' => e = .returned (.bool true) ∧ Below w.heap.size w w' := by
  have hpb := pow_bounds h1 h2
  have hn' : ¬ (2147483647 : Int) < (n : Int) := by omega
  have hn2' : ¬ (2147483647 : Int) < (n2 : Int) := by omega
  have hlx := hxs.1
  have hly := hys.1
  have HR := Lib.hid (implJoined_any A A2 n c n2 c2 _ p b b2 xs ys w hxs hys (Nat.le_refl _) hx hy (by omega) (by omega) h1 h2)
  have HB : Hid (∀ W, Only (fun _ => False) w W → Calls Tryd.prog 25 #[.slice A n c, .slice A2 n2 c2] W fun e w' =>
      ∃ v', e = .returned v' ∧ Row w' 25 .u64 v' (xs ++ ys) ∧ (∀ g, v'.ownBlock = some g → W.heap.size ≤ g) ∧ Only (fun _ => False) W w') := fun W hW =>
    Both_any A A2 n n2 c c2 w.heap.size xs ys W (hxs.only (Nat.le_refl _) hW (fun _ _ hf => hf)) (hys.only (Nat.le_refl _) hW (fun _ _ hf => hf)) hW.size (by omega) (by omega)
  have HS2 : Hid (∀ W v, Row W 25 .u64 v (xs ++ ys) → Calls Tryd.prog 23 #[.int .u8 p, v] W fun e w' =>
      ∃ v', e = .returned v' ∧ Row w' 5 .u8 v' (table p ((xs ++ ys).map (hv p))) ∧ (∀ g, v'.ownBlock = some g → W.heap.size ≤ g) ∧ Only (fun _ => False) W w') := fun W v hr => by
    obtain ⟨A3, c3, rfl, _, hn3, _, _⟩ := hr.nums
    exact specRegs_any A3 _ c3 W.heap.size p _ W hn3 (Nat.le_refl _) (fun x hxm => (List.mem_append.1 hxm).elim (hx x) (hy x)) (by rw [List.length_append]; omega) h1 h2
  clear hn hxs hx hn2 hys hy
  go_enter Tryd.func8, Tryd.ntmps8
  go_wp2_with fail
  refine HR.out.mono ?_
  rintro e w1 ⟨v1, rfl, hr1, ho1⟩
  have HR1 := Lib.hid hr1
  have HO1 := Lib.hid ho1
  clear hr1 ho1
  go_wp2_with fail
  refine (Right_yes p _ h1 h2).mono ?_
  rintro e w0 ⟨rfl, rfl⟩
  go_wp2_with fail
  refine (HB.out _ HO1.out).mono ?_
  rintro e w4 ⟨v4, rfl, hr4, _, ho4⟩
  have HS4 := Lib.hid (HS2.out _ _ hr4)
  have HO4 := Lib.hid (HO1.out.trans ho4 (fun _ hf _ => hf))
  have HR14 := Lib.hid (HR1.out.only ho4 (fun _ _ hf => hf))
  clear hr4 ho4
  go_wp2_with fail
  refine HS4.out.mono ?_
  rintro e w5 ⟨v5, rfl, hr5, _, ho5⟩
  have HSM2 := Lib.hid (same_rows HR14.out hr5 ho5 (by rw [table_length]; omega) 0)
  have HO5 := Lib.hid (HO4.out.trans ho5 (fun _ hf _ => hf))
  clear hr5 ho5
  go_wp2_with fail
  refine HSM2.out.mono ?_
  rintro e w6 ⟨rfl, q2, rfl⟩
  go_wp2_with fail
  go_ret
  exact ⟨rfl, (HO5.out.drewN q2).new⟩

theorem lawTurns_bad (A A2 : Option Addr) (n c n2 c2 p : Nat) (b b2 : Bool) (w : World) (hn : n ≤ 2147483647) (hn2 : n2 ≤ 2147483647) (h : p < 4 ∨ 18 < p) :
    Calls Tryd.prog 9 #[.int .u8 p, .bool b, .slice A n c, .bool b2, .slice A2 n2 c2] w fun e w' => e = .returned (.bool true) ∧ Below w.heap.size w w' := by
  have hn' : ¬ (2147483647 : Int) < (n : Int) := by omega
  have hn2' : ¬ (2147483647 : Int) < (n2 : Int) := by omega
  have HRT := Lib.hid (fun W => Right_no p W h)
  clear hn hn2 h
  go_enter Tryd.func9, Tryd.ntmps9
  go_wp2_with fail
  refine (HRT.out _).mono ?_
  rintro e w1 ⟨rfl, rfl⟩
  go_wp2_with fail
  go_ret
  exact ⟨rfl, Below.refl _ _⟩

set_option maxRecDepth 100000 in
theorem lawTurns_any (A A2 : Option Addr) (n c n2 c2 p : Nat) (b b2 : Bool) (xs ys : List Nat) (w : World) (hxs : Nums w w.heap.size .u64 A n xs) (hys : Nums w w.heap.size .u64 A2 n2 ys) (hx : ∀ x ∈ xs, x < 18446744073709551616) (hy : ∀ x ∈ ys, x < 18446744073709551616) (hn : n ≤ 2147483647) (hn2 : n2 ≤ 2147483647) (h1 : 4 ≤ p) (h2 : p ≤ 18) :
    Calls Tryd.prog 9 #[.int .u8 p, .bool b, .slice A n c, .bool b2, .slice A2 n2 c2] w fun e w' => e = .returned (.bool true) ∧ Below w.heap.size w w' := by
  have hpb := pow_bounds h1 h2
  have hn' : ¬ (2147483647 : Int) < (n : Int) := by omega
  have hn2' : ¬ (2147483647 : Int) < (n2 : Int) := by omega
  have hB : ∀ W, Only (fun _ => False) w W → w.heap.size ≤ W.heap.size := fun W hW => hW.size
  have e1 : table p ((ys ++ xs).map (hv p)) = table p ((xs ++ ys).map (hv p)) := table_congr fun q => by simp only [List.map_append, List.mem_append]; exact Or.comm
  have e2 : table p ((xs ++ xs).map (hv p)) = table p (xs.map (hv p)) := table_congr fun q => by simp only [List.map_append, List.mem_append, or_self]
  have HA := Lib.hid (implJoined_any A A2 n c n2 c2 _ p b b2 xs ys w hxs hys (Nat.le_refl _) hx hy (by omega) (by omega) h1 h2)
  have HBB : Hid (∀ W, Only (fun _ => False) w W → Calls Tryd.prog 26 #[.int .u8 p, .bool b2, .slice A2 n2 c2, .bool b, .slice A n c] W fun e w' =>
      ∃ v', e = .returned (.tuple #[v', .bool true]) ∧ Row w' 5 .u8 v' (table p ((xs ++ ys).map (hv p))) ∧ Only (fun _ => False) W w') := fun W hW => by
    rw [← e1]
    exact implJoined_any A2 A n2 c2 n c w.heap.size p b2 b ys xs W (hys.only (Nat.le_refl _) hW (fun _ _ hf => hf)) (hxs.only (Nat.le_refl _) hW (fun _ _ hf => hf)) hW.size hy hx (by omega) (by omega) h1 h2
  have HC : Hid (∀ W, Only (fun _ => False) w W → Calls Tryd.prog 26 #[.int .u8 p, .bool b, .slice A n c, .bool b2, .slice A n c] W fun e w' =>
      ∃ v', e = .returned (.tuple #[v', .bool true]) ∧ Row w' 5 .u8 v' (table p (xs.map (hv p))) ∧ Only (fun _ => False) W w') := fun W hW => by
    rw [← e2]
    exact implJoined_any A A n c n c w.heap.size p b b2 xs xs W (hxs.only (Nat.le_refl _) hW (fun _ _ hf => hf)) (hxs.only (Nat.le_refl _) hW (fun _ _ hf => hf)) hW.size hx hx (by omega) (by omega) h1 h2
  have HDD : Hid (∀ W, Only (fun _ => False) w W → Calls Tryd.prog 19 #[.int .u8 p, .bool b, .slice A n c] W fun e w' =>
      ∃ v', e = .returned (.tuple #[v', .bool true]) ∧ Row w' 5 .u8 v' (table p (xs.map (hv p))) ∧ (∀ g, v'.ownBlock = some g → W.heap.size ≤ g) ∧ Only (fun _ => False) W w') := fun W hW =>
    implRegs_any A n c w.heap.size p b xs W (hxs.only (Nat.le_refl _) hW (fun _ _ hf => hf)) hW.size hx (by omega) h1 h2
  clear hn hxs hx hn2 hys hy hB e1 e2
  go_enter Tryd.func9, Tryd.ntmps9
  go_wp2_with fail
  refine (Right_yes p _ h1 h2).mono ?_
  rintro e w0 ⟨rfl, rfl⟩
  go_wp2_with fail
  refine HA.out.mono ?_
  rintro e w1 ⟨v1, rfl, hr1, ho1⟩
  have HR1 := Lib.hid hr1
  have HO1 := Lib.hid ho1
  clear hr1 ho1
  go_wp2_with fail
  refine (HBB.out _ HO1.out).mono ?_
  rintro e w2 ⟨v2, rfl, hr2, ho2⟩
  have HR2 := Lib.hid hr2
  have HP2 := Lib.hid ho2
  have HO2 := Lib.hid (HO1.out.trans ho2 (fun _ hf _ => hf))
  clear hr2 ho2
  go_wp2_with fail
  refine (HC.out _ HO2.out).mono ?_
  rintro e w3 ⟨v3, rfl, hr3, ho3⟩
  have HR3 := Lib.hid hr3
  have HP3 := Lib.hid ho3
  have HO3 := Lib.hid (HO2.out.trans ho3 (fun _ hf _ => hf))
  clear hr3 ho3
  go_wp2_with fail
  refine (HDD.out _ HO3.out).mono ?_
  rintro e w4 ⟨v4, rfl, hr4, _, ho4⟩
  have h34 := HP3.out.trans ho4 (fun _ hf _ => hf)
  have h2w := HR2.out.only h34 (fun _ _ hf => hf)
  have HSA := Lib.hid (same_rows HR1.out h2w (HP2.out.trans h34 (fun _ hf _ => hf)) (by rw [table_length]; omega) 0)
  have HSB := Lib.hid (same_rows HR3.out hr4 ho4 (by rw [table_length]; omega))
  have HO4 := Lib.hid (HO3.out.trans ho4 (fun _ hf _ => hf))
  clear hr4 ho4 h34 h2w
  go_wp2_with fail
  refine HSA.out.mono ?_
  rintro e w6 ⟨rfl, q, rfl⟩
  go_wp2_with fail
  refine (HSB.out q).mono ?_
  rintro e w7 ⟨rfl, q2, rfl⟩
  go_wp2_with fail
  go_ret
  exact ⟨rfl, (HO4.out.drewN q2).new⟩
end Go.Proofs.YtoegfdndoeiolaaDoor
