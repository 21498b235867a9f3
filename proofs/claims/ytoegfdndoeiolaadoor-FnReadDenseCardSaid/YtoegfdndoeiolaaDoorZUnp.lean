/- Walks: keys are unpacked from bytes, and packed and unpacked by the thin function. Conditions: the keys rise and may be a sketch's; the variables of the errors hold errors. -/
import Derived.Test.YtoegfdndoeiolaaDoorUnm
namespace Go.Proofs.YtoegfdndoeiolaaDoor
open Go.RowKit

theorem info_u32 : (Tryd.prog.info? 26).map (fun i => (i.zero, i.size, i.bytes)) = some (some (.int .u32 0), 1, 4) := by kernel_rfl
theorem Row.row_ne {w : World} {e e' : TypeId} {k k' : IntKind} {v v' : Value} {xs xs' : List Nat} (h : Row w e k v xs) (h' : Row w e' k' v' xs') (hne : e ≠ e') : ∀ g, v.ownBlock = some g → v'.ownBlock ≠ some g := by
  intro g hg hg'
  rcases h.2 with ⟨rfl, _⟩ | ⟨g1, cap, cur, rfl, _, hh, _⟩
  · simp [Value.ownBlock] at hg
  · rcases h'.2 with ⟨rfl, _⟩ | ⟨g2, cap2, cur2, rfl, _, hh2, _⟩
    · simp [Value.ownBlock] at hg'
    · simp [Value.ownBlock] at hg hg'
      subst hg
      subst hg'
      rw [hh] at hh2
      injection hh2 with hh2
      injection hh2 with _ ht
      exact hne ht
theorem valid_inj {p : Nat} {ks ks' : List Nat} (h : Valid p ks) (h' : Valid p ks') (he : encFrom 0 ks = encFrom 0 ks') : ks' = ks := by
  obtain ⟨rest, rfl, hr⟩ := valid_prefix h.1 h.2.1 h' (r := []) (by rw [List.append_nil, he])
  cases rest with
  | nil => simp
  | cons k rest =>
    have h1 := congrArg List.length hr
    have := varint_pos (k - lastOr 0 ks)
    simp only [encFrom, List.length_append, List.length_nil] at h1
    omega

/-- A list that is read from its own bytes. -/
theorem unmarshal_own (L : Nat) (v0 : Value) (ad : Addr) (n c p : Nat) (ks : List Nat) (w : World) (hbs : Nums w w.heap.size .u8 (some ad) n (listBytes ks)) (hnc : n ≤ c) (hc : c ≤ 9223372036854775807)
    (h1 : 4 ≤ p) (h2 : p ≤ 18) (hl : CList w L v0 []) (he : Errs w) (hv : Valid p ks) :
    Calls Tryd.prog 47 #[.pointer (some ⟨L, 0, none⟩), .slice (some ad) n c, .int .u8 p] w fun e w' =>
      e = .returned .nilIface ∧ ∃ v', CList w' L v' ks ∧ (∀ g, v'.ownBlock = some g → w.heap.size ≤ g) ∧ Only (fun b => b = L) w w' := by
  have h32 : ∀ k ∈ ks, k < 4294967296 := fun k hk => (hv.2.1 k hk).1
  have hle := encFrom_le 0 ks h32
  have hlen := hv.2.2
  have hn : n < 1099511627776 := by
    have := hbs.1
    simp only [listBytes, List.length_append, be32_len] at this
    omega
  refine (unmarshal_any L v0 ad n c p ks.length (lastOr 0 ks) (encFrom 0 ks).length (encFrom 0 ks) w hbs (encFrom_byte 0 ks) (by omega) (lastOr_lt h32) (by omega) hnc hc hn h1 h2 hl he).mono ?_
  rintro e w' (⟨ks', v', hv', ha, rfl, hcl, hnew, ho⟩ | ⟨hbad, _⟩)
  · obtain rfl := valid_inj hv hv' ha.2.2.2
    exact ⟨rfl, v', hcl, hnew, ho⟩
  · exact absurd ⟨rfl, rfl, rfl, rfl⟩ (hbad ks hv)

set_option maxHeartbeats 1000000 in
set_option maxRecDepth 100000 in
theorem ZZUnpack_any (ad : Addr) (n c p : Nat) (ks : List Nat) (w : World) (hbs : Nums w w.heap.size .u8 (some ad) n (listBytes ks)) (hnc : n ≤ c) (hc : c ≤ 9223372036854775807)
    (h1 : 4 ≤ p) (h2 : p ≤ 18) (he : Errs w) (hv : Valid p ks) :
    Calls Tryd.prog 31 #[.slice (some ad) n c, .int .u8 p] w fun e w' =>
      ∃ v', e = .returned (.tuple #[v', .nilIface]) ∧ Row w' 26 .u32 v' ks ∧ Only (fun _ => False) w w' ∧ ∀ g, v'.ownBlock = some g → w.heap.size ≤ g := by
  obtain ⟨i0, hi, hz0, hz1, hz2⟩ := info_parts info_u32
  have HB := Lib.hid hbs
  have HE := Lib.hid he
  have HV := Lib.hid hv
  have hK := Lib.hid hv.keys
  have hlk := hv.2.2
  clear hbs he hv
  go_enter Tryd.func31, Tryd.ntmps31
  go_wp2_with (first
    | (go_at_call 46; refine (newCompressedList_any 0 _ (by omega)).mono ?_; rintro e w1 ⟨L, v, rfl, hL, hvL, hcl, hon⟩)
    | (go_at_call 47; refine (unmarshal_own L v ad n c p ks _ ((HB.out.only (Nat.le_refl _) hon (fun _ _ hf => hf)).more hon.size) hnc hc h1 h2 hcl (HE.out.only hon (fun hf => hf) (fun hf => hf)) HV.out).mono ?_; rintro e w2 ⟨rfl, v2, hcl2, hnew2, hon2⟩)
    | (go_at_call 48; refine (Iter_any L _).mono ?_; rintro e w3 ⟨rfl, hon3⟩))
  have hw3 : Only (fun _ => False) w w3 := (hon.trans hon2 (fun k hk hlt => by omega)).trans hon3 (fun k hk _ => hk)
  have hcl3 : CList w3 L v2 ks := hcl2.only hon3 (fun hf => hf) (fun _ _ hf => hf)
  have hv2 : ∀ g, v2.ownBlock = some g → w.heap.size ≤ g := fun g hg => by have := hnew2 g hg; have := hon.size; omega
  have HW3 := Lib.hid hw3
  have HC3 := Lib.hid hcl3
  clear hon hon2 hon3 hcl hcl2 hnew2 hvL hw3 hcl3
  go_loopg [8, 9] ks.length (fun g s8 s9 wr => ∃ t I, g + t = ks.length ∧ s9 = .pointer (some ⟨I, 0, none⟩) ∧ w.heap.size ≤ I ∧ ItAt wr I L (ks.take t) ∧ Hid (CList wr L v2 ks) ∧ Row wr 26 .u32 s8 (ks.take t) ∧ (∀ g, s8.ownBlock = some g → w.heap.size ≤ g) ∧ Only (fun _ => False) w wr)
  case atStart =>
    refine ⟨0, w3.heap.size, by omega, rfl, HW3.out.size, ?_, ?_, Row.nil_ _ _ _, by simp [Value.ownBlock], HW3.out.alloc _⟩
    · exact Blk.new w3 _ _
    · exact HC3.out.only ((Only.refl (fun _ => False) w3).alloc _) (fun hf => hf) (fun _ _ hf => hf)
  case round =>
    obtain ⟨t, I, hg, rfl, hI, hit, hcl, hrow, hrn, hwr⟩ := hrel
    have c0 : wr.cell? ⟨I, 0, none⟩ = some (.int .i64 (at_ (ks.take t) : Nat)) := hit.cell 0
    have c1 : wr.cell? ⟨I, 1, none⟩ = some (.int .u32 (lastOr 0 (ks.take t) : Nat)) := hit.cell 1
    have c2 : wr.cell? ⟨I, 2, none⟩ = some (.pointer (some ⟨L, 0, none⟩)) := hit.cell 2
    have hIL : I ≠ L := hit.ne_ hcl.out.1 (by decide)
    by_cases hlt : t < ks.length
    · obtain ⟨k, hkd⟩ : ∃ k, ks.getD t 0 = k := ⟨_, rfl⟩
      have hsplit : ks = ks.take t ++ k :: ks.drop (t + 1) := by rw [← hkd]; exact list_split ks t hlt
      have htake : ks.take (t + 1) = ks.take t ++ [k] := by rw [← hkd]; exact list_take_succ ks t hlt
      have hcl' : CList wr L v2 (ks.take t ++ k :: ks.drop (t + 1)) := by rw [← hsplit]; exact hcl.out
      have hk' : Keys (ks.take t ++ k :: ks.drop (t + 1)) := by rw [← hsplit]; exact hK.out
      have HN := Lib.hid (HasNext_any L v2 (ks.take t) (k :: ks.drop (t + 1)) wr hcl' hk')
      have HT := Lib.hid htake
      have HCL := Lib.hid hcl'
      have HK' := Lib.hid hk'
      have HIT := Lib.hid hit
      clear hsplit htake hcl' hk' hkd
      go_wp2_with (first
        | (go_at_call 49; refine HN.out.mono ?_; rintro e w4 ⟨rfl, hon4⟩)
        | (go_at_call 50; refine (Next_any I L v2 (ks.take t) (ks.drop (t + 1)) k w4 (HIT.out.only hon4 (fun hf => hf)) (HCL.out.only hon4 (fun hf => hf) (fun _ _ hf => hf)) HK'.out).mono ?_; rintro e w5 ⟨rfl, hit5, hon5⟩)
        | (at_builtin; go_must (refine wpList_append_one rfl (.tmp 22) (.tmp 24) 24 rfl 26 i0 (.int .u32 0) 4 Tryd.underlying24 hi hz0 hz1 hz2 rfl .u32 u8 (ks.take t) rfl ?c1 k 1 26 rfl ?c4 ?c5 ?_)))
      case c1 => exact (hrow.only hon4 (fun _ _ hf => hf)).only hon5 (fun g hg hgl => hrow.blk_ne HIT.out (by decide) (by rw [hg, hgl]))
      case c4 => rw [List.length_take]; omega
      case c5 => rw [List.length_take]; omega
      intro v6 w6 hrow6 hon6 hlies6
      have hu8 : u8.ownBlock ≠ some I := hrow.blk_ne HIT.out (by decide)
      have hit6 : ItAt w6 I L (ks.take t ++ [k]) := hit5.only hon6 hu8
      have d0 : w6.cell? ⟨I, 0, none⟩ = some (.int .i64 (at_ (ks.take t ++ [k]) : Nat)) := hit6.cell 0
      have d1 : w6.cell? ⟨I, 1, none⟩ = some (.int .u32 (lastOr 0 (ks.take t ++ [k]) : Nat)) := hit6.cell 1
      have d2 : w6.cell? ⟨I, 2, none⟩ = some (.pointer (some ⟨L, 0, none⟩)) := hit6.cell 2
      have hwr6 : Only (fun _ => False) w w6 := ((hwr.trans hon4 (fun k hk _ => hk)).trans hon5 (fun k hk hlt => by omega)).trans hon6 (fun g hg hlt => by have := hrn g hg; omega)
      have hcl6 : CList w6 L v2 ks := by
        refine ((hcl.out.only hon4 (fun hf => hf) (fun _ _ hf => hf)).only hon5 (fun h => hIL h.symm) (fun g hg h => hcl.out.2.1.blk_ne HIT.out (by decide) (by rw [hg, h]))).only hon6 (hrow.blk_ne hcl.out.1 (by decide)) ?_
        intro g hg
        exact hcl.out.2.1.row_ne hrow (by decide) g hg
      have hr6 : ∀ g, v6.ownBlock = some g → w.heap.size ≤ g := by
        intro g hg
        rcases hlies6 with h | ⟨g', h, hge⟩
        · exact hrn g (by rw [← h]; exact hg)
        · rw [hg] at h; injection h with h
          have := hwr.size; have := hon4.size; have := hon5.size; omega
      have HIT6 := Lib.hid hit6
      have HCL6 := Lib.hid hcl6
      clear hit5 hit6 hcl6 hon4 hon5 hon6 hlies6 c0 c1 c2
      go_wp2
      go_roundg (ks.length - (t + 1))
      case measure => omega
      case rel =>
        refine ⟨t + 1, w6.heap.size, by omega, rfl, hwr6.size, ?_, ?_, ?_, hr6, hwr6.alloc _⟩
        · rw [HT.out]; exact Blk.new w6 _ _
        · exact HCL6.out.only ((Only.refl (fun _ => False) w6).alloc _) (fun hf => hf) (fun _ _ hf => hf)
        · rw [HT.out]; exact hrow6.only ((Only.refl (fun _ => False) w6).alloc _) (fun _ _ hf => hf)
    · have ht : t = ks.length := by omega
      subst ht
      rw [List.take_length] at hit c0 c1 hrow
      have hcl' : CList wr L v2 (ks ++ []) := by rw [List.append_nil]; exact hcl.out
      have HN := Lib.hid (HasNext_any L v2 ks [] wr hcl' (by rw [List.append_nil]; exact hK.out))
      have HR := Lib.hid hrow
      clear hcl' hrow
      go_wp2_with (first
        | (go_at_call 49; refine HN.out.mono ?_; rintro e w4 ⟨rfl, hon4⟩))
      go_ret2
      exact ⟨_, rfl, HR.out.only hon4 (fun _ _ hf => hf), hwr.trans hon4 (fun k hk _ => hk), hrn⟩

set_option maxRecDepth 100000 in
theorem implUnpacked_any (A : Option Addr) (n c p : Nat) (ks : List Nat) (w : World) (hks : Nums w w.heap.size .u32 A n ks) (h1 : 4 ≤ p) (h2 : p ≤ 18) (he : Errs w) (hv : Valid p ks) :
    Calls Tryd.prog 17 #[.slice A n c, .int .u8 p] w fun e w' =>
      ∃ v', e = .returned (.tuple #[v', .bool true]) ∧ Row w' 26 .u32 v' ks ∧ Only (fun _ => False) w w' ∧ ∀ g, v'.ownBlock = some g → w.heap.size ≤ g := by
  have hlk := hv.2.2
  have HP := Lib.hid (ZZPack_any A n c ks w hks hv.keys (by omega))
  have HE := Lib.hid he
  have HV := Lib.hid hv
  clear hks he hv
  go_enter Tryd.func17, Tryd.ntmps17
  go_wp2_with (go_at_call 32; refine HP.out.mono ?_; rintro e w1 ⟨v1, rfl, hrow1, hon1⟩)
  obtain ⟨A1, c1, rfl, hc1, hn1, hA1, _⟩ := hrow1.nums
  have hpos : 0 < (listBytes ks).length := by simp only [listBytes, List.length_append, be32_len]; omega
  obtain ⟨ad, rfl, hadb, _⟩ := hn1.2 hpos
  have hcm : c1 ≤ 9223372036854775807 := by
    rcases hrow1.2 with ⟨_, h0⟩ | ⟨g, cap, cur, hv, _, _, _, hm, _⟩
    · omega
    · injection hv with _ _ hcc
      subst hcc
      unfold maxLen at hm; omega
  have HU := Lib.hid (ZZUnpack_any ad _ c1 p ks w1 hn1 hc1 hcm h1 h2 (HE.out.only hon1 (fun hf => hf) (fun hf => hf)) HV.out)
  clear hrow1 hn1 hA1 hadb hc1 hcm
  go_wp2_with (go_at_call 31; refine HU.out.mono ?_; rintro e w2 ⟨v2, rfl, hrow2, hon2, hnew2⟩)
  go_quiet (fail)
  go_wp2
  go_ret2
  exact ⟨v2, rfl, hrow2, (hon1.trans hon2 (fun _ hf _ => hf)).drewN _, fun g hg => Nat.le_trans hon1.size (hnew2 g hg)⟩
end Go.Proofs.YtoegfdndoeiolaaDoor
