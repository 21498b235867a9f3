/- Walks and plain laws, one behind the other (Set, Each, Sketch, State, DenseIO, UnmDense, MarDense, ReadDense, LawRead); their conditions stand at each. -/
import Derived.Test.YtoegfdndoeiolaaDoorQ10
import Derived.Maps.OwnSet
import Derived.Maps.Views
import Derived.Test.YtoegfdndoeiolaaDoorQ1

/- Walks: a set of keys in the order in which they came: made, added to, counted, emptied. Conditions: keys below 2^32; fewer than 2^40 of them. -/
namespace Go.Proofs.YtoegfdndoeiolaaDoor
open Go.RowKit
open Go.Maps (Keyed)

theorem law32 : Keyed Tryd.prog 26 := Maps.int_keyed Tryd.underlying26
theorem zeroBool (W : World) : (zeroValue 4).run Tryd.prog W = .ok (.bool false) W := by kernel_rfl
theorem key32 {k : Nat} (h : k < 4294967296) : keyOf Tryd.prog 26 (.int .u32 (k : Int)) = some (.int .u32 (k : Int)) := Maps.keyOf_int_mk Tryd.underlying26 (WalkArith.wf_u32 (by omega))

section
variable {P : Program} {t kt et : TypeId} {w w' : World} {M k : Nat} {K : List Nat} {S : Nat → Prop}
/-- Block M is a map that has just the keys K, each with true. -/
def MapOfP (P : Program) (kt et : TypeId) (w : World) (M : Nat) (K : List Nat) : Prop :=
  ∃ n D, w.ownsMap (H := Unit) P kt (plainElem P et) M n D ∧ n ≤ K.length ∧ ∀ k : Nat, k < 4294967296 → D.atKey (.int .u32 (k : Int)) (.lit (.bool false)) = .lit (.bool (decide (k ∈ K)))
theorem MapOfP.lt (h : MapOfP P kt et w M K) : M < w.heap.size := by
  obtain ⟨n, D, h, _⟩ := h
  exact h.lt
theorem MapOfP.only (h : MapOfP P kt et w M K) (ho : Only S w w') (hn : ¬ S M) : MapOfP P kt et w' M K := by
  obtain ⟨n, D, h, h1, h2⟩ := h
  refine ⟨n, D, ?_, h1, h2⟩
  obtain ⟨es, clock, hb, F, hs, hD⟩ := h
  exact ⟨es, clock, (ho.block M (Array.getElem?_eq_some_iff.1 hb).1 hn).trans hb, F, hs, hD⟩
theorem MapOfP.ne {g : Nat} {ty : TypeId} {cs : Array Value} (h : MapOfP P kt et w M K) (hb : Blk w g ty cs) : M ≠ g := by
  obtain ⟨n, D, ⟨es, clock, hm, _⟩, _⟩ := h
  rintro rfl
  unfold Blk at hb
  rw [hm] at hb
  injection hb with hb
  cases hb
theorem MapOfP.row_ne {e : TypeId} {kk : IntKind} {v : Value} {xs : List Nat} (h : MapOfP P kt et w M K) (hr : Row w e kk v xs) : v.ownBlock ≠ some M := by
  obtain ⟨n, D, ⟨es, clock, hm, _⟩, _⟩ := h
  intro he
  rcases hr.2 with ⟨rfl, _⟩ | ⟨g, cap, cur, rfl, _, hh, _⟩
  · simp [Value.ownBlock] at he
  · have : g = M := by simpa [Value.ownBlock] using he
    subst this
    rw [hm] at hh
    injection hh with hh
    cases hh
theorem MapOfP.made (w : World) : MapOfP P kt et (w.alloc (.map #[] 0)) w.heap.size [] :=
  ⟨0, _, World.ownsMap_made w _ _ _, Nat.le_refl _, fun k _ => by simp [DataW.atKey]⟩
theorem plainElem_bool_inv {H : Type} (he : P.underlying et = some .bool) {v : Value} {b : Bool} {ps : List MemPlace} (h : plainElem (H := H) P et v = some (.lit (.bool b), ps)) : v = .bool b := by
  unfold plainElem at h
  rw [he] at h
  cases v <;> simp at h
  rw [h.1]
theorem MapOfP.look (law : Keyed P kt) (ht : P.underlying t = some (.map kt et)) (he : P.underlying et = some .bool) (hz : (zeroValue et).run P w = .ok (.bool false) w) (hkey : keyOf P kt (.int .u32 (k : Int)) = some (.int .u32 (k : Int)))
    (h : MapOfP P kt et w M K) (hk : k < 4294967296) : (Instr.lookup t (.map (some M)) (.int .u32 (k : Int)) false).run P w = .ok (.bool (decide (k ∈ K))) w := by
  obtain ⟨n, D, hm, _, h2⟩ := h
  obtain ⟨v, ps, hrun, hv⟩ := hm.lookup law ht hz (plainElem_bool he false) hkey
  rw [h2 k hk] at hv
  rw [hrun, plainElem_bool_inv he hv]
theorem MapOfP.put (law : Keyed P kt) (ht : P.underlying t = some (.map kt et)) (he : P.underlying et = some .bool) (hkey : keyOf P kt (.int .u32 (k : Int)) = some (.int .u32 (k : Int)))
    (h : MapOfP P kt et w M K) (hl : K.length < maxLen) :
    ∃ w', (Instr.mapUpdate t (.map (some M)) (.int .u32 (k : Int)) (.bool true)).run P w = .ok () w' ∧ MapOfP P kt et w' M (K ++ [k]) ∧ Only (fun b => b = M) w w' := by
  obtain ⟨n, D, hm, h1, h2⟩ := h
  obtain ⟨w', hrun, hm', hg⟩ := hm.update law ht (Nat.lt_of_le_of_lt h1 hl) hkey (plainElem_bool he true)
  refine ⟨w', hrun, ⟨n + 1, _, hm', by rw [List.length_append]; exact Nat.add_le_add h1 (Nat.le_refl 1), fun j hj => ?_⟩, (Only.of_grown hg).mono fun b hb _ => by injection hb with hb; exact hb.symm⟩
  by_cases hjk : j = k
  · subst hjk
    rw [Maps.atKey_put_same hm.isMap (law.key hkey)]
    simp
  · rw [Maps.atKey_put_other (by intro h; injection h with _ h; omega), h2 j hj]
    simp [hjk]
end
abbrev MapOf (w : World) (M : Nat) (K : List Nat) : Prop := MapOfP Tryd.prog 26 4 w M K
theorem look_run {w : World} {M k : Nat} {K : List Nat} (h : MapOf w M K) (hk : k < 4294967296) : (Instr.lookup 126 (.map (some M)) (.int .u32 (k : Int)) false).run Tryd.prog w = .ok (.bool (decide (k ∈ K))) w :=
  MapOfP.look law32 Tryd.underlying126 Tryd.underlying4 (zeroBool w) (key32 hk) h hk
theorem put_run {w : World} {M k : Nat} {K : List Nat} (h : MapOf w M K) (hk : k < 4294967296) (hl : K.length < 1099511627776) :
    ∃ w', (Instr.mapUpdate 126 (.map (some M)) (.int .u32 (k : Int)) (.bool true)).run Tryd.prog w = .ok () w' ∧ MapOf w' M (K ++ [k]) ∧ Only (fun b => b = M) w w' :=
  MapOfP.put law32 Tryd.underlying126 Tryd.underlying4 (key32 hk) h (Nat.lt_trans hl (by unfold maxLen; decide))

/-- Block T is a set of the keys K, in this order; v is its slice of them, M its map. -/
structure USet (w : World) (T : Nat) (v : Value) (M : Nat) (K : List Nat) : Prop where
  blk : Blk w T 128 #[v, .map (some M)]
  row : Row w 26 .u32 v K
  map : MapOf w M K
  nodup : K.Nodup
  lt : ∀ k ∈ K, k < 4294967296
theorem USet.only {S : Nat → Prop} {w w' : World} {T M : Nat} {v : Value} {K : List Nat} (h : USet w T v M K) (ho : Only S w w') (h1 : ¬ S T) (h2 : ∀ g, v.ownBlock = some g → ¬ S g) (h3 : ¬ S M) : USet w' T v M K :=
  ⟨h.blk.only ho h1, h.row.only ho h2, h.map.only ho h3, h.nodup, h.lt⟩

theorem newU32Set_any (n : Nat) (w : World) :
    Calls Tryd.prog 81 #[.int .i64 n] w fun e w' =>
      ∃ T M, e = .returned (.pointer (some ⟨T, 0, none⟩)) ∧ w.heap.size ≤ T ∧ w.heap.size ≤ M ∧ USet w' T (.slice none 0 0) M [] ∧ Only (fun _ => False) w w' := by
  have hmm := @run_makeMap Tryd.prog
  go_enter Tryd.func81, Tryd.ntmps81
  go_wp2
  go_ret
  exact ⟨w.heap.size + 1, w.heap.size, rfl, by omega, Nat.le_refl _, ⟨Blk.new (w.alloc (.map #[] 0)) _ _ |> fun h => (by simpa using h), Row.nil_ _ _ _, (MapOfP.made w).only ((Only.refl (fun _ => False) _).alloc _) (fun hf => hf), List.nodup_nil, fun k hk => (by cases hk)⟩, ((Only.refl _ w).alloc _).alloc _⟩

theorem makeSet_any (n : Nat) (w : World) :
    Calls Tryd.prog 56 #[.int .i64 n] w fun e w' =>
      ∃ T M, e = .returned (.agg #[.pointer (some ⟨T, 0, none⟩)]) ∧ w.heap.size ≤ T ∧ w.heap.size ≤ M ∧ USet w' T (.slice none 0 0) M [] ∧ Only (fun _ => False) w w' := by
  have HU : ∀ W, Hid (Calls Tryd.prog 81 #[.int .i64 n] W fun e w' =>
      ∃ T M, e = .returned (.pointer (some ⟨T, 0, none⟩)) ∧ W.heap.size ≤ T ∧ W.heap.size ≤ M ∧ USet w' T (.slice none 0 0) M [] ∧ Only (fun _ => False) W w') := fun W => newU32Set_any n W
  go_enter Tryd.func56, Tryd.ntmps56
  go_wp2_with (go_at_call 81; refine (HU _).out.mono ?_; rintro e w1 ⟨T, M, rfl, hT, hM, hs, hon⟩; have hbx := Lib.hid ((Blk.new w 71 #[.pointer none]).only hon (fun hf => hf)); have fx := hbx.out.frozen 0; have cx : w1.cell? ⟨w.heap.size, 0, none⟩ = some (.pointer none) := hbx.out.cell 0)
  have cy : (w1.setCell ⟨w.heap.size, 0, none⟩ (.pointer (some ⟨T, 0, none⟩))).cell? ⟨w.heap.size, 0, none⟩ = some (.pointer (some ⟨T, 0, none⟩)) := (hbx.out.set_ 0 (.pointer (some ⟨T, 0, none⟩))).cell 0
  have hTs : w.heap.size + 1 ≤ T := by simpa using hT
  have hMs : w.heap.size + 1 ≤ M := by simpa using hM
  refine bodyPost_ret (v := .agg #[.pointer (some ⟨T, 0, none⟩)]) (by simp [results, Tryd.results56, go_sem, cy]) rfl
    ⟨T, M, rfl, by omega, by omega, hs.only ((Only.refl (fun b => b = w.heap.size) w1).setCell (fun _ => rfl) _) (by omega) (by simp [Value.ownBlock]) (by omega), ((((Only.refl _ w).alloc _).trans hon (fun _ hf _ => hf)).setCell (fun h => absurd h (Nat.lt_irrefl _)) _)⟩

set_option maxRecDepth 100000 in
theorem Add_any (T M k : Nat) (v : Value) (K : List Nat) (w : World) (h : USet w T v M K) (hk : k < 4294967296) (hl : K.length < 1099511627776) :
    Calls Tryd.prog 97 #[.pointer (some ⟨T, 0, none⟩), .int .u32 k] w fun e w' =>
      (k ∈ K ∧ e = .returned (.bool false) ∧ w = w') ∨ (k ∉ K ∧ e = .returned (.bool true) ∧ ∃ v', USet w' T v' M (K ++ [k]) ∧ Only (fun b => b = T ∨ b = M ∨ v.ownBlock = some b) w w' ∧ Lies w v v') := by
  have c0 : w.cell? ⟨T, 0, none⟩ = some v := h.blk.cell 0
  have c1 : w.cell? ⟨T, 1, none⟩ = some (.map (some M)) := h.blk.cell 1
  have hlook := look_run h.map hk
  by_cases hin : k ∈ K
  · have hd : decide (k ∈ K) = true := decide_eq_true hin
    rw [hd] at hlook
    have HIN := Lib.hid hin
    clear h hin hd
    go_enter Tryd.func97, Tryd.ntmps97
    go_wp2
    go_ret
    exact .inl ⟨HIN.out, rfl, rfl⟩
  · have hd : decide (k ∈ K) = false := decide_eq_false hin
    rw [hd] at hlook
    obtain ⟨w1, hput, hmap1, hon1⟩ := put_run h.map hk hl
    have hMT : T ≠ M := fun e => h.map.ne h.blk e.symm
    have hb1 := h.blk.only hon1 hMT
    have d0 : w1.cell? ⟨T, 0, none⟩ = some v := hb1.cell 0
    have f0 := hb1.frozen 0
    have HIN := Lib.hid hin
    have H := Lib.hid h
    have HM1 := Lib.hid hmap1
    have HO1 := Lib.hid hon1
    have HB1 := Lib.hid hb1
    clear h hin hd hmap1 hon1 hb1
    go_enter Tryd.func97, Tryd.ntmps97
    have hr1 : Row w1 26 .u32 v K := H.out.row.only HO1.out (fun g hg he => H.out.map.row_ne H.out.row (by rw [hg, he]))
    obtain ⟨i0, hi, hz0, hz1, hz2⟩ := info_parts info_u32
    go_wp2_with (at_builtin; go_must (refine wpList_append_one rfl (.tmp 20) (.tmp 22) 24 rfl 26 i0 (.int .u32 0) 4 Tryd.underlying24 hi hz0 hz1 hz2 rfl .u32 v K rfl hr1 k 1 26 rfl ?c4 ?c5 ?_))
    case c4 => omega
    case c5 => omega
    intro v2 w2 hrow2 hon2 hlies2
    obtain ⟨A2, cp2, hv2, _⟩ := hrow2.nums
    have hkl : (K ++ [k]).length = K.length + 1 := by simp
    rw [hkl] at hv2
    subst hv2
    clear hkl
    have hvT : v.ownBlock ≠ some T := H.out.row.blk_ne H.out.blk (by decide)
    have hvM : v.ownBlock ≠ some M := H.out.map.row_ne H.out.row
    have hb2 : Blk w2 T 128 #[v, .map (some M)] := HB1.out.only hon2 hvT
    have hm2 : MapOf w2 M (K ++ [k]) := HM1.out.only hon2 hvM
    have f2 := hb2.frozen 0
    have e2 : w2.cell? ⟨T, 0, none⟩ = some v := hb2.cell 0
    have HB2 := Lib.hid hb2
    have HM2 := Lib.hid hm2
    have hs1 := HO1.out.size
    clear hb2 hm2
    go_wp2
    go_ret
    have hlies : Lies w v (.slice A2 (K.length + 1) cp2) := by
      rcases hlies2 with h | ⟨g, h, hge⟩
      · exact .inl h
      · exact .inr ⟨g, h, Nat.le_trans hs1 hge⟩
    have hTw : T < w.heap.size := H.out.blk.lt
    have hv2T : (Value.slice A2 (K.length + 1) cp2).ownBlock ≠ some T := fun he => by
      rcases hlies with h | ⟨g, h, hge⟩
      · exact hvT (h.symm.trans he)
      · rw [he] at h; injection h with h; omega
    refine .inr ⟨HIN.out, rfl, .slice A2 (K.length + 1) cp2, ⟨HB2.out.set_ 0 (.slice A2 (K.length + 1) cp2), hrow2.only ((Only.refl (fun b => b = T) w2).setCell (fun _ => rfl) _) (fun g hg he => hv2T (by rw [hg, he])), HM2.out.only ((Only.refl (fun b => b = T) w2).setCell (fun _ => rfl) _) (fun h => hMT h.symm), ?_, ?_⟩, ?_, hlies⟩
    · rw [List.nodup_append]
      exact ⟨H.out.nodup, by simp, fun a ha b hb => by rw [List.mem_singleton] at hb; subst hb; exact fun he => HIN.out (he ▸ ha)⟩
    · intro j hj
      rcases List.mem_append.1 hj with hj | hj
      · exact H.out.lt j hj
      · rw [List.mem_singleton] at hj; omega
    · exact ((HO1.out.mono (fun b hb _ => .inr (.inl hb))).trans hon2 (fun b hb _ => .inr (.inr hb))).setCell (fun _ => .inl rfl) _

theorem setLen_any (T M : Nat) (v : Value) (K : List Nat) (w : World) (h : USet w T v M K) :
    Calls Tryd.prog 95 #[.pointer (some ⟨T, 0, none⟩)] w fun e w' => e = .returned (.int .i64 (K.length : Nat)) ∧ w = w' := by
  obtain ⟨A, c, rfl, _, _, _, _⟩ := h.row.nums
  have c0 : w.cell? ⟨T, 0, none⟩ = some (.slice A K.length c) := h.blk.cell 0
  clear h
  go_enter Tryd.func95, Tryd.ntmps95
  go_wp2
  go_ret
  exact ⟨rfl, rfl⟩

theorem sLen_any (T M : Nat) (v : Value) (K : List Nat) (w : World) (h : USet w T v M K) :
    Calls Tryd.prog 89 #[.agg #[.pointer (some ⟨T, 0, none⟩)]] w fun e w' => e = .returned (.int .i64 (K.length : Nat)) ∧ Only (fun _ => False) w w' := by
  have HL : Hid (∀ W, Only (fun _ => False) w W → Calls Tryd.prog 95 #[.pointer (some ⟨T, 0, none⟩)] W fun e w' => e = .returned (.int .i64 (K.length : Nat)) ∧ W = w') := fun W hW =>
    setLen_any T M v K W (h.only hW (fun hf => hf) (fun _ _ hf => hf) (fun hf => hf))
  clear h
  go_enter Tryd.func89, Tryd.ntmps89
  go_wp2_with (go_at_call 95; refine (HL.out _ ((Only.refl _ w).alloc _)).mono ?_; rintro e w1 ⟨rfl, rfl⟩)
  go_ret
  exact ⟨rfl, (Only.refl _ w).alloc _⟩

/-- 'set.add': what the set holds behind it. -/
def AddPost (w : World) (T M k : Nat) (v : Value) (K : List Nat) (e : Ending) (w' : World) : Prop :=
  (k ∈ K ∧ e = .returned (.bool false) ∧ USet w' T v M K ∧ Only (fun _ => False) w w') ∨ (k ∉ K ∧ e = .returned (.bool true) ∧ ∃ v', USet w' T v' M (K ++ [k]) ∧ Only (fun b => b = T ∨ b = M ∨ v.ownBlock = some b) w w' ∧ Lies w v v')
theorem add_any (T M k : Nat) (v : Value) (K : List Nat) (w : World) (h : USet w T v M K) (hk : k < 4294967296) (hl : K.length < 1099511627776) :
    Calls Tryd.prog 70 #[.agg #[.pointer (some ⟨T, 0, none⟩)], .int .u32 k] w fun e w' => AddPost w T M k v K e w' := by
  have ho : Only (fun _ => False) w (w.alloc (.cells #[.pointer (some ⟨T, 0, none⟩)] 71)) := (Only.refl _ w).alloc _
  have hs := h.only ho (fun hf => hf) (fun _ _ hf => hf) (fun hf => hf)
  have HA := Lib.hid (Add_any T M k v K _ hs hk hl)
  have HO := Lib.hid ho
  have HS := Lib.hid hs
  clear ho hs h
  go_enter Tryd.func70, Tryd.ntmps70
  go_wp2_with (go_at_call 97; refine HA.out.mono ?_; rintro e w1 (⟨hin, rfl, rfl⟩ | ⟨hin, rfl, v', hs', hon', hlies'⟩))
  · go_ret
    exact .inl ⟨hin, rfl, HS.out, HO.out⟩
  · go_ret
    refine .inr ⟨hin, rfl, v', hs', (HO.out.mono (fun _ hf _ => hf.elim)).trans hon' (fun b hb _ => hb), ?_⟩
    rcases hlies' with h | ⟨g, h, hge⟩
    · exact .inl h
    · exact .inr ⟨g, h, Nat.le_trans HO.out.size hge⟩
end Go.Proofs.YtoegfdndoeiolaaDoor

/- Walks: a function is called on each key of a set. Conditions: what the function does keeps the set. -/
namespace Go.Proofs.YtoegfdndoeiolaaDoor
open Go.RowKit

set_option maxHeartbeats 400000 in
theorem ForEachEach_any (T M : Nat) (v : Value) (K : List Nat) (w : World) (c1 : Value) (Inv : Nat → World → Prop) (h : USet w T v M K) (h0 : Inv 0 w) (hl : K.length < 1099511627776)
    (hset : ∀ i W, Inv i W → i ≤ K.length → USet W T v M K)
    (hstep : ∀ i W, i < K.length → Inv i W → Calls Tryd.prog 88 #[.int .u32 (K.getD i 0 : Nat), c1] W fun e w' => e = .returned (.bool true) ∧ Inv (i + 1) w') :
    Calls Tryd.prog 87 #[.pointer (some ⟨T, 0, none⟩), .func (.func 88) #[] #[c1]] w fun e w' => e = .returned (.tuple #[]) ∧ Inv K.length w' := by
  obtain ⟨A, c, rfl, _, hn, _, _⟩ := h.row.nums
  have c0 : w.cell? ⟨T, 0, none⟩ = some (.slice A K.length c) := h.blk.cell 0
  have HI := Lib.hid h0
  have HST := Lib.hid hstep
  have HSE := Lib.hid hset
  clear h hn h0 hstep hset
  go_enter Tryd.func87, Tryd.ntmps87
  go_wp2_with fail
  go_loopg [13] K.length (fun g s13 wr => ∃ i, g + i = K.length ∧ s13 = .int .i64 (i : Nat) ∧ Hid (Inv i wr))
  case atStart => exact ⟨0, by omega, rfl, HI.out⟩
  case round =>
    obtain ⟨i, hg, rfl, hinv⟩ := hrel
    by_cases hlt : i < K.length
    · have hs := HSE.out i wr hinv.out (by omega)
      obtain ⟨A', c', hv', _, hn, _, _⟩ := hs.row.nums
      injection hv' with e1 _ e3
      subst e1
      subst e3
      obtain ⟨ad, rfl, _, hcell⟩ := hn.at_ hlt
      obtain ⟨k, hk⟩ : ∃ k, K.getD i 0 = k := ⟨_, rfl⟩
      have HC := Lib.hid (HST.out i wr hlt hinv.out)
      rw [hk] at hcell HC
      clear hs hn hk
      go_wp2_with (go_at_call 88; refine HC.out.mono ?_; rintro e w2 ⟨rfl, hinv2⟩)
      go_roundg (K.length - (i + 1))
      case measure => omega
      case rel => exact ⟨i + 1, by omega, by go_num, hinv2⟩
    · have hi : i = K.length := by omega
      subst hi
      go_wp2_with fail
      go_end0
      exact ⟨rfl, hinv.out⟩
set_option maxHeartbeats 400000 in
theorem ForEachMerge_any (T M : Nat) (v : Value) (K : List Nat) (w : World) (c1 : Value) (Inv : Nat → World → Prop) (h : USet w T v M K) (h0 : Inv 0 w) (hl : K.length < 1099511627776)
    (hset : ∀ i W, Inv i W → i ≤ K.length → USet W T v M K)
    (hstep : ∀ i W, i < K.length → Inv i W → Calls Tryd.prog 108 #[.int .u32 (K.getD i 0 : Nat), c1] W fun e w' => e = .returned (.bool true) ∧ Inv (i + 1) w') :
    Calls Tryd.prog 87 #[.pointer (some ⟨T, 0, none⟩), .func (.func 108) #[] #[c1]] w fun e w' => e = .returned (.tuple #[]) ∧ Inv K.length w' := by
  obtain ⟨A, c, rfl, _, hn, _, _⟩ := h.row.nums
  have c0 : w.cell? ⟨T, 0, none⟩ = some (.slice A K.length c) := h.blk.cell 0
  have HI := Lib.hid h0
  have HST := Lib.hid hstep
  have HSE := Lib.hid hset
  clear h hn h0 hstep hset
  go_enter Tryd.func87, Tryd.ntmps87
  go_wp2_with fail
  go_loopg [13] K.length (fun g s13 wr => ∃ i, g + i = K.length ∧ s13 = .int .i64 (i : Nat) ∧ Hid (Inv i wr))
  case atStart => exact ⟨0, by omega, rfl, HI.out⟩
  case round =>
    obtain ⟨i, hg, rfl, hinv⟩ := hrel
    by_cases hlt : i < K.length
    · have hs := HSE.out i wr hinv.out (by omega)
      obtain ⟨A', c', hv', _, hn, _, _⟩ := hs.row.nums
      injection hv' with e1 _ e3
      subst e1
      subst e3
      obtain ⟨ad, rfl, _, hcell⟩ := hn.at_ hlt
      obtain ⟨k, hk⟩ : ∃ k, K.getD i 0 = k := ⟨_, rfl⟩
      have HC := Lib.hid (HST.out i wr hlt hinv.out)
      rw [hk] at hcell HC
      clear hs hn hk
      go_wp2_with (go_at_call 108; refine HC.out.mono ?_; rintro e w2 ⟨rfl, hinv2⟩)
      go_roundg (K.length - (i + 1))
      case measure => omega
      case rel => exact ⟨i + 1, by omega, by go_num, hinv2⟩
    · have hi : i = K.length := by omega
      subst hi
      go_wp2_with fail
      go_end0
      exact ⟨rfl, hinv.out⟩
set_option maxHeartbeats 400000 in
theorem ForEachClone_any (T M : Nat) (v : Value) (K : List Nat) (w : World) (c1 : Value) (Inv : Nat → World → Prop) (h : USet w T v M K) (h0 : Inv 0 w) (hl : K.length < 1099511627776)
    (hset : ∀ i W, Inv i W → i ≤ K.length → USet W T v M K)
    (hstep : ∀ i W, i < K.length → Inv i W → Calls Tryd.prog 96 #[.int .u32 (K.getD i 0 : Nat), c1] W fun e w' => e = .returned (.bool true) ∧ Inv (i + 1) w') :
    Calls Tryd.prog 87 #[.pointer (some ⟨T, 0, none⟩), .func (.func 96) #[] #[c1]] w fun e w' => e = .returned (.tuple #[]) ∧ Inv K.length w' := by
  obtain ⟨A, c, rfl, _, hn, _, _⟩ := h.row.nums
  have c0 : w.cell? ⟨T, 0, none⟩ = some (.slice A K.length c) := h.blk.cell 0
  have HI := Lib.hid h0
  have HST := Lib.hid hstep
  have HSE := Lib.hid hset
  clear h hn h0 hstep hset
  go_enter Tryd.func87, Tryd.ntmps87
  go_wp2_with fail
  go_loopg [13] K.length (fun g s13 wr => ∃ i, g + i = K.length ∧ s13 = .int .i64 (i : Nat) ∧ Hid (Inv i wr))
  case atStart => exact ⟨0, by omega, rfl, HI.out⟩
  case round =>
    obtain ⟨i, hg, rfl, hinv⟩ := hrel
    by_cases hlt : i < K.length
    · have hs := HSE.out i wr hinv.out (by omega)
      obtain ⟨A', c', hv', _, hn, _, _⟩ := hs.row.nums
      injection hv' with e1 _ e3
      subst e1
      subst e3
      obtain ⟨ad, rfl, _, hcell⟩ := hn.at_ hlt
      obtain ⟨k, hk⟩ : ∃ k, K.getD i 0 = k := ⟨_, rfl⟩
      have HC := Lib.hid (HST.out i wr hlt hinv.out)
      rw [hk] at hcell HC
      clear hs hn hk
      go_wp2_with (go_at_call 96; refine HC.out.mono ?_; rintro e w2 ⟨rfl, hinv2⟩)
      go_roundg (K.length - (i + 1))
      case measure => omega
      case rel => exact ⟨i + 1, by omega, by go_num, hinv2⟩
    · have hi : i = K.length := by omega
      subst hi
      go_wp2_with fail
      go_end0
      exact ⟨rfl, hinv.out⟩
set_option maxHeartbeats 400000 in
theorem ForEachBytes_any (T M : Nat) (v : Value) (K : List Nat) (w : World) (c1 : Value) (Inv : Nat → World → Prop) (h : USet w T v M K) (h0 : Inv 0 w) (hl : K.length < 1099511627776)
    (hset : ∀ i W, Inv i W → i ≤ K.length → USet W T v M K)
    (hstep : ∀ i W, i < K.length → Inv i W → Calls Tryd.prog 111 #[.int .u32 (K.getD i 0 : Nat), c1] W fun e w' => e = .returned (.bool true) ∧ Inv (i + 1) w') :
    Calls Tryd.prog 87 #[.pointer (some ⟨T, 0, none⟩), .func (.func 111) #[] #[c1]] w fun e w' => e = .returned (.tuple #[]) ∧ Inv K.length w' := by
  obtain ⟨A, c, rfl, _, hn, _, _⟩ := h.row.nums
  have c0 : w.cell? ⟨T, 0, none⟩ = some (.slice A K.length c) := h.blk.cell 0
  have HI := Lib.hid h0
  have HST := Lib.hid hstep
  have HSE := Lib.hid hset
  clear h hn h0 hstep hset
  go_enter Tryd.func87, Tryd.ntmps87
  go_wp2_with fail
  go_loopg [13] K.length (fun g s13 wr => ∃ i, g + i = K.length ∧ s13 = .int .i64 (i : Nat) ∧ Hid (Inv i wr))
  case atStart => exact ⟨0, by omega, rfl, HI.out⟩
  case round =>
    obtain ⟨i, hg, rfl, hinv⟩ := hrel
    by_cases hlt : i < K.length
    · have hs := HSE.out i wr hinv.out (by omega)
      obtain ⟨A', c', hv', _, hn, _, _⟩ := hs.row.nums
      injection hv' with e1 _ e3
      subst e1
      subst e3
      obtain ⟨ad, rfl, _, hcell⟩ := hn.at_ hlt
      obtain ⟨k, hk⟩ : ∃ k, K.getD i 0 = k := ⟨_, rfl⟩
      have HC := Lib.hid (HST.out i wr hlt hinv.out)
      rw [hk] at hcell HC
      clear hs hn hk
      go_wp2_with (go_at_call 111; refine HC.out.mono ?_; rintro e w2 ⟨rfl, hinv2⟩)
      go_roundg (K.length - (i + 1))
      case measure => omega
      case rel => exact ⟨i + 1, by omega, by go_num, hinv2⟩
    · have hi : i = K.length := by omega
      subst hi
      go_wp2_with fail
      go_end0
      exact ⟨rfl, hinv.out⟩

theorem ForEach_nil (fv : Value) (w : World) :
    Calls Tryd.prog 87 #[.pointer none, fv] w fun e w' => e = .returned (.tuple #[]) ∧ w = w' := by
  go_enter Tryd.func87, Tryd.ntmps87
  go_wp2
  exact bodyPost_ret (results_none rfl _ _ _) rfl ⟨rfl, rfl⟩

theorem hmf : ∀ (fn : Fn) (first cap : Array Value) (w : World), (Instr.makeFunc fn first cap).run Tryd.prog w = .ok (.func fn first cap) w := fun _ _ _ _ => rfl

theorem sForEach_nil (fn : Fn) (first cap : Array Value) (w : World) :
    Calls Tryd.prog 59 #[.agg #[.pointer none], .func fn first cap] w fun e w' => e = .returned (.tuple #[]) ∧ Only (fun _ => False) w w' := by
  have hmf := hmf
  have HF := fun fv W => Lib.hid (ForEach_nil fv W)
  go_enter Tryd.func59, Tryd.ntmps59
  go_wp2_with (go_at_call 87; refine (HF _ _).out.mono ?_; rintro e w2 ⟨rfl, rfl⟩)
  go_end0
  exact ⟨rfl, ((Only.refl _ w).alloc _).alloc _⟩
end Go.Proofs.YtoegfdndoeiolaaDoor

/- Walks: a sketch is made, sparse or dense. Condition: the variable of the error holds an error. -/
namespace Go.Proofs.YtoegfdndoeiolaaDoor
open Go.RowKit

/-- Block S is a sketch of p bits with these parts. -/
def SkB (w : World) (S p al : Nat) (tp lp rv : Value) : Prop := Blk w S 74 #[.int .u8 (p : Int), .int .u32 ((2 ^ p : Nat) : Int), .float .f64 al, tp, lp, rv]
/-- A dense sketch with the registers r. -/
structure Dense (w : World) (S p al : Nat) (rv : Value) (r : List Nat) : Prop where
  blk : SkB w S p al (.pointer none) (.pointer none) rv
  row : Row w 5 .u8 rv r
  len : r.length = 2 ^ p
theorem Dense.only {X : Nat → Prop} {w w' : World} {S p al : Nat} {rv : Value} {r : List Nat} (h : Dense w S p al rv r) (ho : Only X w w') (h1 : ¬ X S) (h2 : ∀ g, rv.ownBlock = some g → ¬ X g) : Dense w' S p al rv r :=
  ⟨Blk.only h.blk ho h1, h.row.only ho h2, h.len⟩
/-- A sparse sketch: the keys K that wait, the list ks. -/
structure Sparse (w : World) (S p al : Nat) (T M : Nat) (v : Value) (K : List Nat) (L : Nat) (u : Value) (ks : List Nat) : Prop where
  blk : SkB w S p al (.pointer (some ⟨T, 0, none⟩)) (.pointer (some ⟨L, 0, none⟩)) (.slice none 0 0)
  set : USet w T v M K
  list : CList w L u ks
theorem Sparse.only {X : Nat → Prop} {w w' : World} {S p al T M L : Nat} {v u : Value} {K ks : List Nat} (h : Sparse w S p al T M v K L u ks) (ho : Only X w w') (h1 : ¬ X S) (h2 : ¬ X T) (h3 : ¬ X M) (h4 : ∀ g, v.ownBlock = some g → ¬ X g)
    (h5 : ¬ X L) (h6 : ∀ g, u.ownBlock = some g → ¬ X g) : Sparse w' S p al T M v K L u ks :=
  ⟨Blk.only h.blk ho h1, h.set.only ho h2 h4 h3, h.list.only ho h5 h6⟩

theorem pow_bounds {p : Nat} (h1 : 4 ≤ p) (h2 : p ≤ 18) : 16 ≤ 2 ^ p ∧ 2 ^ p ≤ 262144 :=
  ⟨Nat.pow_le_pow_right (n := 2) (by omega) h1, Nat.pow_le_pow_right (n := 2) (by omega) h2⟩
theorem shl1_word {p m : Nat} (h2 : p ≤ 18) (hm : m = 2 ^ p) : (2 : Int) ^ p % 4294967296 = (m : Int) := by
  have hb : 2 ^ p ≤ 262144 := Nat.pow_le_pow_right (n := 2) (by omega) h2
  have e : (2 : Int) ^ p = ((2 ^ p : Nat) : Int) := by simp
  rw [e, ← hm]
  rw [← hm] at hb
  omega
theorem mk_u8 (m : Nat) (h : m ≤ 1099511627776) (k : IntKind) : ∀ W : World, (Instr.makeSlice 31 (.int k (m : Int)) (.int k (m : Int))).run Tryd.prog W = .ok (.slice (some ⟨W.heap.size, 0, none⟩) m m) (W.alloc (.cells (madeCells #[.int .u8 0] m) 5)) := fun W => by
  obtain ⟨i0, hi, hz0, hz1, hz2⟩ := info_parts info_u8
  have h := run_make_rowN (P := Tryd.prog) 31 5 i0 (.int .u8 0) Tryd.underlying31 hi hz0 k k m m (Nat.le_refl _) (by rw [hz2]; omega) (by omega) W
  rw [hz1, Nat.mul_one] at h
  exact h

set_option maxRecDepth 100000 in
theorem NewSketch_dense (p : Nat) (w : World) (h1 : 4 ≤ p) (h2 : p ≤ 18) :
    Calls Tryd.prog 34 #[.int .u8 p, .bool false] w fun e w' =>
      ∃ S al rv, e = .returned (.tuple #[.pointer (some ⟨S, 0, none⟩), .nilIface]) ∧ Dense w' S p al rv (List.replicate (2 ^ p) 0) ∧ w.heap.size ≤ S ∧ (∀ g, rv.ownBlock = some g → w.heap.size ≤ g) ∧ Only (fun _ => False) w w' := by
  have hpb := pow_bounds h1 h2
  obtain ⟨m, hm⟩ : ∃ m, m = 2 ^ p := ⟨_, rfl⟩
  have hsp := shl1_word h2 hm
  rw [← hm] at hpb
  have mk := mk_u8 m (by omega) .u32
  have HM := Lib.hid hm
  clear hm
  go_enter Tryd.func34, Tryd.ntmps34
  go_wp2_with (first
    | (go_at_call 54; refine (checkPrecision_ok p _ h1 h2).mono ?_; rintro e w' ⟨rfl, rfl⟩)
    | (go_at_call 55; refine (alpha_any _ _).mono ?_; rintro e w1 ⟨⟨al, rfl⟩, hw1⟩; have HW1 : Hid (Only (fun _ => False) w w1) := (by obtain ⟨n, rfl⟩ := hw1; exact (Only.refl _ w).drewN n); clear hw1))
  go_ret2
  have hs1 := HW1.out.size
  refine ⟨w1.heap.size, al, .slice (some ⟨w1.heap.size + 1, 0, none⟩) m m, rfl, ⟨?_, ?_, by simp⟩, hs1, fun g hg => own_ge hg (by simp; omega), (HW1.out.alloc _).alloc _⟩
  · unfold SkB
    rw [← HM.out]
    exact (Blk.new w1 _ _).alloc _
  · have h := row_made (w1.alloc (.cells #[.int .u8 p, .int .u32 m, .float .f64 al, .pointer none, .pointer none, .slice (some ⟨w1.heap.size + 1, 0, none⟩) m m] 74)) 5 .u8 m (by omega)
    rw [show (w1.alloc (.cells #[.int .u8 p, .int .u32 m, .float .f64 al, .pointer none, .pointer none, .slice (some ⟨w1.heap.size + 1, 0, none⟩) m m] 74)).heap.size = w1.heap.size + 1 from by simp] at h
    rw [← HM.out]
    exact h

theorem NewSketch_bad (p : Nat) (b : Bool) (w : World) (h : p < 4 ∨ 18 < p) (he : ErrP w) :
    Calls Tryd.prog 34 #[.int .u8 p, .bool b] w fun e w' =>
      (∃ a, e = .returned (.tuple #[.pointer none, .iface 152 (.pointer (some a))])) ∧ w = w' := by
  have HC := Lib.hid (checkPrecision_bad p w h he)
  clear h
  go_enter Tryd.func34, Tryd.ntmps34
  go_wp2_with (go_at_call 54; refine HC.out.mono ?_; rintro e w' ⟨⟨a, rfl⟩, rfl⟩)
  go_ret2
  exact ⟨⟨a, rfl⟩, rfl⟩

set_option maxRecDepth 100000 in
theorem NewSketch_sparse (p : Nat) (w : World) (h1 : 4 ≤ p) (h2 : p ≤ 18) :
    Calls Tryd.prog 34 #[.int .u8 p, .bool true] w fun e w' =>
      ∃ S al T M v L u, e = .returned (.tuple #[.pointer (some ⟨S, 0, none⟩), .nilIface]) ∧ Sparse w' S p al T M v [] L u [] ∧ w.heap.size ≤ S ∧ w.heap.size ≤ T ∧ w.heap.size ≤ M ∧ w.heap.size ≤ L ∧
        (∀ g, v.ownBlock = some g → w.heap.size ≤ g) ∧ (∀ g, u.ownBlock = some g → w.heap.size ≤ g) ∧ Only (fun _ => False) w w' := by
  have hpb := pow_bounds h1 h2
  obtain ⟨m, hm⟩ : ∃ m, m = 2 ^ p := ⟨_, rfl⟩
  have hsp := shl1_word h2 hm
  rw [← hm] at hpb
  have HM := Lib.hid hm
  clear hm
  go_enter Tryd.func34, Tryd.ntmps34
  go_wp2_with (first
    | (go_at_call 54; refine (checkPrecision_ok p _ h1 h2).mono ?_; rintro e w' ⟨rfl, rfl⟩)
    | (go_at_call 55; refine (alpha_any _ _).mono ?_; rintro e w1 ⟨⟨al, rfl⟩, hw1⟩; have HW1 : Hid (Only (fun _ => False) w w1) := (by obtain ⟨n, rfl⟩ := hw1; exact (Only.refl _ w).drewN n); clear hw1)
    | (go_at_call 56; refine (makeSet_any 0 _).mono ?_; rintro e w2 ⟨T, M, rfl, hT, hM, hset, hon2⟩
       have hb2 := Lib.hid ((Blk.new w1 74 #[.int .u8 p, .int .u32 m, .float .f64 al, .pointer none, .pointer none, .slice none 0 0]).only hon2 (fun hf => hf))
       have f2 := hb2.out.frozen 3
       have c2 : w2.cell? ⟨w1.heap.size, 3, none⟩ = some (.pointer none) := hb2.out.cell 3)
    | (go_at_call 46; refine (newCompressedList_any 0 _ (by omega)).mono ?_; rintro e w3 ⟨L, u, rfl, hL, hu, hlist, hon3⟩
       have hb3 := Lib.hid ((hb2.out.set_ 3 (.pointer (some ⟨T, 0, none⟩))).only hon3 (fun hf => hf))
       have f3 := hb3.out.frozen 4
       have c3 : w3.cell? ⟨w1.heap.size, 4, none⟩ = some (.pointer none) := hb3.out.cell 4))
  go_ret2
  have hs1 := HW1.out.size
  have hT1 : w1.heap.size + 1 ≤ T := by simpa using hT
  have hM1 : w1.heap.size + 1 ≤ M := by simpa using hM
  have hs2 : w1.heap.size + 1 ≤ w2.heap.size := by simpa using hon2.size
  have hL1 : w2.heap.size ≤ L := by simpa [World.setCell] using hL
  have hu1 : ∀ g, u.ownBlock = some g → w2.heap.size ≤ g := fun g hg => by simpa [World.setCell] using hu g hg
  have hset2 : USet (w2.setCell ⟨w1.heap.size, 3, none⟩ (.pointer (some ⟨T, 0, none⟩))) T (.slice none 0 0) M [] := hset.only ((Only.refl (fun b => b = w1.heap.size) w2).setCell (fun _ => rfl) _) (by omega) (by simp [Value.ownBlock]) (by omega)
  have hset3 : USet w3 T (.slice none 0 0) M [] := hset2.only hon3 (fun hf => hf) (by simp [Value.ownBlock]) (fun hf => hf)
  have hO : Only (fun b => b = w1.heap.size) w3 (w3.setCell ⟨w1.heap.size, 4, none⟩ (.pointer (some ⟨L, 0, none⟩))) := (Only.refl (fun b => b = w1.heap.size) w3).setCell (fun _ => rfl) _
  refine ⟨w1.heap.size, al, T, M, .slice none 0 0, L, u, rfl, ⟨?_, hset3.only hO (by omega) (by simp [Value.ownBlock]) (by omega), hlist.only hO (by omega) (fun g hg he => by have := hu1 g hg; omega)⟩, hs1, by omega, by omega, by omega, by simp [Value.ownBlock], fun g hg => by have := hu1 g hg; omega, ?_⟩
  · unfold SkB
    rw [← HM.out]
    exact hb3.out.set_ 4 (.pointer (some ⟨L, 0, none⟩))
  · have h2 : Only (fun _ => False) w w2 := (HW1.out.alloc _).trans hon2 (fun _ hf _ => hf)
    have h3 : Only (fun _ => False) w w3 := (h2.setCell (fun h => by have : w1.heap.size < w.heap.size := h; omega) _).trans hon3 (fun _ hf _ => hf)
    exact h3.setCell (fun h => by have : w1.heap.size < w.heap.size := h; omega) _
end Go.Proofs.YtoegfdndoeiolaaDoor

/- Walks: a dense sketch's state is told. No condition. -/
namespace Go.Proofs.YtoegfdndoeiolaaDoor
open Go.RowKit

theorem sparse_no (S : Nat) (w : World) (h : w.cell? ⟨S, 4, none⟩ = some (.pointer none)) :
    Calls Tryd.prog 61 #[.pointer (some ⟨S, 0, none⟩)] w fun e w' => e = .returned (.bool false) ∧ w = w' := by
  go_enter Tryd.func61, Tryd.ntmps61
  go_wp2
  go_ret
  exact ⟨rfl, rfl⟩
theorem sparse_yes (S : Nat) (a : Addr) (w : World) (h : w.cell? ⟨S, 4, none⟩ = some (.pointer (some a))) :
    Calls Tryd.prog 61 #[.pointer (some ⟨S, 0, none⟩)] w fun e w' => e = .returned (.bool true) ∧ w = w' := by
  go_enter Tryd.func61, Tryd.ntmps61
  go_wp2
  go_ret
  exact ⟨rfl, rfl⟩

/-- What a state's cells hold behind an append onto nothing, and behind the store of what the variable held. -/
theorem state_keep {w2 w3 : World} {S q : Nat} {a0 a1 a2 a3 a4 a5 : Value} (hb : Blk w2 S 74 #[a0, a1, a2, a3, a4, a5]) (hq : Blk w2 q 24 #[.slice none 0 0]) (ho : Only (fun g => (Value.slice none 0 0).ownBlock = some g) w2.drew w3) (hne : S ≠ q) :
    (w3.cell? ⟨S, 0, none⟩ = some a0 ∧ w3.cell? ⟨S, 4, none⟩ = some a4 ∧ w3.cell? ⟨S, 5, none⟩ = some a5 ∧ w3.cell? ⟨q, 0, none⟩ = some (.slice none 0 0) ∧ w3.frozen? ⟨q, 0, none⟩ = false) ∧
    ((w3.setCell ⟨q, 0, none⟩ (.slice none 0 0)).cell? ⟨S, 0, none⟩ = some a0 ∧ (w3.setCell ⟨q, 0, none⟩ (.slice none 0 0)).cell? ⟨S, 4, none⟩ = some a4 ∧ (w3.setCell ⟨q, 0, none⟩ (.slice none 0 0)).cell? ⟨S, 5, none⟩ = some a5 ∧
      (w3.setCell ⟨q, 0, none⟩ (.slice none 0 0)).cell? ⟨q, 0, none⟩ = some (.slice none 0 0) ∧ (w3.setCell ⟨q, 0, none⟩ (.slice none 0 0)).frozen? ⟨q, 0, none⟩ = false) := by
  have hb3 : Blk w3 S 74 #[a0, a1, a2, a3, a4, a5] := hb.drew.only ho (by simp [Value.ownBlock])
  have hq3 : Blk w3 q 24 #[.slice none 0 0] := hq.drew.only ho (by simp [Value.ownBlock])
  have hb4 : Blk (w3.setCell ⟨q, 0, none⟩ (.slice none 0 0)) S 74 #[a0, a1, a2, a3, a4, a5] := hb3.far hne _
  have hq4 := hq3.set_ 0 (.slice none 0 0)
  exact ⟨⟨hb3.cell 0, hb3.cell 4, hb3.cell 5, hq3.cell 0, hq3.frozen 0⟩, hb4.cell 0, hb4.cell 4, hb4.cell 5, hq4.cell 0, hq4.frozen 0⟩

set_option maxHeartbeats 1000000 in
set_option maxRecDepth 100000 in
theorem ZZState_dense (S p al : Nat) (rv : Value) (r : List Nat) (w : World) (h : Dense w S p al rv r) (hl : r.length < 1099511627776) :
    Calls Tryd.prog 37 #[.pointer (some ⟨S, 0, none⟩)] w fun e w' =>
      ∃ v', e = .returned (.tuple #[.int .u8 p, .bool false, .slice none 0 0, .slice none 0 0, v']) ∧ Row w' 5 .u8 v' r ∧ (∀ g, v'.ownBlock = some g → w.heap.size ≤ g) ∧ Only (fun _ => False) w w' := by
  have hmf := hmf
  obtain ⟨i0, hi, hz0, hz1, hz2⟩ := info_parts info_u8
  have H := Lib.hid h
  obtain ⟨A, cc, rfl, hcc, hn, hA, hAn⟩ := h.row.nums
  have hb : Blk w S 74 #[.int .u8 (p : Int), .int .u32 ((2 ^ p : Nat) : Int), .float .f64 al, .pointer none, .pointer none, .slice A r.length cc] := h.blk
  have hSlt : S < w.heap.size := hb.lt
  have c3 : w.cell? ⟨S, 3, none⟩ = some (.pointer none) := hb.cell 3
  have HN := Lib.hid hn
  have HB := Lib.hid hb
  clear h hn hb
  go_enter Tryd.func37, Tryd.ntmps37
  have hoa : Only (fun _ => False) w (w.alloc (.cells #[.slice none 0 0] 24)) := (Only.refl _ w).alloc _
  have HFE := Lib.hid (fun fn first cap => sForEach_nil fn first cap (w.alloc (.cells #[.slice none 0 0] 24)))
  have HOA := Lib.hid hoa
  clear hoa
  go_wp2_with (go_at_call 59; refine (HFE.out _ _ _).mono ?_; rintro e w2 ⟨rfl, hon2⟩
               have hw2 := Lib.hid (HOA.out.trans hon2 (fun _ hf _ => hf))
               have hb2 := Lib.hid (HB.out.only hw2.out (fun hf => hf))
               have hq2 := Lib.hid ((Blk.new w 24 #[.slice none 0 0]).only hon2 (fun hf => hf))
               have c4 : w2.cell? ⟨S, 4, none⟩ = some (.pointer none) := hb2.out.cell 4
               have c5 : w2.cell? ⟨S, 5, none⟩ = some (.slice A r.length cc) := hb2.out.cell 5
               have c0 : w2.cell? ⟨S, 0, none⟩ = some (.int .u8 (p : Int)) := hb2.out.cell 0
               have cq : w2.cell? ⟨w.heap.size, 0, none⟩ = some (.slice none 0 0) := hq2.out.cell 0
               have fq := hq2.out.frozen 0)
  have E : Hid (∀ W, Only (fun _ => False) w2 W → Nums W w.heap.size .u8 A r.length r) := fun W hW => (HN.out.only (Nat.le_refl _) hw2.out (fun _ _ hf => hf)).keep fun q hq _ => hW.cell (Nat.lt_of_lt_of_le hq hw2.out.size) (fun hf => hf)
  have hSq : S ≠ w.heap.size := by omega
  clear hon2
  go_region_held3 (fun w' => w'.cell? ⟨S, 0, none⟩ = some (.int .u8 (p : Int)) ∧ w'.cell? ⟨S, 4, none⟩ = some (.pointer none) ∧ w'.cell? ⟨S, 5, none⟩ = some (.slice A r.length cc) ∧ w'.cell? ⟨w.heap.size, 0, none⟩ = some (.slice none 0 0) ∧ w'.frozen? ⟨w.heap.size, 0, none⟩ = false)
    (first | go_keep | exact ⟨k0, k4, k5, kq, kf⟩ | exact ⟨s0, s4, s5, sq, sf⟩)
    (first
      | (go_at_call 61; refine (sparse_no S _ (by simp [*])).mono ?_; rintro e w' ⟨rfl, rfl⟩)
      | (refine step_append_new (w0 := w) (by rfl) (.const (.slice none 0 0)) (.tmp 42) 31 (by rfl) 5 i0 (.int .u8 0) 1 Tryd.underlying31 hi hz0 hz1 hz2 rfl .u8 (.slice none 0 0) [] (by rfl) (Row.nil_ _ _ _) w.heap.size A r.length cc r (by rfl) (E.out _ ((Only.refl _ w2).drew)) (by simp; omega) (by simp; omega) (hw2.out.drew) (by simp [Value.ownBlock]) ?_
         intro v3 w3 hrow3 hon3 hw3 hnew3 hkeep3
         obtain ⟨⟨k0, k4, k5, kq, kf⟩, s0, s4, s5, sq, sf⟩ := state_keep hb2.out hq2.out hon3 hSq)
      | fail)
  go_wp2_with fail
  refine bodyPost_ret (v := .tuple #[.int .u8 p, .bool false, .slice none 0 0, .slice none 0 0, v3]) (by simp [results, Tryd.results37, go_sem, sq]) rfl ⟨v3, rfl, ?_, hnew3, hw3.setCell (fun h => absurd h (Nat.lt_irrefl _)) _⟩
  refine Row.only hrow3 ((Only.refl (fun b => b = w.heap.size) w3).setCell (fun _ => rfl) _) (fun g hg he => ?_)
  exact hrow3.blk_ne (hq2.out.drew.only hon3 (by simp [Value.ownBlock])) (by decide) (by rw [hg, he])

set_option maxRecDepth 100000 in
theorem regs_dense (S p al : Nat) (rv : Value) (r : List Nat) (w : World) (h : Dense w S p al rv r) (hl : r.length < 1099511627776) :
    Calls Tryd.prog 35 #[.pointer (some ⟨S, 0, none⟩)] w fun e w' =>
      ∃ v', e = .returned v' ∧ Row w' 5 .u8 v' r ∧ (∀ g, v'.ownBlock = some g → w.heap.size ≤ g) ∧ Only (fun _ => False) w w' := by
  obtain ⟨i0, hi, hz0, hz1, hz2⟩ := info_parts info_u8
  have HS : Hid (∀ W, Only (fun _ => False) w W → Calls Tryd.prog 37 #[.pointer (some ⟨S, 0, none⟩)] W fun e w' =>
      ∃ v', e = .returned (.tuple #[.int .u8 p, .bool false, .slice none 0 0, .slice none 0 0, v']) ∧ Row w' 5 .u8 v' r ∧ (∀ g, v'.ownBlock = some g → W.heap.size ≤ g) ∧ Only (fun _ => False) W w') := fun W hW =>
    ZZState_dense S p al rv r W (h.only hW (fun hf => hf) (fun _ _ hf => hf)) hl
  clear h
  go_enter Tryd.func35, Tryd.ntmps35
  go_wp2_with fail
  refine (HS.out w (Only.refl _ w)).mono ?_
  rintro e w1 ⟨v1, rfl, _, _, hon1⟩
  have HON1 := Lib.hid hon1
  have HS1 := Lib.hid (HS.out w1 hon1)
  clear hon1
  go_wp2_with (first
    | (go_at_call 37; refine HS1.out.mono ?_; rintro e w2 ⟨v2, rfl, hrow2, hnew2, hon2⟩
       obtain ⟨A2, c2, rfl, _, hn2, _, _⟩ := hrow2.nums
       have hr2 := row_empty w2 5 .u8
       have hn2' : Nums (w2.alloc (.cells #[] 5)) w2.heap.size .u8 A2 r.length r := hn2.only (Nat.le_refl _) ((Only.refl (fun _ => False) w2).alloc _) (fun _ _ hf => hf)
       have hw2 := Lib.hid ((HON1.out.trans hon2 (fun _ hf _ => hf)).alloc (.cells #[] 5))
       have hs2 : w.heap.size ≤ w2.heap.size := (HON1.out.trans hon2 (fun _ hf _ => hf)).size
       clear hrow2 hn2 hnew2 hon2)
    | (at_builtin; go_must (refine wpList_append_nums rfl (.tmp 32) (.tmp 33) 31 rfl 5 i0 (.int .u8 0) 1 Tryd.underlying31 hi hz0 hz1 hz2 rfl .u8 _ [] rfl hr2 w2.heap.size A2 r.length c2 r rfl hn2' ?c4 ?c5 ?_)))
  case c4 => simp; omega
  case c5 => simp; omega
  intro v3 w3 hrow3 hon3 hl3
  go_wp2
  go_ret
  refine ⟨v3, rfl, hrow3, fun g hg => ?_, hw2.out.trans hon3 (fun g hg hlt => by have h2 : w2.heap.size ≤ g := own_ge hg (Nat.le_refl _); omega)⟩
  rcases hl3 with h | h <;> rw [hg] at h
  · have h2 : w2.heap.size ≤ g := own_ge h.symm (Nat.le_refl _)
    omega
  · injection h with h
    have e : (w2.alloc (.cells #[] 5)).heap.size = w2.heap.size + 1 := by simp
    omega
end Go.Proofs.YtoegfdndoeiolaaDoor

/- Walks: a dense sketch is read from bytes, registers compared. Conditions: the bytes are bytes; the variables of the errors hold errors. -/
namespace Go.Proofs.YtoegfdndoeiolaaDoor
open Go.RowKit

theorem newDense_any (p : Nat) (w : World) (h1 : 4 ≤ p) (h2 : p ≤ 18) :
    Calls Tryd.prog 68 #[.int .u8 p, .bool false] w fun e w' =>
      ∃ S al rv, e = .returned (.pointer (some ⟨S, 0, none⟩)) ∧ Dense w' S p al rv (List.replicate (2 ^ p) 0) ∧ w.heap.size ≤ S ∧ (∀ g, rv.ownBlock = some g → w.heap.size ≤ g) ∧ Only (fun _ => False) w w' := by
  have HN := Lib.hid (NewSketch_dense p w h1 h2)
  go_enter Tryd.func68, Tryd.ntmps68
  go_wp2_with (go_at_call 34; refine HN.out.mono ?_; rintro e w' ⟨S, al, rv, rfl, hd, hS, hrv, hon⟩)
  go_ret
  exact ⟨S, al, rv, rfl, hd, hS, hrv, hon⟩
theorem newSparse_any (p : Nat) (w : World) (h1 : 4 ≤ p) (h2 : p ≤ 18) :
    Calls Tryd.prog 68 #[.int .u8 p, .bool true] w fun e w' =>
      ∃ S al T M v L u, e = .returned (.pointer (some ⟨S, 0, none⟩)) ∧ Sparse w' S p al T M v [] L u [] ∧ w.heap.size ≤ S ∧ w.heap.size ≤ T ∧ w.heap.size ≤ M ∧ w.heap.size ≤ L ∧
        (∀ g, v.ownBlock = some g → w.heap.size ≤ g) ∧ (∀ g, u.ownBlock = some g → w.heap.size ≤ g) ∧ Only (fun _ => False) w w' := by
  have HN := Lib.hid (NewSketch_sparse p w h1 h2)
  go_enter Tryd.func68, Tryd.ntmps68
  go_wp2_with (go_at_call 34; refine HN.out.mono ?_; rintro e w' ⟨S, al, T, M, v, L, u, rfl, hd⟩)
  go_ret
  exact ⟨S, al, T, M, v, L, u, rfl, hd⟩

set_option maxRecDepth 100000 in
theorem Same_any (A A2 : Option Addr) (n n2 c c2 B : Nat) (xs ys : List Nat) (w : World) (hx : Nums w B .u8 A n xs) (hy : Nums w B .u8 A2 n2 ys) (hn : n < 1099511627776) (hn2 : n2 < 1099511627776) :
    Calls Tryd.prog 21 #[.slice A n c, .slice A2 n2 c2] w fun e w' => e = .returned (.bool (decide (xs = ys))) ∧ ∃ q, w' = w.drewN q := by
  have hxl := hx.1
  have hyl := hy.1
  have HX := Lib.hid hx
  have HY := Lib.hid hy
  clear hx hy
  by_cases hnn : n = n2
  · subst hnn
    have HXL := Lib.hid hxl
    have HYL := Lib.hid hyl
    clear hxl hyl
    go_enter Tryd.func21, Tryd.ntmps21
    go_wp2_with fail
    go_loopg [13] n (fun g s13 wr => ∃ i, g + i = n ∧ s13 = .int .i64 (i : Nat) ∧ (∃ q, wr = w.drewN q) ∧ Hid (xs.take i = ys.take i))
    case atStart => exact ⟨0, by omega, rfl, ⟨0, rfl⟩, by simp [Hid]⟩
    case round =>
      obtain ⟨i, hg, rfl, ⟨q, rfl⟩, heq⟩ := hrel
      by_cases hlt : i < n
      · obtain ⟨a1, rfl, _, hc1⟩ := HX.out.at_ hlt
        obtain ⟨a2, rfl, _, hc2⟩ := HY.out.at_ hlt
        obtain ⟨x, hxd⟩ : ∃ x, xs.getD i 0 = x := ⟨_, rfl⟩
        obtain ⟨y, hyd⟩ : ∃ y, ys.getD i 0 = y := ⟨_, rfl⟩
        rw [hxd] at hc1
        rw [hyd] at hc2
        have hli : (i : Int) < (n : Int) := by omega
        have hl0 : (0 : Int) ≤ (i : Int) := by omega
        have HXD := Lib.hid hxd
        have HYD := Lib.hid hyd
        clear hxd hyd
        by_cases hxy : x = y
        · have hb : ((x : Int) != (y : Int)) = false := by rw [bne_eq_false_iff_eq]; omega
          have HE : Hid (xs.take (i + 1) = ys.take (i + 1)) := by
            show xs.take (i + 1) = ys.take (i + 1)
            rw [list_take_succ xs i (by have := HXL.out; omega), list_take_succ ys i (by have := HYL.out; omega), heq.out, HXD.out, HYD.out, hxy]
          clear hxy
          go_wp2_with fail
          go_quiet (fail)
          go_wp2_with fail
          go_roundg (n - (i + 1))
          case measure => omega
          case rel => exact ⟨i + 1, by omega, by go_num, (by first | exact ⟨_, rfl⟩ | (simp only [World.drewN_drewN]; exact ⟨_, rfl⟩)), HE.out⟩
        · have hb : ((x : Int) != (y : Int)) = true := by rw [bne_iff_ne]; omega
          have HD : Hid (decide (xs = ys) = false) := decide_eq_false (fun h => hxy (by rw [← HXD.out, ← HYD.out, h]))
          clear hxy
          go_wp2_with fail
          go_quiet (fail)
          go_wp2_with fail
          go_ret
          exact ⟨ret_bool HD.out.symm, by first | exact ⟨_, rfl⟩ | (simp only [World.drewN_drewN]; exact ⟨_, rfl⟩)⟩
      · have hi : i = n := by omega
        have HD : Hid (decide (xs = ys) = true) := decide_eq_true (by
          have h := heq.out
          rw [hi] at h
          rwa [List.take_of_length_le (Nat.le_of_eq HXL.out), List.take_of_length_le (Nat.le_of_eq HYL.out)] at h)
        clear hi
        go_wp2_with fail
        go_ret
        exact ⟨ret_bool HD.out.symm, _, rfl⟩
  · have HD : Hid (decide (xs = ys) = false) := decide_eq_false (fun h => hnn (by rw [← hxl, ← hyl, h]))
    have hb : ((n : Int) != (n2 : Int)) = true := by rw [bne_iff_ne]; omega
    clear hnn hxl hyl
    go_enter Tryd.func21, Tryd.ntmps21
    go_wp2
    go_ret
    exact ⟨ret_bool HD.out.symm, 0, rfl⟩

set_option maxHeartbeats 400000 in
set_option maxRecDepth 100000 in
theorem readV2_any (S p al : Nat) (rv : Value) (r : List Nat) (A : Option Addr) (n c B : Nat) (bs : List Nat) (w : World) (h : Dense w S p al rv r) (hbs : Nums w B .u8 A n bs) (h256 : ∀ b ∈ bs, b < 256) (hn : n = 2 ^ p)
    (hA : ∀ ad, A = some ad → rv.ownBlock ≠ some ad.block) (h1 : 4 ≤ p) (h2 : p ≤ 18) (he : Errs w) (hne : rv.ownBlock ≠ some 3) :
    Calls Tryd.prog 73 #[.pointer (some ⟨S, 0, none⟩), .slice A n c] w fun e w' =>
      Dense w' S p al rv bs ∧ Only (fun b => rv.ownBlock = some b) w w' ∧ ((e = .returned .nilIface ∧ ∀ b ∈ bs, b ≤ 65 - p) ∨ (Fails e ∧ ¬ ∀ b ∈ bs, b ≤ 65 - p)) := by
  have hpb := pow_bounds h1 h2
  have hbl := hbs.1
  have hrl := h.len
  obtain ⟨w1, hcopy, hrow1, hon1⟩ := run_copy_nums (P := Tryd.prog) 31 31 3 5 Tryd.underlying31 (by kernel_rfl) .u8 _ _ h.row B n c A bs hbs (by rw [hrl, hn])
  obtain ⟨A0, c0', hv0, _⟩ := h.row.nums
  have hSr : rv.ownBlock ≠ some S := h.row.blk_ne h.blk (by decide)
  have hb1 : Blk w1 S 74 #[.int .u8 (p : Int), .int .u32 ((2 ^ p : Nat) : Int), .float .f64 al, .pointer none, .pointer none, rv] := Blk.only h.blk hon1 hSr
  have hb0 : Blk w S 74 #[.int .u8 (p : Int), .int .u32 ((2 ^ p : Nat) : Int), .float .f64 al, .pointer none, .pointer none, rv] := h.blk
  rw [hrl, ← hn] at hv0
  subst hv0
  have c0 : w.cell? ⟨S, 0, none⟩ = some (.int .u8 (p : Int)) := hb0.cell 0
  have c5 : w.cell? ⟨S, 5, none⟩ = some (.slice A0 n c0') := hb0.cell 5
  have d5 : w1.cell? ⟨S, 5, none⟩ = some (.slice A0 n c0') := hb1.cell 5
  obtain ⟨_, be, hbe⟩ := id he
  have hbe1 : w1.cell? ⟨3, 0, none⟩ = some (.iface 152 (.pointer (some be))) := (hon1.cell (World.block_lt_of_cell? w _ hbe) hne).trans hbe
  have HD : Hid (Dense w1 S p al (.slice A0 n c0') bs) := ⟨hb1, hrow1, by rw [hbl, hn]⟩
  have HO := Lib.hid hon1
  have hnn : n ≤ 262144 := by omega
  have HBL := Lib.hid hbl
  have H256 := Lib.hid h256
  clear h hbs hrow1 hon1 hb1 hb0 he hbe hA hrl hbl h256 hn hpb
  go_enter Tryd.func73, Tryd.ntmps73
  go_wp2_with (go_at_call 101; refine (maxRho_any p _ h1 h2).mono ?_; rintro e w' ⟨rfl, rfl⟩)
  go_loopg [24] n (fun g s24 wr => wr = w1 ∧ ∃ i, g + i = n ∧ s24 = .int .i64 (i : Nat) ∧ Hid (∀ b ∈ bs.take i, b ≤ 65 - p))
  case atStart => exact ⟨rfl, 0, by omega, rfl, fun b hb => by simp at hb⟩
  case round =>
    obtain ⟨rfl, i, hg, rfl, hI⟩ := hrel
    by_cases hlt : i < n
    · obtain ⟨A', c', hv', _, hnums, _⟩ := HD.out.row.nums
      injection hv' with e1 _ e3
      subst e1
      subst e3
      rw [HBL.out] at hnums
      obtain ⟨ad, rfl, _, hcell⟩ := hnums.at_ hlt
      obtain ⟨x, hxd⟩ : ∃ x, bs.getD i 0 = x := ⟨_, rfl⟩
      rw [hxd] at hcell
      have hx256 : x < 256 := by rw [← hxd]; exact H256.out _ (getD_mem (by have := HBL.out; omega))
      have HXD := Lib.hid hxd
      clear hnums hxd
      by_cases hx : x ≤ 65 - p
      · have HI2 : Hid (∀ b ∈ bs.take (i + 1), b ≤ 65 - p) := fun b hb => by
          rw [list_take_succ bs i (by have := HBL.out; omega), HXD.out] at hb
          rcases List.mem_append.1 hb with hb | hb
          · exact hI.out b hb
          · rw [List.mem_singleton] at hb; omega
        have hx' : (x : Int) ≤ 65 - (p : Int) := by omega
        have hxb : decide ((((65 - p : Nat)) : Int) < (x : Int)) = false := decide_eq_false (by omega)
        go_wp2_with fail
        go_roundg (n - (i + 1))
        case measure => omega
        case rel => exact ⟨rfl, i + 1, by omega, by go_num, HI2.out⟩
      · have hxb : (((65 - p : Nat)) : Int) < (x : Int) := by omega
        have HBAD : Hid (¬ ∀ b ∈ bs, b ≤ 65 - p) := fun hall => hx (by rw [← HXD.out]; exact hall _ (getD_mem (by have := HBL.out; omega)))
        clear hx
        go_wp2_with fail
        go_ret
        exact ⟨HD.out, HO.out, .inr ⟨⟨be, rfl⟩, HBAD.out⟩⟩
    · have HALL : Hid (∀ b ∈ bs, b ≤ 65 - p) := by
        have h := hI.out
        rwa [List.take_of_length_le (by have := HBL.out; omega)] at h
      go_wp2_with fail
      go_ret
      exact ⟨HD.out, HO.out, .inl ⟨rfl, HALL.out⟩⟩
end Go.Proofs.YtoegfdndoeiolaaDoor

/- Walks: dense bytes of the second version are read. Conditions: the bytes are bytes; the variables of the errors hold errors. -/
namespace Go.Proofs.YtoegfdndoeiolaaDoor
open Go.RowKit

theorem blk_cells {w : World} {g : Nat} {t : TypeId} {z0 z1 z2 z3 z4 z5 : Value} (h : Blk w g t #[z0, z1, z2, z3, z4, z5]) :
    w.cell? ⟨g, 0, none⟩ = some z0 ∧ w.cell? ⟨g, 1, none⟩ = some z1 ∧ w.cell? ⟨g, 2, none⟩ = some z2 ∧ w.cell? ⟨g, 3, none⟩ = some z3 ∧ w.cell? ⟨g, 4, none⟩ = some z4 ∧ w.cell? ⟨g, 5, none⟩ = some z5 :=
  ⟨h.cell 0, h.cell 1, h.cell 2, h.cell 3, h.cell 4, h.cell 5⟩
theorem blk_frozen {w : World} {g : Nat} {t : TypeId} {cs : Array Value} (h : Blk w g t cs) :
    w.frozen? ⟨g, 0, none⟩ = false ∧ w.frozen? ⟨g, 1, none⟩ = false ∧ w.frozen? ⟨g, 2, none⟩ = false ∧ w.frozen? ⟨g, 3, none⟩ = false ∧ w.frozen? ⟨g, 4, none⟩ = false ∧ w.frozen? ⟨g, 5, none⟩ = false :=
  ⟨h.frozen 0, h.frozen 1, h.frozen 2, h.frozen 3, h.frozen 4, h.frozen 5⟩

theorem set6 {w : World} {g : Nat} {t : TypeId} {z0 z1 z2 z3 z4 z5 : Value} (h : Blk w g t #[z0, z1, z2, z3, z4, z5]) (a0 a1 a2 a3 a4 a5 : Value) :
    Blk ((((((w.setCell ⟨g, 0, none⟩ a0).setCell ⟨g, 1, none⟩ a1).setCell ⟨g, 2, none⟩ a2).setCell ⟨g, 3, none⟩ a3).setCell ⟨g, 4, none⟩ a4).setCell ⟨g, 5, none⟩ a5) g t #[a0, a1, a2, a3, a4, a5] :=
  (((((h.set_ 0 a0).set_ 1 a1).set_ 2 a2).set_ 3 a3).set_ 4 a4).set_ 5 a5
theorem only6 (w : World) (g : Nat) (a0 a1 a2 a3 a4 a5 : Value) :
    Only (fun b => b = g) w ((((((w.setCell ⟨g, 0, none⟩ a0).setCell ⟨g, 1, none⟩ a1).setCell ⟨g, 2, none⟩ a2).setCell ⟨g, 3, none⟩ a3).setCell ⟨g, 4, none⟩ a4).setCell ⟨g, 5, none⟩ a5) :=
  ((((((Only.refl (fun b => b = g) w).setCell (fun _ => rfl) _).setCell (fun _ => rfl) _).setCell (fun _ => rfl) _).setCell (fun _ => rfl) _).setCell (fun _ => rfl) _).setCell (fun _ => rfl) _

/-- The bytes of a dense sketch. -/
def denseBytes (p : Nat) (bs : List Nat) : List Nat := 2 :: p :: 0 :: 0 :: (be32 (2 ^ p) ++ bs)

set_option maxHeartbeats 2000000 in
set_option maxRecDepth 100000 in
theorem UnmDense_any (S0 p : Nat) (z0 z1 z2 z3 z4 z5 : Value) (ad : Addr) (n c : Nat) (bs : List Nat) (w : World) (hb0 : Blk w S0 74 #[z0, z1, z2, z3, z4, z5]) (hbs : Nums w w.heap.size .u8 (some ad) n (denseBytes p bs)) (hnc : n ≤ c) (hc : c ≤ 9223372036854775807)
    (h256 : ∀ b ∈ bs, b < 256) (hlen : bs.length = 2 ^ p) (h1 : 4 ≤ p) (h2 : p ≤ 18) (he : Errs w) :
    Calls Tryd.prog 43 #[.pointer (some ⟨S0, 0, none⟩), .slice (some ad) n c] w fun e w' =>
      (e = .returned .nilIface ∧ (∀ b ∈ bs, b ≤ 65 - p) ∧ ∃ al rv, Dense w' S0 p al rv bs ∧ (∀ g, rv.ownBlock = some g → w.heap.size ≤ g) ∧ Only (fun b => b = S0) w w') ∨
      (Fails e ∧ (¬ ∀ b ∈ bs, b ≤ 65 - p) ∧ Only (fun _ => False) w w') := by
  have hpb := pow_bounds h1 h2
  obtain ⟨m, hm⟩ : ∃ m, m = 2 ^ p := ⟨_, rfl⟩
  have hsp := shl1_word h2 hm
  have hnl : n = m + 8 := by have := hbs.1; simp only [denseBytes, List.length_cons, List.length_append, be32_len, hlen] at this; omega
  have q0 := hbs.at_ (i := 0) (by omega)
  have q1 := hbs.at_ (i := 1) (by omega)
  have q2 := hbs.at_ (i := 2) (by omega)
  have q3 := hbs.at_ (i := 3) (by omega)
  obtain ⟨_, e0, _, d0⟩ := q0
  obtain ⟨_, e1, _, d1⟩ := q1
  obtain ⟨_, e2, _, d2⟩ := q2
  obtain ⟨_, e3, _, d3⟩ := q3
  injection e0 with e0; injection e1 with e1; injection e2 with e2; injection e3 with e3
  subst e0; subst e1; subst e2; subst e3
  have c0 : w.cell? ad = some (.int .u8 2) := d0
  have c1 : w.cell? ⟨ad.block, ad.off + 1, none⟩ = some (.int .u8 (p : Int)) := d1
  have c2 : w.cell? ⟨ad.block, ad.off + 2, none⟩ = some (.int .u8 0) := d2
  have c3 : w.cell? ⟨ad.block, ad.off + 3, none⟩ = some (.int .u8 0) := d3
  have hd4 := hbs.drop (m := 4) (by omega)
  rw [show (denseBytes p bs).drop 4 = be32 (2 ^ p) ++ bs from rfl, ← hm] at hd4
  have hd8 := hbs.drop (m := 8) (by omega)
  rw [show (denseBytes p bs).drop 8 = bs from rfl] at hd8
  rw [← hm] at hpb
  have HBE := Lib.hid (be32_quiet _ _ (c - 4) _ m _ w hd4 (by omega))
  have HB8 := Lib.hid hd8
  have HE := Lib.hid he
  have HB0 := Lib.hid hb0
  have HM := Lib.hid hm
  have HLEN := Lib.hid hlen
  have H256 := Lib.hid h256
  have i1 : (8 : Int) ≤ (n : Int) := by omega
  have i2 : (8 : Int) ≤ (c : Int) := by omega
  have i3 : (n : Int) ≤ (c : Int) := by omega
  have i4 : ¬ (n : Int) < 8 := by omega
  have i5 : ¬ c = 8 := by omega
  have i6 : n - 8 = m := by omega
  clear d0 d1 d2 d3 hd4 hd8 hbs he hb0 hm hlen h256
  go_enter Tryd.func43, Tryd.ntmps43
  go_wp2_with (first
    | (go_at_call 54; refine (checkPrecision_ok p _ h1 h2).mono ?_; rintro e w' ⟨rfl, rfl⟩)
    | (go_at_call 67; refine (HBE.out 0).mono ?_; rintro e w' ⟨rfl, k, rfl⟩)
    | (go_at_call 71; refine (exactLen_ok _ m _).mono ?_; rintro e w' ⟨rfl, rfl⟩))
  refine (newDense_any p _ h1 h2).mono ?_
  rintro e w1 ⟨S, al, rv, rfl, hd, hS, hrv, hon⟩
  have hon' : Only (fun _ => False) w w1 := ((Only.refl _ w).drewN _).trans hon (fun _ hf _ => hf)
  have hS' : w.heap.size ≤ S := hS
  have hrv' : ∀ g, rv.ownBlock = some g → w.heap.size ≤ g := hrv
  have hE1 : Errs w1 := HE.out.only hon' (fun hf => hf) (fun hf => hf)
  have hn8 : Nums w1 w.heap.size .u8 (some ⟨ad.block, ad.off + 8, none⟩) m bs := by rw [← i6]; exact HB8.out.only (Nat.le_refl _) hon' (fun _ _ hf => hf)
  have hidlt : 3 < w.heap.size := by
    obtain ⟨_, b, hb⟩ := HE.out
    exact World.block_lt_of_cell? w _ hb
  have HV := Lib.hid (readV2_any S p al rv _ (some ⟨ad.block, ad.off + 8, none⟩) m (c - 8) w.heap.size bs w1 hd hn8 H256.out HM.out (fun a' he' hg => by
    injection he' with he'
    subst he'
    have h3 := hrv' _ hg
    have h4 : ad.block < w.heap.size := by assumption
    exact absurd h3 (by simp; omega)) h1 h2 hE1 (fun hg => by have := hrv' _ hg; omega))
  have hSne : S ≠ S0 := by have := HB0.out.lt; omega
  have HO1 := Lib.hid hon'
  have hB1 : Blk w1 S0 74 #[z0, z1, z2, z3, z4, z5] := HB0.out.only hon' (fun hf => hf)
  have HB1 := Lib.hid hB1
  clear hd hS hrv hon hon' hE1 hn8 HBE HB8 hB1 c0 c1 c2 c3
  have hS0rv : rv.ownBlock ≠ some S0 := fun hg => by have := hrv' _ hg; have := HB0.out.lt; omega
  go_wp2_with fail
  refine HV.out.mono ?_
  rintro e w2 ⟨hd2, hon2, (⟨rfl, hall⟩ | ⟨⟨a, rfl⟩, hnot⟩)⟩
  · obtain ⟨hl0, hl1, hl2, hl3, hl4, hl5⟩ := blk_cells hd2.blk
    have hb2 := Lib.hid (HB1.out.only hon2 hS0rv)
    obtain ⟨k0, k1, k2, k3, k4, k5⟩ := blk_cells hb2.out
    obtain ⟨f0, f1, f2, f3, f4, f5⟩ := blk_frozen hb2.out
    obtain ⟨A2, cc2, hrv2, _⟩ := hd2.row.nums
    subst hrv2
    have HD2 := Lib.hid hd2
    have HON2 := Lib.hid hon2
    have hst := fun (W : World) (a : Addr) (x : Nat) => run_store Tryd.prog W a (.float .f64 x) .plain rfl
    clear hd2 hon2 HV
    go_wp2_with fail
    go_ret
    have e2 : ((2 : Int) ^ p) = ((2 ^ p : Nat) : Int) := by simp
    rw [e2]
    have hb6 := set6 hb2.out (.int .u8 p) (.int .u32 ((2 ^ p : Nat) : Int)) (.float .f64 al) (.pointer none) (.pointer none) (.slice A2 bs.length cc2)
    have ho6 := only6 w2 S0 (.int .u8 p) (.int .u32 ((2 ^ p : Nat) : Int)) (.float .f64 al) (.pointer none) (.pointer none) (.slice A2 bs.length cc2)
    refine .inl ⟨rfl, hall, al, .slice A2 bs.length cc2, ⟨hb6, HD2.out.row.only ho6 (fun g hg he => hS0rv (by rw [hg, he])), HD2.out.len⟩, hrv', ?_⟩
    exact ((HO1.out.mono (fun _ hf _ => hf.elim)).trans HON2.out (fun g hg hlt => by have := hrv' g hg; omega)).trans ho6 (fun _ h _ => h)
  · clear HV
    go_wp2_with fail
    go_ret
    exact .inr ⟨⟨a, rfl⟩, hnot, HO1.out.trans hon2 (fun g hg hlt => by have := hrv' g hg; omega)⟩
end Go.Proofs.YtoegfdndoeiolaaDoor

/- Walks: a dense sketch is written as bytes. No condition. -/
namespace Go.Proofs.YtoegfdndoeiolaaDoor
open Go.RowKit

section
variable {P : Program} {w w0 : World} {ops : Array Oper} {rest : List Oper} {o : Oper} {a : Act} {Q : Exit → Act → World → Prop}
/-- append of some numbers onto a row of the call's own. -/
theorem wpList_append_fresh (hgd : o.guard = none) (s x : Operand) (t : TypeId)
    (ho : o.op = .call { callee := .builtin .append, args := #[s, x], argTypes := #[t, t] })
    (e : TypeId) (i : TypeInfo) (z : Value) (bytes : Nat) (ht : P.underlying t = some (.slice e)) (hi : P.info? e = some i) (hz : i.zero = some z)
    (hsize : i.size = 1) (hby : i.bytes = bytes) (hzs : z.cells.size = 1)
    (k : IntKind) (v : Value) (xs : List Nat) (hs : a.eval s = v) (hrow : Row w e k v xs) (ys : List Nat) (n c : Nat) (hn : ys.length = n) (e' : TypeId) (cs : Array Value) (hcs : cs = (ys.map fun y : Nat => Value.int k (y : Int)).toArray)
    (hx : a.eval x = .slice (some ⟨w.heap.size, 0, none⟩) n c)
    (hb : (xs.length + n) * bytes ≤ 140737488355328) (hb1 : xs.length + n ≤ 140737488355328) (hW : Only (fun _ => False) w0 w) (hnew : ∀ g, v.ownBlock = some g → w0.heap.size ≤ g)
    (h : ∀ v' w', Row w' e k v' (xs ++ ys) → Only (fun _ => False) w0 w' → (∀ g, v'.ownBlock = some g → w0.heap.size ≤ g) → wpList P ops Q rest (a.put o.dst v') w') :
    wpList P ops Q (o :: rest) a (w.alloc (.cells cs e')) := by
  refine wpList_append_lits hgd s x t ho e i z bytes ht hi hz hsize hby hzs k v xs hs hrow ys n c hn e' cs hcs hx hb hb1 fun v' w' h2 h3 h4 => ?_
  refine h v' w' h2 (hW.trans h3 (fun g hg hlt => by have := hnew g hg; omega)) (fun g hg => ?_)
  rcases h4 with hl | ⟨g', hl, hge⟩ <;> rw [hg] at hl
  · exact hnew g hl.symm
  · injection hl with hl; have := hW.size; omega
/-- append of a slice onto a row of the call's own. -/
theorem wpList_append_freshN (hgd : o.guard = none) (s x : Operand) (t : TypeId)
    (ho : o.op = .call { callee := .builtin .append, args := #[s, x], argTypes := #[t, t] })
    (e : TypeId) (i : TypeInfo) (z : Value) (bytes : Nat) (ht : P.underlying t = some (.slice e)) (hi : P.info? e = some i) (hz : i.zero = some z)
    (hsize : i.size = 1) (hby : i.bytes = bytes) (hzs : z.cells.size = 1)
    (k : IntKind) (v : Value) (xs : List Nat) (hs : a.eval s = v) (hrow : Row w e k v xs) (B : Nat) (A : Option Addr) (n c : Nat) (ys : List Nat) (hx : a.eval x = .slice A n c) (hys : Nums w B k A n ys)
    (hb : (xs.length + n) * bytes ≤ 140737488355328) (hb1 : xs.length + n ≤ 140737488355328) (hW : Only (fun _ => False) w0 w) (hnew : ∀ g, v.ownBlock = some g → w0.heap.size ≤ g)
    (h : ∀ v' w', Row w' e k v' (xs ++ ys) → Only (fun _ => False) w0 w' → (∀ g, v'.ownBlock = some g → w0.heap.size ≤ g) → wpList P ops Q rest (a.put o.dst v') w') :
    wpList P ops Q (o :: rest) a w := by
  refine wpList_append_nums hgd s x t ho e i z bytes ht hi hz hsize hby hzs k v xs hs hrow B A n c ys hx hys hb hb1 fun v' w' h2 h3 h4 => ?_
  refine h v' w' h2 (hW.trans h3 (fun g hg hlt => by have := hnew g hg; omega)) (fun g hg => ?_)
  rcases h4 with hl | hl <;> rw [hg] at hl
  · exact hnew g hl.symm
  · injection hl with hl; have := hW.size; omega
end
theorem be32_cells3 (x : Nat) (h : x ≤ 262144) : (#[.int .u8 ((x : Int) / 16777216), .int .u8 ((x : Int) / 65536), .int .u8 ((x : Int) / 256 % 256), .int .u8 ((x : Int) % 256)] : Array Value) = ((be32 x).map fun y : Nat => Value.int .u8 (y : Int)).toArray := by
  have h1 : x / 16777216 % 256 = x / 16777216 := Nat.mod_eq_of_lt (by omega)
  have h2 : x / 65536 % 256 = x / 65536 := Nat.mod_eq_of_lt (by omega)
  simp [be32, h1, h2]
theorem one_cells (y : Nat) : (#[.int .u8 (y : Int)] : Array Value) = (([y]).map fun y : Nat => Value.int .u8 (y : Int)).toArray := rfl

set_option maxHeartbeats 1000000 in
set_option maxRecDepth 100000 in
theorem AppendDense_any (S p al : Nat) (rv : Value) (r : List Nat) (w : World) (h : Dense w S p al rv r) (h1 : 4 ≤ p) (h2 : p ≤ 18) :
    Calls Tryd.prog 74 #[.pointer (some ⟨S, 0, none⟩), .slice none 0 0] w fun e w' =>
      ∃ v', e = .returned (.tuple #[v', .nilIface]) ∧ Row w' 5 .u8 v' (denseBytes p r) ∧ (∀ g, v'.ownBlock = some g → w.heap.size ≤ g) ∧ Only (fun _ => False) w w' := by
  obtain ⟨i0, hi, hz0, hz1, hz2⟩ := info_parts info_u8
  have hpb := pow_bounds h1 h2
  have hrl := h.len
  obtain ⟨A, cc, rfl, hcc, hn, hA, hAn⟩ := h.row.nums
  have HH := Lib.hid h
  obtain ⟨c0, _, _, _, c4, c5⟩ := blk_cells h.blk
  obtain ⟨m, hm⟩ : ∃ m, m = r.length := ⟨_, rfl⟩
  rw [← hm] at hrl c5 hn
  have HN := Lib.hid hn
  have HM := Lib.hid hm
  have HRL := Lib.hid hrl
  have hm1 : m ≤ 262144 := by omega
  have hbc := be32_cells3 m hm1
  have HBC := Lib.hid hbc
  have HRN := Row.nil_ w 5 .u8
  clear h hn hm hrl hpb hbc hA hAn hcc
  go_enter Tryd.func74, Tryd.ntmps74
  have HSL : S < w.heap.size := HH.out.blk.lt
  have d4 := c4
  go_wp2_with (first
    | (go_at_call 54; refine (checkPrecision_ok p _ h1 h2).mono ?_; rintro e w' ⟨rfl, rfl⟩)
    | (go_at_call 61; refine (sparse_no S _ d4).mono ?_; rintro e w' ⟨rfl, rfl⟩)
    | (at_builtin; go_must (refine wpList_append_fresh (w0 := w) rfl (.tmp 19) (.tmp 20) 31 rfl 5 i0 (.int .u8 0) 1 Tryd.underlying31 hi hz0 hz1 hz2 rfl .u8 (.slice none 0 0) [] rfl HRN [2] 1 1 rfl 5 _ (one_cells 2) rfl ?a1 ?b1 (Only.refl _ w) (by simp [Value.ownBlock]) ?_)))
  case a1 => simp
  case b1 => simp
  intro v1 w1 hrow1 ho1 hf1
  have d0 : w1.cell? ⟨S, 0, none⟩ = some (.int .u8 (p : Int)) := (ho1.cell (p := ⟨S, 0, none⟩) HSL (fun hf => hf)).trans c0
  have d4 : w1.cell? ⟨S, 4, none⟩ = some (.pointer none) := (ho1.cell (p := ⟨S, 4, none⟩) HSL (fun hf => hf)).trans c4
  have d5 : w1.cell? ⟨S, 5, none⟩ = some (.slice A m cc) := (ho1.cell (p := ⟨S, 5, none⟩) HSL (fun hf => hf)).trans c5
  go_wp2_with (first
    | (go_at_call 54; refine (checkPrecision_ok p _ h1 h2).mono ?_; rintro e w' ⟨rfl, rfl⟩)
    | (go_at_call 61; refine (sparse_no S _ d4).mono ?_; rintro e w' ⟨rfl, rfl⟩)
    | (at_builtin; go_must (refine wpList_append_fresh (w0 := w) rfl (.tmp 22) (.tmp 27) 31 rfl 5 i0 (.int .u8 0) 1 Tryd.underlying31 hi hz0 hz1 hz2 rfl .u8 v1 _ rfl hrow1 [p] 1 1 rfl 5 _ (one_cells p) rfl ?a2 ?b2 ho1 hf1 ?_)))
  case a2 => simp
  case b2 => simp
  intro v2 w2 hrow2 ho2 hf2
  have d0 : w2.cell? ⟨S, 0, none⟩ = some (.int .u8 (p : Int)) := (ho2.cell (p := ⟨S, 0, none⟩) HSL (fun hf => hf)).trans c0
  have d4 : w2.cell? ⟨S, 4, none⟩ = some (.pointer none) := (ho2.cell (p := ⟨S, 4, none⟩) HSL (fun hf => hf)).trans c4
  have d5 : w2.cell? ⟨S, 5, none⟩ = some (.slice A m cc) := (ho2.cell (p := ⟨S, 5, none⟩) HSL (fun hf => hf)).trans c5
  go_wp2_with (first
    | (go_at_call 54; refine (checkPrecision_ok p _ h1 h2).mono ?_; rintro e w' ⟨rfl, rfl⟩)
    | (go_at_call 61; refine (sparse_no S _ d4).mono ?_; rintro e w' ⟨rfl, rfl⟩)
    | (at_builtin; go_must (refine wpList_append_fresh (w0 := w) rfl (.tmp 29) (.tmp 30) 31 rfl 5 i0 (.int .u8 0) 1 Tryd.underlying31 hi hz0 hz1 hz2 rfl .u8 v2 _ rfl hrow2 [0] 1 1 rfl 5 _ (one_cells 0) rfl ?a3 ?b3 ho2 hf2 ?_)))
  case a3 => simp
  case b3 => simp
  intro v3 w3 hrow3 ho3 hf3
  have d0 : w3.cell? ⟨S, 0, none⟩ = some (.int .u8 (p : Int)) := (ho3.cell (p := ⟨S, 0, none⟩) HSL (fun hf => hf)).trans c0
  have d4 : w3.cell? ⟨S, 4, none⟩ = some (.pointer none) := (ho3.cell (p := ⟨S, 4, none⟩) HSL (fun hf => hf)).trans c4
  have d5 : w3.cell? ⟨S, 5, none⟩ = some (.slice A m cc) := (ho3.cell (p := ⟨S, 5, none⟩) HSL (fun hf => hf)).trans c5
  go_wp2_with (first
    | (go_at_call 54; refine (checkPrecision_ok p _ h1 h2).mono ?_; rintro e w' ⟨rfl, rfl⟩)
    | (go_at_call 61; refine (sparse_no S _ d4).mono ?_; rintro e w' ⟨rfl, rfl⟩)
    | (at_builtin; go_must (refine wpList_append_fresh (w0 := w) rfl (.tmp 56) (.tmp 57) 31 rfl 5 i0 (.int .u8 0) 1 Tryd.underlying31 hi hz0 hz1 hz2 rfl .u8 v3 _ rfl hrow3 [0] 1 1 rfl 5 _ (one_cells 0) rfl ?a4 ?b4 ho3 hf3 ?_)))
  case a4 => simp
  case b4 => simp
  intro v4 w4 hrow4 ho4 hf4
  have d0 : w4.cell? ⟨S, 0, none⟩ = some (.int .u8 (p : Int)) := (ho4.cell (p := ⟨S, 0, none⟩) HSL (fun hf => hf)).trans c0
  have d4 : w4.cell? ⟨S, 4, none⟩ = some (.pointer none) := (ho4.cell (p := ⟨S, 4, none⟩) HSL (fun hf => hf)).trans c4
  have d5 : w4.cell? ⟨S, 5, none⟩ = some (.slice A m cc) := (ho4.cell (p := ⟨S, 5, none⟩) HSL (fun hf => hf)).trans c5
  go_wp2_with (first
    | (go_at_call 54; refine (checkPrecision_ok p _ h1 h2).mono ?_; rintro e w' ⟨rfl, rfl⟩)
    | (go_at_call 61; refine (sparse_no S _ d4).mono ?_; rintro e w' ⟨rfl, rfl⟩)
    | (at_builtin; go_must (refine wpList_append_fresh (w0 := w) rfl (.tmp 64) (.tmp 76) 31 rfl 5 i0 (.int .u8 0) 1 Tryd.underlying31 hi hz0 hz1 hz2 rfl .u8 v4 _ rfl hrow4 (be32 m) 4 4 rfl 5 _ HBC.out rfl ?a5 ?b5 ho4 hf4 ?_)))
  case a5 => simp
  case b5 => simp
  intro v5 w5 hrow5 ho5 hf5
  have d0 : w5.cell? ⟨S, 0, none⟩ = some (.int .u8 (p : Int)) := (ho5.cell (p := ⟨S, 0, none⟩) HSL (fun hf => hf)).trans c0
  have d4 : w5.cell? ⟨S, 4, none⟩ = some (.pointer none) := (ho5.cell (p := ⟨S, 4, none⟩) HSL (fun hf => hf)).trans c4
  have d5 : w5.cell? ⟨S, 5, none⟩ = some (.slice A m cc) := (ho5.cell (p := ⟨S, 5, none⟩) HSL (fun hf => hf)).trans c5
  go_wp2_with (at_builtin; go_must (refine wpList_append_freshN (w0 := w) rfl (.tmp 78) (.tmp 82) 31 rfl 5 i0 (.int .u8 0) 1 Tryd.underlying31 hi hz0 hz1 hz2 rfl .u8 v5 _ rfl hrow5 w.heap.size A m cc r rfl (HN.out.only (Nat.le_refl _) ho5 (fun _ _ hf => hf)) ?a6 ?b6 ho5 hf5 ?_))
  case a6 => simp [be32_len]; omega
  case b6 => simp [be32_len]; omega
  intro v6 w6 hrow6 ho6 hf6
  go_wp2
  go_ret2
  refine ⟨v6, rfl, ?_, hf6, ho6⟩
  simpa only [denseBytes, ← HRL.out, List.append_assoc, List.cons_append, List.nil_append] using hrow6

set_option maxRecDepth 100000 in
theorem MarDense_any (S p al : Nat) (rv : Value) (r : List Nat) (w : World) (h : Dense w S p al rv r) (h1 : 4 ≤ p) (h2 : p ≤ 18) :
    Calls Tryd.prog 44 #[.pointer (some ⟨S, 0, none⟩)] w fun e w' =>
      ∃ v', e = .returned (.tuple #[v', .nilIface]) ∧ Row w' 5 .u8 v' (denseBytes p r) ∧ (∀ g, v'.ownBlock = some g → w.heap.size ≤ g) ∧ Only (fun _ => False) w w' := by
  have HA := Lib.hid (AppendDense_any S p al rv r w h h1 h2)
  clear h
  go_enter Tryd.func44, Tryd.ntmps44
  go_wp2_with (go_at_call 74; refine HA.out.mono ?_; rintro e w1 ⟨v1, rfl, hrow1, hf1, ho1⟩)
  go_ret2
  exact ⟨v1, rfl, hrow1, hf1, ho1⟩
end Go.Proofs.YtoegfdndoeiolaaDoor

/- Walks: dense bytes are read, written and read again. Conditions: the bytes are bytes; the variables of the errors hold errors. -/
namespace Go.Proofs.YtoegfdndoeiolaaDoor
open Go.RowKit

theorem denseBytes_length (p : Nat) (bs : List Nat) : (denseBytes p bs).length = bs.length + 8 := by
  simp only [denseBytes, List.length_cons, List.length_append, be32_len]
  omega

theorem row_cap {w : World} {e : TypeId} {k : IntKind} {A : Option Addr} {len c : Nat} {v : Value} {xs : List Nat} (h : Row w e k v xs) (hv : v = .slice A len c) : c ≤ 9223372036854775807 := by
  rcases h.2 with ⟨h1, _⟩ | ⟨g, cap, cur, h1, _, _, _, hm, _⟩ <;> rw [hv] at h1 <;> injection h1 with _ _ h1
  · omega
  · unfold maxLen at hm; omega
/-- A sketch that holds nothing. -/
abbrev zeroSk : Array Value := #[.int .u8 0, .int .u32 0, .float .f64 0, .pointer none, .pointer none, .slice none 0 0]

set_option maxHeartbeats 1000000 in
set_option maxRecDepth 100000 in
theorem ReadDense_any (p : Nat) (ad : Addr) (n c : Nat) (bs : List Nat) (w : World) (hbs : Nums w w.heap.size .u8 (some ad) n (denseBytes p bs)) (hnc : n ≤ c) (hc : c ≤ 9223372036854775807)
    (h256 : ∀ b ∈ bs, b < 256) (hlen : bs.length = 2 ^ p) (h1 : 4 ≤ p) (h2 : p ≤ 18) (he : Errs w) :
    Calls Tryd.prog 27 #[.slice (some ad) n c] w fun e w' => Only (fun _ => False) w w' ∧
      ((∃ v1 v2, e = .returned (.tuple #[v1, v2, .bool true]) ∧ (∀ b ∈ bs, b ≤ 65 - p) ∧ Row w' 5 .u8 v1 bs ∧ Row w' 5 .u8 v2 bs) ∨
       (e = .returned (.tuple #[.slice none 0 0, .slice none 0 0, .bool false]) ∧ ¬ ∀ b ∈ bs, b ≤ 65 - p)) := by
  have hpb := pow_bounds h1 h2
  have ho0 : Only (fun _ => False) w (w.alloc (.cells zeroSk 74)) := (Only.refl _ w).alloc _
  have hs0 : (w.alloc (.cells zeroSk 74)).heap.size = w.heap.size + 1 := by simp
  have HU := Lib.hid (UnmDense_any w.heap.size p (.int .u8 0) (.int .u32 0) (.float .f64 0) (.pointer none) (.pointer none) (.slice none 0 0) ad n c bs (w.alloc (.cells zeroSk 74)) (Blk.new w _ _)
    ((hbs.only (Nat.le_refl _) ho0 (fun _ _ hf => hf)).more (by omega)) hnc hc h256 hlen h1 h2 (he.only ho0 (fun hf => hf) (fun hf => hf)))
  have HE := Lib.hid he
  have H256 := Lib.hid h256
  have HLEN := Lib.hid hlen
  have hbl : bs.length ≤ 262144 := by omega
  clear hbs he h256 hlen hpb
  go_enter Tryd.func27, Tryd.ntmps27
  go_wp2_with fail
  refine HU.out.mono ?_
  rintro e w1 (⟨rfl, hall, al, rv, hd, hrv, hon1⟩ | ⟨⟨a, rfl⟩, hnot, hon1⟩)
  · have ho1 : Only (fun _ => False) w w1 := ho0.trans hon1 (fun b hb hlt => by omega)
    have HD := Lib.hid hd
    have HO1 := Lib.hid ho1
    have HMA := Lib.hid (MarDense_any w.heap.size p al rv bs w1 hd h1 h2)
    clear hd ho1 hon1 HU
    go_wp2_with (go_at_call 44; refine HMA.out.mono ?_; rintro e w2 ⟨v2, rfl, hrow2, hf2, hon2⟩
                 obtain ⟨A2, c2, rfl, hc2, hn2, hA2, _⟩ := hrow2.nums)
    have hdl := denseBytes_length p bs
    obtain ⟨ad2, rfl, _, _⟩ := hn2.2 (by omega)
    have hcm := row_cap hrow2 rfl
    have hon02 : Only (fun _ => False) w2 (w2.alloc (.cells zeroSk 74)) := (Only.refl _ w2).alloc _
    have hw2 : Only (fun _ => False) w (w2.alloc (.cells zeroSk 74)) := (HO1.out.trans hon2 (fun _ hf _ => hf)).alloc _
    have hs2 : (w2.alloc (.cells zeroSk 74)).heap.size = w2.heap.size + 1 := by simp
    have hww2 : w1.heap.size ≤ w2.heap.size := hon2.size
    have hSlt : w.heap.size < w1.heap.size := HD.out.blk.lt
    refine (UnmDense_any w2.heap.size p (.int .u8 0) (.int .u32 0) (.float .f64 0) (.pointer none) (.pointer none) (.slice none 0 0) ad2 _ c2 bs (w2.alloc (.cells zeroSk 74)) (Blk.new w2 _ _)
      ((hn2.only (Nat.le_refl _) hon02 (fun _ _ hf => hf)).more (by omega)) hc2 hcm H256.out HLEN.out h1 h2 (HE.out.only hw2 (fun hf => hf) (fun hf => hf))).mono ?_
    rintro e w3 (⟨rfl, _, al2, rv2, hd2, hrv2, hon3⟩ | ⟨_, hnot, _⟩)
    · have hw13 : Only (fun b => b = w2.heap.size) w1 w3 := ((hon2.mono (fun _ hf _ => hf.elim)).alloc _).trans hon3 (fun b hb _ => hb)
      have hd3 : Dense w3 w.heap.size p al rv bs := HD.out.only hw13 (by omega) (fun g hg he => by have := HD.out.row.lt g hg; omega)
      have hw3 : Only (fun _ => False) w w3 := hw2.trans hon3 (fun b hb hlt => by have := HO1.out.size; omega)
      have hr1 := regs_dense w.heap.size p al rv bs w3 hd3 (by omega)
      have HR1 := Lib.hid hr1
      have HD2 := Lib.hid hd2
      have HO3 := Lib.hid hw3
      clear hrow2 hn2 hon2 hon3 hd2 hd3 hw13 hw3 hr1 hw2 hon02
      go_wp2_with fail
      refine HR1.out.mono ?_
      rintro e w4 ⟨v4, rfl, hrow4, hf4, hon4⟩
      have HR2 := Lib.hid (regs_dense w2.heap.size p al2 rv2 bs w4 (HD2.out.only hon4 (fun hf => hf) (fun _ _ hf => hf)) (by omega))
      have HO4 := Lib.hid hon4
      clear hon4
      go_wp2_with (go_at_call 35; refine HR2.out.mono ?_; rintro e w5 ⟨v5, rfl, hrow5, hf5, hon5⟩)
      go_ret3
      exact ⟨(HO3.out.trans HO4.out (fun _ hf _ => hf)).trans hon5 (fun _ hf _ => hf), .inl ⟨v4, v5, rfl, hall, hrow4.only hon5 (fun _ _ hf => hf), hrow5⟩⟩
    · exact absurd hall hnot
  · have ho1 : Only (fun _ => False) w w1 := ho0.trans hon1 (fun b hb hlt => hb)
    have HO1 := Lib.hid ho1
    clear ho1 hon1 HU
    go_wp2_with fail
    go_ret3
    exact ⟨HO1.out, .inr ⟨rfl, hnot⟩⟩
end Go.Proofs.YtoegfdndoeiolaaDoor

/- Walks: the law that dense bytes are read as the registers that they have: it returns true. Condition: the variables of the errors hold errors. -/
namespace Go.Proofs.YtoegfdndoeiolaaDoor
open Go.RowKit

theorem lawRead_long (A : Option Addr) (n c p : Nat) (w : World) (h : 2147483647 < n) :
    Calls Tryd.prog 11 #[.int .u8 p, .slice A n c] w fun e w' => e = .returned (.bool true) ∧ Below w.heap.size w w' := by
  go_enter Tryd.func11, Tryd.ntmps11
  go_wp2
  go_ret
  exact ⟨rfl, Below.refl _ _⟩
theorem lawRead_not (A : Option Addr) (n c p : Nat) (w : World) (hn : n ≤ 2147483647) (h : p < 4 ∨ 8 < p) :
    Calls Tryd.prog 11 #[.int .u8 p, .slice A n c] w fun e w' => e = .returned (.bool true) ∧ Below w.heap.size w w' := by
  have hn' : ¬ (2147483647 : Int) < (n : Int) := by omega
  clear hn
  rcases h with h | h
  · go_enter Tryd.func11, Tryd.ntmps11
    go_wp2
    go_ret
    exact ⟨rfl, Below.refl _ _⟩
  · go_enter Tryd.func11, Tryd.ntmps11
    go_wp2
    go_ret
    exact ⟨rfl, Below.refl _ _⟩

/-- The registers that the law writes: those given, then noughts. -/
def padded (N : Nat) (xs : List Nat) : List Nat := (List.range N).map (fun k => xs.getD k 0)
theorem padded_length (N : Nat) (xs : List Nat) : (padded N xs).length = N := by simp [padded]
theorem padded_get (N : Nat) (xs : List Nat) (k : Nat) (h : k < N) : (padded N xs).getD k 0 = xs.getD k 0 := by
  unfold padded
  rw [List.getD_eq_getElem?_getD, List.getElem?_map, List.getElem?_range h]
  rfl

theorem pow_word {p : Nat} (h1 : 4 ≤ p) (h2 : p ≤ 8) : ∃ N : Nat, N = 2 ^ p ∧ 16 ≤ N ∧ N ≤ 256 ∧ wrap64 ((2 : Int) ^ p) = (N : Int) ∧ bits .and .i64 (N : Int) 255 = ((N % 256 : Nat) : Int) := by
  rcases (show p = 4 ∨ p = 5 ∨ p = 6 ∨ p = 7 ∨ p = 8 from by omega) with rfl | rfl | rfl | rfl | rfl <;> exact ⟨_, rfl, by decide, by decide, by decide +kernel, by decide +kernel⟩
theorem row_lits (w : World) (e : TypeId) (k : IntKind) (ys : List Nat) (cs : Array Value) (n : Nat) (hn : ys.length = n) (hcs : cs = (ys.map fun y : Nat => Value.int k (y : Int)).toArray) (hm : n ≤ 9223372036854775807) :
    Row (w.alloc (.cells cs e)) e k (.slice (some ⟨w.heap.size, 0, none⟩) n n) ys := by
  refine ⟨by simp, .inr ⟨w.heap.size, n, cs, by rw [hn], Nat.zero_le _, heap_alloc_new w _, by omega, by unfold maxLen; omega, by rw [hcs]; simp [hn], ?_⟩⟩
  rw [hcs]
  simp only [Nat.mul_one]
  exact List.take_of_length_le (by simp)

set_option maxHeartbeats 1000000 in
set_option maxRecDepth 100000 in
theorem lawRead_any (A : Option Addr) (n c p : Nat) (xs : List Nat) (w : World) (hxs : Nums w w.heap.size .u8 A n xs) (h256 : ∀ x ∈ xs, x < 256) (hn : n ≤ 2147483647) (h1 : 4 ≤ p) (h2 : p ≤ 8) (he : Errs w) :
    Calls Tryd.prog 11 #[.int .u8 p, .slice A n c] w fun e w' => e = .returned (.bool true) ∧ Below w.heap.size w w' := by
  obtain ⟨i0, hi, hz0, hz1, hz2⟩ := info_parts info_u8
  obtain ⟨N, hN, hN1, hN2, hwr, hbt⟩ := pow_word h1 h2
  have hn' : ¬ (2147483647 : Int) < (n : Int) := by omega
  have hn2 : n < 1099511627776 := by omega
  have hxl := hxs.1
  have HX := Lib.hid hxs
  have H256 := Lib.hid h256
  have HE := Lib.hid he
  have HN := Lib.hid hN
  have hq : N / 256 % 256 = N / 256 := by omega
  obtain ⟨hd, hhd⟩ : ∃ hd : List Nat, hd = [2, p, 0, 0, 0, 0, N / 256 % 256, N % 256] := ⟨_, rfl⟩
  have hhl : hd.length = 8 := by rw [hhd]; rfl
  have HHD := Lib.hid hhd
  have hr0 : Row (w.alloc (.cells #[.int .u8 2, .int .u8 (p : Int), .int .u8 0, .int .u8 0, .int .u8 0, .int .u8 0, .int .u8 ((N : Int) / 256), .int .u8 ((N : Int) % 256)] 5)) 5 .u8 (.slice (some ⟨w.heap.size, 0, none⟩) 8 8) hd := by
    refine row_lits w _ .u8 hd _ 8 hhl ?_ (by omega)
    rw [hhd]
    simp [hq]
  have HR0 := Lib.hid hr0
  clear hn hxs h256 he hN hr0 hhd
  go_enter Tryd.func11, Tryd.ntmps11
  go_wp2_with fail
  go_loopg [6, 7, 33] N (fun g s6 s7 s33 wr => ∃ k G, g + k = N ∧ s33 = .int .i64 (k : Nat) ∧ s7 = .bool G ∧ Hid (G = true ↔ ∀ b ∈ (padded N xs).take k, b ≤ 65 - p) ∧ Row wr 5 .u8 s6 (hd ++ (padded N xs).take k) ∧ (∀ g, s6.ownBlock = some g → w.heap.size ≤ g) ∧ Only (fun _ => False) w wr)
  case atStart =>
    exact ⟨0, true, by omega, rfl, rfl, ⟨fun _ b hb => by simp at hb, fun _ => rfl⟩, by rw [List.take_zero, List.append_nil]; exact HR0.out, fun g hg => own_ge hg (Nat.le_refl _), (Only.refl _ w).alloc _⟩
  case round =>
    obtain ⟨k, G, hg, rfl, rfl, hG, hrow, hnew, hwo⟩ := hrel
    by_cases hkN : k < N
    · obtain ⟨x, hx⟩ : ∃ x, xs.getD k 0 = x := ⟨_, rfl⟩
      have hx256 : x < 256 := by rw [← hx]; exact getD_lt H256.out (by omega) _
      have hpl := padded_length N xs
      have htk : (padded N xs).take (k + 1) = (padded N xs).take k ++ [x] := by rw [list_take_succ _ k (by omega), padded_get N xs k hkN, hx]
      have HTK := Lib.hid htk
      have hlen : (hd ++ (padded N xs).take k).length = 8 + k := by rw [List.length_append, hhl, List.length_take]; omega
      have hway : (k < n ∧ ∃ ad, A = some ad ∧ wr.cell? (ad.add k) = some (.int .u8 (x : Int))) ∨ (¬ k < n ∧ x = 0) := by
        by_cases hkn : k < n
        · obtain ⟨ad, ha, _, hc⟩ := (HX.out.only (Nat.le_refl _) hwo (fun _ _ hf => hf)).at_ hkn
          rw [hx] at hc
          exact .inl ⟨hkn, ad, ha, hc⟩
        · refine .inr ⟨hkn, ?_⟩
          rw [← hx, List.getD_eq_getElem?_getD, List.getElem?_eq_none (by omega)]
          rfl
      have hstep : Hid (∀ G' : Bool, (G' = true ↔ (G = true ∧ x ≤ 65 - p)) → (G' = true ↔ ∀ b ∈ (padded N xs).take (k + 1), b ≤ 65 - p)) := fun G' h => by
        rw [h, HTK.out, hG.out]
        constructor
        · rintro ⟨h1, h2⟩ b hb
          rcases List.mem_append.1 hb with hb | hb
          · exact h1 b hb
          · rw [List.mem_singleton] at hb; omega
        · intro h
          exact ⟨fun b hb => h b (by simp [hb]), h x (by simp)⟩
      clear hx htk hpl
      obtain ⟨es, hes⟩ : ∃ es, es = hd ++ (padded N xs).take k := ⟨_, rfl⟩
      rw [← hes] at hrow hlen
      have HES := Lib.hid hes
      clear hes HX HR0 HHD
      rcases hway with ⟨hkn, ad, rfl, hc⟩ | ⟨hkn, rfl⟩
      · cases G
        · have hs := Lib.hid hstep
          go_wp2_with (at_builtin; go_must (refine wpList_append_fresh (w0 := w) rfl (.tmp 51) (.tmp 53) 31 rfl 5 i0 (.int .u8 0) 1 Tryd.underlying31 hi hz0 hz1 hz2 rfl .u8 u6 es rfl hrow [x] 1 1 rfl 5 _ (one_cells x) rfl ?c1 ?c2 hwo hnew ?_))
          case c1 => omega
          case c2 => omega
          intro v1 w1 hrow1 ho1 hf1
          go_wp2
          go_roundg (N - (k + 1))
          case measure => omega
          case rel => exact ⟨k + 1, false, by omega, by go_num, rfl, hstep.out false (by simp), by rw [HTK.out, ← List.append_assoc, ← HES.out]; exact hrow1, hf1, ho1⟩
        · by_cases hx : x ≤ 65 - p
          · have hx2 : (x : Int) ≤ 65 - (p : Int) := by omega
            have hx3 : decide ((x : Int) ≤ 65 - (p : Int)) = true := decide_eq_true hx2
            have HXX := Lib.hid hx
            clear hx
            go_wp2_with (at_builtin; go_must (refine wpList_append_fresh (w0 := w) rfl (.tmp 51) (.tmp 53) 31 rfl 5 i0 (.int .u8 0) 1 Tryd.underlying31 hi hz0 hz1 hz2 rfl .u8 u6 es rfl hrow [x] 1 1 rfl 5 _ (one_cells x) rfl ?c1 ?c2 hwo hnew ?_))
            case c1 => omega
            case c2 => omega
            intro v1 w1 hrow1 ho1 hf1
            go_wp2
            go_roundg (N - (k + 1))
            case measure => omega
            case rel => exact ⟨k + 1, true, by omega, by go_num, rfl, hstep.out true (by simp only [true_and]; exact ⟨fun _ => HXX.out, fun _ => trivial⟩), by rw [HTK.out, ← List.append_assoc, ← HES.out]; exact hrow1, hf1, ho1⟩
          · have hx2 : 65 - (p : Int) < (x : Int) := by omega
            have hx3 : decide ((x : Int) ≤ 65 - (p : Int)) = false := decide_eq_false (by omega)
            have HXX := Lib.hid hx
            clear hx
            go_wp2_with (at_builtin; go_must (refine wpList_append_fresh (w0 := w) rfl (.tmp 51) (.tmp 53) 31 rfl 5 i0 (.int .u8 0) 1 Tryd.underlying31 hi hz0 hz1 hz2 rfl .u8 u6 es rfl hrow [x] 1 1 rfl 5 _ (one_cells x) rfl ?c1 ?c2 hwo hnew ?_))
            case c1 => omega
            case c2 => omega
            intro v1 w1 hrow1 ho1 hf1
            go_wp2
            go_roundg (N - (k + 1))
            case measure => omega
            case rel => exact ⟨k + 1, false, by omega, by go_num, rfl, hstep.out false (by simp only [Bool.false_eq_true, false_iff, true_and]; exact HXX.out), by rw [HTK.out, ← List.append_assoc, ← HES.out]; exact hrow1, hf1, ho1⟩
      · cases G
        · have hs := Lib.hid hstep
          go_wp2_with (at_builtin; go_must (refine wpList_append_fresh (w0 := w) rfl (.tmp 51) (.tmp 53) 31 rfl 5 i0 (.int .u8 0) 1 Tryd.underlying31 hi hz0 hz1 hz2 rfl .u8 u6 es rfl hrow [0] 1 1 rfl 5 _ (one_cells 0) rfl ?c1 ?c2 hwo hnew ?_))
          case c1 => omega
          case c2 => omega
          intro v1 w1 hrow1 ho1 hf1
          go_wp2
          go_roundg (N - (k + 1))
          case measure => omega
          case rel => exact ⟨k + 1, false, by omega, by go_num, rfl, hstep.out false (by simp), by rw [HTK.out, ← List.append_assoc, ← HES.out]; exact hrow1, hf1, ho1⟩
        · have hx2 : (0 : Int) ≤ 65 - (p : Int) := by omega
          have hx3 : decide ((p : Int) ≤ 65) = true := decide_eq_true (by omega)
          go_wp2_with (at_builtin; go_must (refine wpList_append_fresh (w0 := w) rfl (.tmp 51) (.tmp 53) 31 rfl 5 i0 (.int .u8 0) 1 Tryd.underlying31 hi hz0 hz1 hz2 rfl .u8 u6 es rfl hrow [0] 1 1 rfl 5 _ (one_cells 0) rfl ?c1 ?c2 hwo hnew ?_))
          case c1 => omega
          case c2 => omega
          intro v1 w1 hrow1 ho1 hf1
          go_wp2
          go_roundg (N - (k + 1))
          case measure => omega
          case rel => exact ⟨k + 1, true, by omega, by go_num, rfl, hstep.out true (by simp), by rw [HTK.out, ← List.append_assoc, ← HES.out]; exact hrow1, hf1, ho1⟩
    · have hk : k = N := by omega
      have hpl := padded_length N xs
      have htk : (padded N xs).take k = padded N xs := List.take_of_length_le (by omega)
      rw [htk] at hG hrow
      obtain ⟨bs, hbs⟩ : ∃ bs, bs = padded N xs := ⟨_, rfl⟩
      rw [← hbs] at hG hrow hpl
      have hb256 : ∀ b ∈ bs, b < 256 := by
        intro b hb
        rw [hbs] at hb
        obtain ⟨j, hj, rfl⟩ := List.mem_map.1 hb
        by_cases hjn : j < n
        · exact getD_lt H256.out (by omega) _
        · rw [List.getD_eq_getElem?_getD, List.getElem?_eq_none (by omega)]; exact Nat.zero_lt_succ _
      have hden : hd ++ bs = denseBytes p bs := by
        rw [HHD.out]
        unfold denseBytes be32
        rw [← HN.out]
        have e1 : N / 16777216 % 256 = 0 := by omega
        have e2 : N / 65536 % 256 = 0 := by omega
        rw [e1, e2]
        rfl
      rw [hden] at hrow
      obtain ⟨A6, c6, rfl, hc6, hn6, _, _⟩ := hrow.nums
      have hdl := denseBytes_length p bs
      obtain ⟨ad6, rfl, _, _⟩ := hn6.2 (by omega)
      have hcm := row_cap hrow rfl
      have hN8 : (denseBytes p bs).length = N + 8 := by omega
      have hRD := (ReadDense_any p ad6 _ c6 bs wr hn6 hc6 hcm hb256 (by rw [hpl, HN.out]) h1 (by omega) (HE.out.only hwo (fun hf => hf) (fun hf => hf)))
      have hd8 := hn6.drop (m := 8) (by omega)
      rw [show (denseBytes p bs).drop 8 = bs from rfl, hN8, Nat.add_sub_cancel] at hd8
      have HD8 := Lib.hid hd8
      have hc8 : (N : Int) + 8 ≤ (c6 : Int) := by omega
      have hc9 : ¬ c6 = 8 := by omega
      rw [hN8] at hRD
      have HRD := Lib.hid hRD
      have HBL : Hid (bs.length = N) := hpl
      have HROW := Lib.hid hrow
      have HWO := Lib.hid hwo
      have HG := Lib.hid hG.out
      clear hrow hn6 hc6 hwo hG hden hb256 htk HX HR0 HHD hbs hRD hd8 hpl hdl hg hk hxl
      go_wp2_with fail
      refine HRD.out.mono ?_
      rintro e w2 ⟨ho2, (⟨v1, v2, rfl, hall, hr1, hr2⟩ | ⟨rfl, hnot⟩)⟩
      · obtain rfl : G = true := HG.out.2 hall
        obtain ⟨A1, c1, rfl, _, hn1, _, _⟩ := hr1.nums
        obtain ⟨A2, c2, rfl, _, hn2', _, _⟩ := hr2.nums
        rw [HBL.out] at hn1 hn2'
        have h8 : Nums w2 w2.heap.size .u8 (some ⟨ad6.block, ad6.off + 8, none⟩) N bs := (HD8.out.only (Nat.le_refl _) ho2 (fun _ _ hf => hf)).more ho2.size
        have hS1 : ∀ q, Calls Tryd.prog 21 #[.slice A1 N c1, .slice (some ⟨ad6.block, ad6.off + 8, none⟩) N (c6 - 8)] (w2.drewN q) fun e w' => e = .returned (.bool true) ∧ ∃ q, w' = w2.drewN q := fun q =>
          (Same_any A1 _ N N c1 (c6 - 8) w2.heap.size bs bs (w2.drewN q) hn1 h8 (by omega) (by omega)).mono fun e w' ⟨h1, q', h2⟩ => ⟨by rw [h1]; simp, q + q', by rw [h2]; simp⟩
        have hS2 : ∀ q, Calls Tryd.prog 21 #[.slice A2 N c2, .slice (some ⟨ad6.block, ad6.off + 8, none⟩) N (c6 - 8)] (w2.drewN q) fun e w' => e = .returned (.bool true) ∧ ∃ q, w' = w2.drewN q := fun q =>
          (Same_any A2 _ N N c2 (c6 - 8) w2.heap.size bs bs (w2.drewN q) hn2' h8 (by omega) (by omega)).mono fun e w' ⟨h1, q', h2⟩ => ⟨by rw [h1]; simp, q + q', by rw [h2]; simp⟩
        have HS1 := Lib.hid hS1
        have HS2 := Lib.hid hS2
        have HO2 := Lib.hid ho2
        have hbN : bs.length = N := HBL.out
        clear hr1 hr2 hn1 hn2' h8 hS1 hS2 ho2 hall HRD
        rw [hbN]
        go_wp2_with fail
        refine (HS1.out 0).mono ?_
        rintro e w3 ⟨rfl, q1, rfl⟩
        go_wp2_with fail
        refine (HS2.out q1).mono ?_
        rintro e w4 ⟨rfl, q2, rfl⟩
        go_wp2_with fail
        go_ret
        exact ⟨rfl, ((HWO.out.trans HO2.out (fun _ hf _ => hf)).drewN q2).new⟩
      · obtain rfl : G = false := by
          cases G
          · rfl
          · exact absurd (HG.out.1 rfl) hnot
        have hP : Calls Tryd.prog 18 #[.int .u32 1] w2 fun e w' => (∃ A4 c4, e = .returned (.slice A4 1 c4)) ∧ Only (fun _ => False) w w' := by
          refine (PutVarint_any 1 w2 (by omega)).mono ?_
          rintro e w4 ⟨v4, rfl, hrow4, hon4⟩
          obtain ⟨A4, c4, rfl, _⟩ := hrow4.nums
          have h1 : (varint 1).length = 1 := by rw [varint_small (by omega)]; rfl
          exact ⟨⟨A4, c4, by rw [h1]⟩, (HWO.out.trans ho2 (fun _ hf _ => hf)).trans hon4 (fun _ hf _ => hf)⟩
        have HP := Lib.hid hP
        clear hP ho2 hnot HRD
        go_wp2_with (go_at_call 18; refine HP.out.mono ?_; rintro e w4 ⟨⟨A4, c4, rfl⟩, hon4⟩)
        go_ret
        exact ⟨rfl, hon4.new⟩
end Go.Proofs.YtoegfdndoeiolaaDoor
