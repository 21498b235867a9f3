/- Walks: a set of keys in the order in which they came: made, added to, counted, emptied. Conditions: keys below 2^32; fewer than 2^40 of them. -/
import Derived.Test.YtoegfdndoeiolaaDoorNew
import Derived.Maps.OwnSet
import Derived.Maps.Views
namespace Go.Proofs.YtoegfdndoeiolaaDoor
open Go.RowKit
open Go.Maps (Keyed)

theorem law32 : Keyed Tryd.prog 26 := Maps.int_keyed Tryd.underlying26
theorem zeroBool (W : World) : (zeroValue 4).run Tryd.prog W = .ok (.bool false) W := by kernel_rfl
theorem key32 {k : Nat} (h : k < 4294967296) : keyOf Tryd.prog 26 (.int .u32 (k : Int)) = some (.int .u32 (k : Int)) := Maps.keyOf_int_mk Tryd.underlying26 (WalkArith.wf_u32 (by omega))

section
variable {P : Program} {t kt et : TypeId} {w w' : World} {M k : Nat} {K : List Nat} {S : Nat → Prop}
/-- Block M is a map that has just the keys K, each with true. -/
def MapOfP (P : Program) (kt et : TypeId) (w : World) (M : Nat) (K : List Nat) : Prop :=
  ∃ n D, w.ownsMap (H := Unit) P kt (plainElem P et) M n D ∧ n ≤ K.length ∧ ∀ k : Nat, k < 4294967296 → D.atKey (.int .u32 (k : Int)) (.lit (.bool false)) = .lit (.bool (decide (k ∈ K)))
theorem MapOfP.lt (h : MapOfP P kt et w M K) : M < w.heap.size := by
  obtain ⟨n, D, h, _⟩ := h
  exact h.lt
theorem MapOfP.only (h : MapOfP P kt et w M K) (ho : Only S w w') (hn : ¬ S M) : MapOfP P kt et w' M K := by
  obtain ⟨n, D, h, h1, h2⟩ := h
  refine ⟨n, D, ?_, h1, h2⟩
  obtain ⟨es, clock, hb, F, hs, hD⟩ := h
  exact ⟨es, clock, (ho.block M (Array.getElem?_eq_some_iff.1 hb).1 hn).trans hb, F, hs, hD⟩
theorem MapOfP.ne {g : Nat} {ty : TypeId} {cs : Array Value} (h : MapOfP P kt et w M K) (hb : Blk w g ty cs) : M ≠ g := by
  obtain ⟨n, D, ⟨es, clock, hm, _⟩, _⟩ := h
  rintro rfl
  unfold Blk at hb
  rw [hm] at hb
  injection hb with hb
  cases hb
theorem MapOfP.row_ne {e : TypeId} {kk : IntKind} {v : Value} {xs : List Nat} (h : MapOfP P kt et w M K) (hr : Row w e kk v xs) : v.ownBlock ≠ some M := by
  obtain ⟨n, D, ⟨es, clock, hm, _⟩, _⟩ := h
  intro he
  rcases hr.2 with ⟨rfl, _⟩ | ⟨g, cap, cur, rfl, _, hh, _⟩
  · simp [Value.ownBlock] at he
  · have : g = M := by simpa [Value.ownBlock] using he
    subst this
    rw [hm] at hh
    injection hh with hh
    cases hh
theorem MapOfP.made (w : World) : MapOfP P kt et (w.alloc (.map #[] 0)) w.heap.size [] :=
  ⟨0, _, World.ownsMap_made w _ _ _, Nat.le_refl _, fun k _ => by simp [DataW.atKey]⟩
theorem plainElem_bool_inv {H : Type} (he : P.underlying et = some .bool) {v : Value} {b : Bool} {ps : List MemPlace} (h : plainElem (H := H) P et v = some (.lit (.bool b), ps)) : v = .bool b := by
  unfold plainElem at h
  rw [he] at h
  cases v <;> simp at h
  rw [h.1]
theorem MapOfP.look (law : Keyed P kt) (ht : P.underlying t = some (.map kt et)) (he : P.underlying et = some .bool) (hz : (zeroValue et).run P w = .ok (.bool false) w) (hkey : keyOf P kt (.int .u32 (k : Int)) = some (.int .u32 (k : Int)))
    (h : MapOfP P kt et w M K) (hk : k < 4294967296) : (Instr.lookup t (.map (some M)) (.int .u32 (k : Int)) false).run P w = .ok (.bool (decide (k ∈ K))) w := by
  obtain ⟨n, D, hm, _, h2⟩ := h
  obtain ⟨v, ps, hrun, hv⟩ := hm.lookup law ht hz (plainElem_bool he false) hkey
  rw [h2 k hk] at hv
  rw [hrun, plainElem_bool_inv he hv]
theorem MapOfP.put (law : Keyed P kt) (ht : P.underlying t = some (.map kt et)) (he : P.underlying et = some .bool) (hkey : keyOf P kt (.int .u32 (k : Int)) = some (.int .u32 (k : Int)))
    (h : MapOfP P kt et w M K) (hl : K.length < maxLen) :
    ∃ w', (Instr.mapUpdate t (.map (some M)) (.int .u32 (k : Int)) (.bool true)).run P w = .ok () w' ∧ MapOfP P kt et w' M (K ++ [k]) ∧ Only (fun b => b = M) w w' := by
  obtain ⟨n, D, hm, h1, h2⟩ := h
  obtain ⟨w', hrun, hm', hg⟩ := hm.update law ht (Nat.lt_of_le_of_lt h1 hl) hkey (plainElem_bool he true)
  refine ⟨w', hrun, ⟨n + 1, _, hm', by rw [List.length_append]; exact Nat.add_le_add h1 (Nat.le_refl 1), fun j hj => ?_⟩, (Only.of_grown hg).mono fun b hb _ => by injection hb with hb; exact hb.symm⟩
  by_cases hjk : j = k
  · subst hjk
    rw [Maps.atKey_put_same hm.isMap (law.key hkey)]
    simp
  · rw [Maps.atKey_put_other (by intro h; injection h with _ h; omega), h2 j hj]
    simp [hjk]
end
abbrev MapOf (w : World) (M : Nat) (K : List Nat) : Prop := MapOfP Tryd.prog 26 4 w M K
theorem look_run {w : World} {M k : Nat} {K : List Nat} (h : MapOf w M K) (hk : k < 4294967296) : (Instr.lookup 126 (.map (some M)) (.int .u32 (k : Int)) false).run Tryd.prog w = .ok (.bool (decide (k ∈ K))) w :=
  MapOfP.look law32 Tryd.underlying126 Tryd.underlying4 (zeroBool w) (key32 hk) h hk
theorem put_run {w : World} {M k : Nat} {K : List Nat} (h : MapOf w M K) (hk : k < 4294967296) (hl : K.length < 1099511627776) :
    ∃ w', (Instr.mapUpdate 126 (.map (some M)) (.int .u32 (k : Int)) (.bool true)).run Tryd.prog w = .ok () w' ∧ MapOf w' M (K ++ [k]) ∧ Only (fun b => b = M) w w' :=
  MapOfP.put law32 Tryd.underlying126 Tryd.underlying4 (key32 hk) h (Nat.lt_trans hl (by unfold maxLen; decide))

/-- Block T is a set of the keys K, in this order; v is its slice of them, M its map. -/
structure USet (w : World) (T : Nat) (v : Value) (M : Nat) (K : List Nat) : Prop where
  blk : Blk w T 128 #[v, .map (some M)]
  row : Row w 26 .u32 v K
  map : MapOf w M K
  nodup : K.Nodup
  lt : ∀ k ∈ K, k < 4294967296
theorem USet.only {S : Nat → Prop} {w w' : World} {T M : Nat} {v : Value} {K : List Nat} (h : USet w T v M K) (ho : Only S w w') (h1 : ¬ S T) (h2 : ∀ g, v.ownBlock = some g → ¬ S g) (h3 : ¬ S M) : USet w' T v M K :=
  ⟨h.blk.only ho h1, h.row.only ho h2, h.map.only ho h3, h.nodup, h.lt⟩

theorem newU32Set_any (n : Nat) (w : World) :
    Calls Tryd.prog 81 #[.int .i64 n] w fun e w' =>
      ∃ T M, e = .returned (.pointer (some ⟨T, 0, none⟩)) ∧ w.heap.size ≤ T ∧ w.heap.size ≤ M ∧ USet w' T (.slice none 0 0) M [] ∧ Only (fun _ => False) w w' := by
  have hmm := @run_makeMap Tryd.prog
  go_enter Tryd.func81, Tryd.ntmps81
  go_wp2
  go_ret
  exact ⟨w.heap.size + 1, w.heap.size, rfl, by omega, Nat.le_refl _, ⟨Blk.new (w.alloc (.map #[] 0)) _ _ |> fun h => (by simpa using h), Row.nil_ _ _ _, (MapOfP.made w).only ((Only.refl (fun _ => False) _).alloc _) (fun hf => hf), List.nodup_nil, fun k hk => (by cases hk)⟩, ((Only.refl _ w).alloc _).alloc _⟩

theorem makeSet_any (n : Nat) (w : World) :
    Calls Tryd.prog 56 #[.int .i64 n] w fun e w' =>
      ∃ T M, e = .returned (.agg #[.pointer (some ⟨T, 0, none⟩)]) ∧ w.heap.size ≤ T ∧ w.heap.size ≤ M ∧ USet w' T (.slice none 0 0) M [] ∧ Only (fun _ => False) w w' := by
  have HU : ∀ W, Hid (Calls Tryd.prog 81 #[.int .i64 n] W fun e w' =>
      ∃ T M, e = .returned (.pointer (some ⟨T, 0, none⟩)) ∧ W.heap.size ≤ T ∧ W.heap.size ≤ M ∧ USet w' T (.slice none 0 0) M [] ∧ Only (fun _ => False) W w') := fun W => newU32Set_any n W
  go_enter Tryd.func56, Tryd.ntmps56
  go_wp2_with (go_at_call 81; refine (HU _).out.mono ?_; rintro e w1 ⟨T, M, rfl, hT, hM, hs, hon⟩; have hbx := Lib.hid ((Blk.new w 71 #[.pointer none]).only hon (fun hf => hf)); have fx := hbx.out.frozen 0; have cx : w1.cell? ⟨w.heap.size, 0, none⟩ = some (.pointer none) := hbx.out.cell 0)
  have cy : (w1.setCell ⟨w.heap.size, 0, none⟩ (.pointer (some ⟨T, 0, none⟩))).cell? ⟨w.heap.size, 0, none⟩ = some (.pointer (some ⟨T, 0, none⟩)) := (hbx.out.set_ 0 (.pointer (some ⟨T, 0, none⟩))).cell 0
  have hTs : w.heap.size + 1 ≤ T := by simpa using hT
  have hMs : w.heap.size + 1 ≤ M := by simpa using hM
  refine bodyPost_ret (v := .agg #[.pointer (some ⟨T, 0, none⟩)]) (by simp [results, Tryd.results56, go_sem, cy]) rfl
    ⟨T, M, rfl, by omega, by omega, hs.only ((Only.refl (fun b => b = w.heap.size) w1).setCell (fun _ => rfl) _) (by omega) (by simp [Value.ownBlock]) (by omega), ((((Only.refl _ w).alloc _).trans hon (fun _ hf _ => hf)).setCell (fun h => absurd h (Nat.lt_irrefl _)) _)⟩

set_option maxRecDepth 100000 in
theorem Add_any (T M k : Nat) (v : Value) (K : List Nat) (w : World) (h : USet w T v M K) (hk : k < 4294967296) (hl : K.length < 1099511627776) :
    Calls Tryd.prog 97 #[.pointer (some ⟨T, 0, none⟩), .int .u32 k] w fun e w' =>
      (k ∈ K ∧ e = .returned (.bool false) ∧ w = w') ∨ (k ∉ K ∧ e = .returned (.bool true) ∧ ∃ v', USet w' T v' M (K ++ [k]) ∧ Only (fun b => b = T ∨ b = M ∨ v.ownBlock = some b) w w' ∧ Lies w v v') := by
  have c0 : w.cell? ⟨T, 0, none⟩ = some v := h.blk.cell 0
  have c1 : w.cell? ⟨T, 1, none⟩ = some (.map (some M)) := h.blk.cell 1
  have hlook := look_run h.map hk
  by_cases hin : k ∈ K
  · have hd : decide (k ∈ K) = true := decide_eq_true hin
    rw [hd] at hlook
    have HIN := Lib.hid hin
    clear h hin hd
    go_enter Tryd.func97, Tryd.ntmps97
    go_wp2
    go_ret
    exact .inl ⟨HIN.out, rfl, rfl⟩
  · have hd : decide (k ∈ K) = false := decide_eq_false hin
    rw [hd] at hlook
    obtain ⟨w1, hput, hmap1, hon1⟩ := put_run h.map hk hl
    have hMT : T ≠ M := fun e => h.map.ne h.blk e.symm
    have hb1 := h.blk.only hon1 hMT
    have d0 : w1.cell? ⟨T, 0, none⟩ = some v := hb1.cell 0
    have f0 := hb1.frozen 0
    have HIN := Lib.hid hin
    have H := Lib.hid h
    have HM1 := Lib.hid hmap1
    have HO1 := Lib.hid hon1
    have HB1 := Lib.hid hb1
    clear h hin hd hmap1 hon1 hb1
    go_enter Tryd.func97, Tryd.ntmps97
    have hr1 : Row w1 26 .u32 v K := H.out.row.only HO1.out (fun g hg he => H.out.map.row_ne H.out.row (by rw [hg, he]))
    obtain ⟨i0, hi, hz0, hz1, hz2⟩ := info_parts info_u32
    go_wp2_with (at_builtin; go_must (refine wpList_append_one rfl (.tmp 20) (.tmp 22) 24 rfl 26 i0 (.int .u32 0) 4 Tryd.underlying24 hi hz0 hz1 hz2 rfl .u32 v K rfl hr1 k 1 26 rfl ?c4 ?c5 ?_))
    case c4 => omega
    case c5 => omega
    intro v2 w2 hrow2 hon2 hlies2
    obtain ⟨A2, cp2, hv2, _⟩ := hrow2.nums
    have hkl : (K ++ [k]).length = K.length + 1 := by simp
    rw [hkl] at hv2
    subst hv2
    clear hkl
    have hvT : v.ownBlock ≠ some T := H.out.row.blk_ne H.out.blk (by decide)
    have hvM : v.ownBlock ≠ some M := H.out.map.row_ne H.out.row
    have hb2 : Blk w2 T 128 #[v, .map (some M)] := HB1.out.only hon2 hvT
    have hm2 : MapOf w2 M (K ++ [k]) := HM1.out.only hon2 hvM
    have f2 := hb2.frozen 0
    have e2 : w2.cell? ⟨T, 0, none⟩ = some v := hb2.cell 0
    have HB2 := Lib.hid hb2
    have HM2 := Lib.hid hm2
    have hs1 := HO1.out.size
    clear hb2 hm2
    go_wp2
    go_ret
    have hlies : Lies w v (.slice A2 (K.length + 1) cp2) := by
      rcases hlies2 with h | ⟨g, h, hge⟩
      · exact .inl h
      · exact .inr ⟨g, h, Nat.le_trans hs1 hge⟩
    have hTw : T < w.heap.size := H.out.blk.lt
    have hv2T : (Value.slice A2 (K.length + 1) cp2).ownBlock ≠ some T := fun he => by
      rcases hlies with h | ⟨g, h, hge⟩
      · exact hvT (h.symm.trans he)
      · rw [he] at h; injection h with h; omega
    refine .inr ⟨HIN.out, rfl, .slice A2 (K.length + 1) cp2, ⟨HB2.out.set_ 0 (.slice A2 (K.length + 1) cp2), hrow2.only ((Only.refl (fun b => b = T) w2).setCell (fun _ => rfl) _) (fun g hg he => hv2T (by rw [hg, he])), HM2.out.only ((Only.refl (fun b => b = T) w2).setCell (fun _ => rfl) _) (fun h => hMT h.symm), ?_, ?_⟩, ?_, hlies⟩
    · rw [List.nodup_append]
      exact ⟨H.out.nodup, by simp, fun a ha b hb => by rw [List.mem_singleton] at hb; subst hb; exact fun he => HIN.out (he ▸ ha)⟩
    · intro j hj
      rcases List.mem_append.1 hj with hj | hj
      · exact H.out.lt j hj
      · rw [List.mem_singleton] at hj; omega
    · exact ((HO1.out.mono (fun b hb _ => .inr (.inl hb))).trans hon2 (fun b hb _ => .inr (.inr hb))).setCell (fun _ => .inl rfl) _

theorem setLen_any (T M : Nat) (v : Value) (K : List Nat) (w : World) (h : USet w T v M K) :
    Calls Tryd.prog 95 #[.pointer (some ⟨T, 0, none⟩)] w fun e w' => e = .returned (.int .i64 (K.length : Nat)) ∧ w = w' := by
  obtain ⟨A, c, rfl, _, _, _, _⟩ := h.row.nums
  have c0 : w.cell? ⟨T, 0, none⟩ = some (.slice A K.length c) := h.blk.cell 0
  clear h
  go_enter Tryd.func95, Tryd.ntmps95
  go_wp2
  go_ret
  exact ⟨rfl, rfl⟩

theorem sLen_any (T M : Nat) (v : Value) (K : List Nat) (w : World) (h : USet w T v M K) :
    Calls Tryd.prog 89 #[.agg #[.pointer (some ⟨T, 0, none⟩)]] w fun e w' => e = .returned (.int .i64 (K.length : Nat)) ∧ Only (fun _ => False) w w' := by
  have HL : Hid (∀ W, Only (fun _ => False) w W → Calls Tryd.prog 95 #[.pointer (some ⟨T, 0, none⟩)] W fun e w' => e = .returned (.int .i64 (K.length : Nat)) ∧ W = w') := fun W hW =>
    setLen_any T M v K W (h.only hW (fun hf => hf) (fun _ _ hf => hf) (fun hf => hf))
  clear h
  go_enter Tryd.func89, Tryd.ntmps89
  go_wp2_with (go_at_call 95; refine (HL.out _ ((Only.refl _ w).alloc _)).mono ?_; rintro e w1 ⟨rfl, rfl⟩)
  go_ret
  exact ⟨rfl, (Only.refl _ w).alloc _⟩

/-- 'set.add': what the set holds behind it. -/
def AddPost (w : World) (T M k : Nat) (v : Value) (K : List Nat) (e : Ending) (w' : World) : Prop :=
  (k ∈ K ∧ e = .returned (.bool false) ∧ USet w' T v M K ∧ Only (fun _ => False) w w') ∨ (k ∉ K ∧ e = .returned (.bool true) ∧ ∃ v', USet w' T v' M (K ++ [k]) ∧ Only (fun b => b = T ∨ b = M ∨ v.ownBlock = some b) w w' ∧ Lies w v v')
theorem add_any (T M k : Nat) (v : Value) (K : List Nat) (w : World) (h : USet w T v M K) (hk : k < 4294967296) (hl : K.length < 1099511627776) :
    Calls Tryd.prog 70 #[.agg #[.pointer (some ⟨T, 0, none⟩)], .int .u32 k] w fun e w' => AddPost w T M k v K e w' := by
  have ho : Only (fun _ => False) w (w.alloc (.cells #[.pointer (some ⟨T, 0, none⟩)] 71)) := (Only.refl _ w).alloc _
  have hs := h.only ho (fun hf => hf) (fun _ _ hf => hf) (fun hf => hf)
  have HA := Lib.hid (Add_any T M k v K _ hs hk hl)
  have HO := Lib.hid ho
  have HS := Lib.hid hs
  clear ho hs h
  go_enter Tryd.func70, Tryd.ntmps70
  go_wp2_with (go_at_call 97; refine HA.out.mono ?_; rintro e w1 (⟨hin, rfl, rfl⟩ | ⟨hin, rfl, v', hs', hon', hlies'⟩))
  · go_ret
    exact .inl ⟨hin, rfl, HS.out, HO.out⟩
  · go_ret
    refine .inr ⟨hin, rfl, v', hs', (HO.out.mono (fun _ hf _ => hf.elim)).trans hon' (fun b hb _ => hb), ?_⟩
    rcases hlies' with h | ⟨g, h, hge⟩
    · exact .inl h
    · exact .inr ⟨g, h, Nat.le_trans HO.out.size hge⟩
end Go.Proofs.YtoegfdndoeiolaaDoor
