/- Walks and plain laws, one behind the other (Clr, Each1, ItInv, MInv); their conditions stand at each. -/
import Derived.Test.YtoegfdndoeiolaaDoorQ11
import Derived.Test.YtoegfdndoeiolaaDoorQ1

/- Walks: a set of keys is emptied. No condition. -/
namespace Go.Proofs.YtoegfdndoeiolaaDoor
open Go.RowKit

/-- The same row, of no element. -/
theorem Row.none_ {w : World} {e : TypeId} {k : IntKind} {A : Option Addr} {n c : Nat} {xs : List Nat} (h : Row w e k (.slice A n c) xs) : Row w e k (.slice A 0 c) [] := by
  refine ⟨rfl, ?_⟩
  rcases h.2 with ⟨hv, _⟩ | ⟨g, cap, cur, hv, hb, hg, hc, hm, hs, _⟩
  · injection hv with h1 h2 h3
    subst h1 h3
    exact .inl ⟨rfl, rfl⟩
  · injection hv with h1 h2 h3
    subst h1 h3
    exact .inr ⟨g, c, cur, rfl, hb, hg, Nat.zero_le _, hm, hs, rfl⟩

theorem Clear_any (T M : Nat) (v : Value) (K : List Nat) (w : World) (h : USet w T v M K) :
    Calls Tryd.prog 107 #[.pointer (some ⟨T, 0, none⟩)] w fun e w' =>
      e = .returned (.tuple #[]) ∧ ∃ v' M', USet w' T v' M' [] ∧ Only (fun b => b = T) w w' ∧ v'.ownBlock = v.ownBlock ∧ w.heap.size ≤ M' := by
  obtain ⟨A, c, rfl, hc, hn, hA, hAn⟩ := h.row.nums
  have hb : Blk w T 128 #[.slice A K.length c, .map (some M)] := h.blk
  have c0 : w.cell? ⟨T, 0, none⟩ = some (.slice A K.length c) := hb.cell 0
  have f0 := hb.frozen 0
  have hmm := @run_makeMap Tryd.prog
  have hTlt := hb.lt
  have hb1 := ((hb.set_ 0 (.slice A 0 c)).alloc (.map #[] 0))
  have f1 := hb1.frozen 1
  have c1 : ((w.setCell ⟨T, 0, none⟩ (.slice A 0 c)).alloc (.map #[] 0)).cell? ⟨T, 1, none⟩ = some (.map (some M)) := hb1.cell 1
  have H := Lib.hid h
  have HB1 := Lib.hid hb1
  clear h hn hb hb1
  cases A with
  | none =>
    have : c = 0 := hAn rfl
    subst this
    have hK : K.length = 0 := by omega
    rw [hK] at c0 H ⊢
    clear hAn hA hc
    go_enter Tryd.func107, Tryd.ntmps107
    go_wp2
    go_end0
    have hO : Only (fun b => b = T) w ((w.setCell ⟨T, 0, none⟩ (.slice none 0 0)).setCell ⟨T, 1, none⟩ (.map (some w.heap.size))) := ((Only.refl (fun b => b = T) w).setCell (fun _ => rfl) _).setCell (fun _ => rfl) _
    have hmp := MapOfP.made (P := Tryd.prog) (kt := 26) (et := 4) ((w.setCell ⟨T, 0, none⟩ (.slice none 0 0)).setCell ⟨T, 1, none⟩ (.map (some w.heap.size)))
    rw [show ((w.setCell ⟨T, 0, none⟩ (.slice none 0 0)).setCell ⟨T, 1, none⟩ (.map (some w.heap.size))).heap.size = w.heap.size from by simp [World.setCell]] at hmp
    exact ⟨rfl, .slice none 0 0, w.heap.size, ⟨((H.out.blk.set_ 0 (.slice none 0 0)).set_ 1 (.map (some w.heap.size))).alloc _, Row.nil_ _ _ _, hmp, List.nodup_nil, fun k hk => by cases hk⟩, hO.alloc _, rfl, Nat.le_refl _⟩
  | some ad =>
    clear hAn hA
    go_enter Tryd.func107, Tryd.ntmps107
    go_wp2
    go_end0
    have hO : Only (fun b => b = T) w ((w.setCell ⟨T, 0, none⟩ (.slice (some ad) 0 c)).setCell ⟨T, 1, none⟩ (.map (some w.heap.size))) := ((Only.refl (fun b => b = T) w).setCell (fun _ => rfl) _).setCell (fun _ => rfl) _
    have hr : ∀ g, (Value.slice (some ad) 0 c).ownBlock = some g → ¬ g = T := fun g hg he => by
      refine H.out.row.blk_ne H.out.blk (by decide) ?_
      rw [← he]; exact hg
    have hmp := MapOfP.made (P := Tryd.prog) (kt := 26) (et := 4) ((w.setCell ⟨T, 0, none⟩ (.slice (some ad) 0 c)).setCell ⟨T, 1, none⟩ (.map (some w.heap.size)))
    rw [show ((w.setCell ⟨T, 0, none⟩ (.slice (some ad) 0 c)).setCell ⟨T, 1, none⟩ (.map (some w.heap.size))).heap.size = w.heap.size from by simp [World.setCell]] at hmp
    exact ⟨rfl, .slice (some ad) 0 c, w.heap.size, ⟨((H.out.blk.set_ 0 (.slice (some ad) 0 c)).set_ 1 (.map (some w.heap.size))).alloc _, (H.out.row.none_.only hO hr).only ((Only.refl (fun _ => False) _).alloc _) (fun _ _ hf => hf), hmp, List.nodup_nil, fun k hk => by cases hk⟩, hO.alloc _, rfl, Nat.le_refl _⟩

theorem sclear_any (T M : Nat) (v : Value) (K : List Nat) (w : World) (h : USet w T v M K) :
    Calls Tryd.prog 94 #[.agg #[.pointer (some ⟨T, 0, none⟩)]] w fun e w' =>
      e = .returned (.tuple #[]) ∧ ∃ v' M', USet w' T v' M' [] ∧ Only (fun b => b = T) w w' ∧ v'.ownBlock = v.ownBlock ∧ w.heap.size ≤ M' := by
  have ho : Only (fun _ => False) w (w.alloc (.cells #[.pointer (some ⟨T, 0, none⟩)] 71)) := (Only.refl _ w).alloc _
  have HC := Lib.hid (Clear_any T M v K _ (h.only ho (fun hf => hf) (fun _ _ hf => hf) (fun hf => hf)))
  have HO := Lib.hid ho
  clear h ho
  go_enter Tryd.func94, Tryd.ntmps94
  go_wp2_with (go_at_call 107; refine HC.out.mono ?_; rintro e w1 ⟨rfl, v1, M1, hs1, hon1, hv1, hM1⟩)
  go_end0
  exact ⟨rfl, v1, M1, hs1, (HO.out.mono (fun _ hf _ => hf.elim)).trans hon1 (fun b hb _ => hb), hv1, Nat.le_trans HO.out.size hM1⟩
end Go.Proofs.YtoegfdndoeiolaaDoor

/- Walks: a function without result is called on each key of a set; keys are collected. Conditions: what the function does keeps the set and the variables of functions. -/
namespace Go.Proofs.YtoegfdndoeiolaaDoor
open Go.RowKit

theorem each1State_any (k x : Nat) (cap : Value) (Post : World → Prop) (w : World) (hx : w.cell? ⟨x, 0, none⟩ = some (.func (.func 60) #[] #[cap]))
    (hc : Calls Tryd.prog 60 #[.int .u32 (k : Nat), cap] w fun e w' => e = .returned (.tuple #[]) ∧ Post w') :
    Calls Tryd.prog 88 #[.int .u32 (k : Nat), .pointer (some ⟨x, 0, none⟩)] w fun e w' => e = .returned (.bool true) ∧ Post w' := by
  have HC := Lib.hid hc
  clear hc
  go_enter Tryd.func88, Tryd.ntmps88
  go_wp2_with (go_at_call 60; refine HC.out.mono ?_; rintro e w1 ⟨rfl, hp⟩)
  go_ret
  exact ⟨rfl, hp⟩

set_option maxHeartbeats 400000 in
theorem sForEachState_any (T M : Nat) (v : Value) (K : List Nat) (w : World) (cap : Value) (Inv : Nat → World → Prop) (h : USet w T v M K) (h0 : ∀ W, Only (fun _ => False) w W → Inv 0 W) (hl : K.length < 1099511627776)
    (hset : ∀ i W, Inv i W → i ≤ K.length → USet W T v M K)
    (hstep : ∀ i W, i < K.length → Inv i W → Calls Tryd.prog 60 #[.int .u32 (K.getD i 0 : Nat), cap] W fun e w' => e = .returned (.tuple #[]) ∧ Inv (i + 1) w' ∧ ∀ x cs, Blk W x 86 cs → Blk w' x 86 cs) :
    Calls Tryd.prog 59 #[.agg #[.pointer (some ⟨T, 0, none⟩)], .func (.func 60) #[] #[cap]] w fun e w' => e = .returned (.tuple #[]) ∧ Inv K.length w' := by
  have hmf := hmf
  obtain ⟨w2, hw2⟩ : ∃ w2, w2 = (w.alloc (.cells #[.pointer (some ⟨T, 0, none⟩)] 71)).alloc (.cells #[.func (.func 60) #[] #[cap]] 86) := ⟨_, rfl⟩
  have ho : Only (fun _ => False) w w2 := by rw [hw2]; exact ((Only.refl _ w).alloc _).alloc _
  have hbf : Blk w2 (w.heap.size + 1) 86 #[.func (.func 60) #[] #[cap]] := by
    have := Blk.new (w.alloc (.cells #[.pointer (some ⟨T, 0, none⟩)] 71)) 86 #[.func (.func 60) #[] #[cap]]
    rw [show (w.alloc (.cells #[.pointer (some ⟨T, 0, none⟩)] 71)).heap.size = w.heap.size + 1 from by simp] at this
    rw [hw2]
    exact this
  have HF := Lib.hid (ForEachEach_any T M v K w2 (.pointer (some ⟨w.heap.size + 1, 0, none⟩)) (fun i W => Inv i W ∧ Blk W (w.heap.size + 1) 86 #[.func (.func 60) #[] #[cap]])
    (h.only ho (fun hf => hf) (fun _ _ hf => hf) (fun hf => hf)) ⟨h0 _ ho, hbf⟩ hl (fun i W hi hle => hset i W hi.1 hle)
    (fun i W hlt hi => each1State_any _ _ cap _ W (hi.2.cell 0) ((hstep i W hlt hi.1).mono fun e w' ⟨he, h1, h2⟩ => ⟨he, h1, h2 _ _ hi.2⟩)))
  have HW2 := Lib.hid hw2
  clear h h0 hset hstep ho hbf hw2
  go_enter Tryd.func59, Tryd.ntmps59
  go_wp2_with (go_at_call 87; rw [← HW2.out]; refine HF.out.mono ?_; rintro e w3 ⟨rfl, hi3, _⟩)
  go_end0
  exact ⟨rfl, hi3⟩

theorem each1Merge_any (k x : Nat) (cap : Value) (Post : World → Prop) (w : World) (hx : w.cell? ⟨x, 0, none⟩ = some (.func (.func 90) #[] #[cap]))
    (hc : Calls Tryd.prog 90 #[.int .u32 (k : Nat), cap] w fun e w' => e = .returned (.tuple #[]) ∧ Post w') :
    Calls Tryd.prog 88 #[.int .u32 (k : Nat), .pointer (some ⟨x, 0, none⟩)] w fun e w' => e = .returned (.bool true) ∧ Post w' := by
  have HC := Lib.hid hc
  clear hc
  go_enter Tryd.func88, Tryd.ntmps88
  go_wp2_with (go_at_call 90; refine HC.out.mono ?_; rintro e w1 ⟨rfl, hp⟩)
  go_ret
  exact ⟨rfl, hp⟩

set_option maxHeartbeats 400000 in
theorem sForEachMerge_any (T M : Nat) (v : Value) (K : List Nat) (w : World) (cap : Value) (Inv : Nat → World → Prop) (h : USet w T v M K) (h0 : ∀ W, Only (fun _ => False) w W → Inv 0 W) (hl : K.length < 1099511627776)
    (hset : ∀ i W, Inv i W → i ≤ K.length → USet W T v M K)
    (hstep : ∀ i W, i < K.length → Inv i W → Calls Tryd.prog 90 #[.int .u32 (K.getD i 0 : Nat), cap] W fun e w' => e = .returned (.tuple #[]) ∧ Inv (i + 1) w' ∧ ∀ x cs, Blk W x 86 cs → Blk w' x 86 cs) :
    Calls Tryd.prog 59 #[.agg #[.pointer (some ⟨T, 0, none⟩)], .func (.func 90) #[] #[cap]] w fun e w' => e = .returned (.tuple #[]) ∧ Inv K.length w' := by
  have hmf := hmf
  obtain ⟨w2, hw2⟩ : ∃ w2, w2 = (w.alloc (.cells #[.pointer (some ⟨T, 0, none⟩)] 71)).alloc (.cells #[.func (.func 90) #[] #[cap]] 86) := ⟨_, rfl⟩
  have ho : Only (fun _ => False) w w2 := by rw [hw2]; exact ((Only.refl _ w).alloc _).alloc _
  have hbf : Blk w2 (w.heap.size + 1) 86 #[.func (.func 90) #[] #[cap]] := by
    have := Blk.new (w.alloc (.cells #[.pointer (some ⟨T, 0, none⟩)] 71)) 86 #[.func (.func 90) #[] #[cap]]
    rw [show (w.alloc (.cells #[.pointer (some ⟨T, 0, none⟩)] 71)).heap.size = w.heap.size + 1 from by simp] at this
    rw [hw2]
    exact this
  have HF := Lib.hid (ForEachEach_any T M v K w2 (.pointer (some ⟨w.heap.size + 1, 0, none⟩)) (fun i W => Inv i W ∧ Blk W (w.heap.size + 1) 86 #[.func (.func 90) #[] #[cap]])
    (h.only ho (fun hf => hf) (fun _ _ hf => hf) (fun hf => hf)) ⟨h0 _ ho, hbf⟩ hl (fun i W hi hle => hset i W hi.1 hle)
    (fun i W hlt hi => each1Merge_any _ _ cap _ W (hi.2.cell 0) ((hstep i W hlt hi.1).mono fun e w' ⟨he, h1, h2⟩ => ⟨he, h1, h2 _ _ hi.2⟩)))
  have HW2 := Lib.hid hw2
  clear h h0 hset hstep ho hbf hw2
  go_enter Tryd.func59, Tryd.ntmps59
  go_wp2_with (go_at_call 87; rw [← HW2.out]; refine HF.out.mono ?_; rintro e w3 ⟨rfl, hi3, _⟩)
  go_end0
  exact ⟨rfl, hi3⟩

theorem each1Dense_any (k x : Nat) (cap : Value) (Post : World → Prop) (w : World) (hx : w.cell? ⟨x, 0, none⟩ = some (.func (.func 99) #[] #[cap]))
    (hc : Calls Tryd.prog 99 #[.int .u32 (k : Nat), cap] w fun e w' => e = .returned (.tuple #[]) ∧ Post w') :
    Calls Tryd.prog 88 #[.int .u32 (k : Nat), .pointer (some ⟨x, 0, none⟩)] w fun e w' => e = .returned (.bool true) ∧ Post w' := by
  have HC := Lib.hid hc
  clear hc
  go_enter Tryd.func88, Tryd.ntmps88
  go_wp2_with (go_at_call 99; refine HC.out.mono ?_; rintro e w1 ⟨rfl, hp⟩)
  go_ret
  exact ⟨rfl, hp⟩

set_option maxHeartbeats 400000 in
theorem sForEachDense_any (T M : Nat) (v : Value) (K : List Nat) (w : World) (cap : Value) (Inv : Nat → World → Prop) (h : USet w T v M K) (h0 : ∀ W, Only (fun _ => False) w W → Inv 0 W) (hl : K.length < 1099511627776)
    (hset : ∀ i W, Inv i W → i ≤ K.length → USet W T v M K)
    (hstep : ∀ i W, i < K.length → Inv i W → Calls Tryd.prog 99 #[.int .u32 (K.getD i 0 : Nat), cap] W fun e w' => e = .returned (.tuple #[]) ∧ Inv (i + 1) w' ∧ ∀ x cs, Blk W x 86 cs → Blk w' x 86 cs) :
    Calls Tryd.prog 59 #[.agg #[.pointer (some ⟨T, 0, none⟩)], .func (.func 99) #[] #[cap]] w fun e w' => e = .returned (.tuple #[]) ∧ Inv K.length w' := by
  have hmf := hmf
  obtain ⟨w2, hw2⟩ : ∃ w2, w2 = (w.alloc (.cells #[.pointer (some ⟨T, 0, none⟩)] 71)).alloc (.cells #[.func (.func 99) #[] #[cap]] 86) := ⟨_, rfl⟩
  have ho : Only (fun _ => False) w w2 := by rw [hw2]; exact ((Only.refl _ w).alloc _).alloc _
  have hbf : Blk w2 (w.heap.size + 1) 86 #[.func (.func 99) #[] #[cap]] := by
    have := Blk.new (w.alloc (.cells #[.pointer (some ⟨T, 0, none⟩)] 71)) 86 #[.func (.func 99) #[] #[cap]]
    rw [show (w.alloc (.cells #[.pointer (some ⟨T, 0, none⟩)] 71)).heap.size = w.heap.size + 1 from by simp] at this
    rw [hw2]
    exact this
  have HF := Lib.hid (ForEachEach_any T M v K w2 (.pointer (some ⟨w.heap.size + 1, 0, none⟩)) (fun i W => Inv i W ∧ Blk W (w.heap.size + 1) 86 #[.func (.func 99) #[] #[cap]])
    (h.only ho (fun hf => hf) (fun _ _ hf => hf) (fun hf => hf)) ⟨h0 _ ho, hbf⟩ hl (fun i W hi hle => hset i W hi.1 hle)
    (fun i W hlt hi => each1Dense_any _ _ cap _ W (hi.2.cell 0) ((hstep i W hlt hi.1).mono fun e w' ⟨he, h1, h2⟩ => ⟨he, h1, h2 _ _ hi.2⟩)))
  have HW2 := Lib.hid hw2
  clear h h0 hset hstep ho hbf hw2
  go_enter Tryd.func59, Tryd.ntmps59
  go_wp2_with (go_at_call 87; rw [← HW2.out]; refine HF.out.mono ?_; rintro e w3 ⟨rfl, hi3, _⟩)
  go_end0
  exact ⟨rfl, hi3⟩

theorem colState_any (Q k : Nat) (v : Value) (xs : List Nat) (w : World) (hq : Blk w Q 24 #[v]) (hr : Row w 26 .u32 v xs) (hl : xs.length < 1099511627776) :
    Calls Tryd.prog 60 #[.int .u32 (k : Nat), .pointer (some ⟨Q, 0, none⟩)] w fun e w' => e = .returned (.tuple #[]) ∧
      ∃ v', Blk w' Q 24 #[v'] ∧ Row w' 26 .u32 v' (xs ++ [k]) ∧ Only (fun b => b = Q ∨ v.ownBlock = some b) w w' ∧ Lies w v v' := by
  obtain ⟨i0, hi, hz0, hz1, hz2⟩ := info_parts info_u32
  obtain ⟨A, c, rfl, _, _, _, _⟩ := hr.nums
  have c0 : w.cell? ⟨Q, 0, none⟩ = some (.slice A xs.length c) := hq.cell 0
  have hvQ := hr.blk_ne hq (by decide)
  have HQ := Lib.hid hq
  have HR := Lib.hid hr
  clear hq hr
  go_enter Tryd.func60, Tryd.ntmps60
  go_wp2_with (at_builtin; go_must (refine wpList_append_one rfl (.tmp 3) (.tmp 5) 24 rfl 26 i0 (.int .u32 0) 4 Tryd.underlying24 hi hz0 hz1 hz2 rfl .u32 (.slice A xs.length c) xs rfl HR.out k 1 26 rfl ?c4 ?c5 ?_))
  case c4 => omega
  case c5 => omega
  intro v2 w2 hrow2 hon2 hlies2
  have hb2 := HQ.out.only hon2 hvQ
  have f2 := hb2.frozen 0
  have c2 : w2.cell? ⟨Q, 0, none⟩ = some (.slice A xs.length c) := hb2.cell 0
  obtain ⟨A2, cp2, hv2, _⟩ := hrow2.nums
  rw [show (xs ++ [k]).length = xs.length + 1 from by simp] at hv2
  subst hv2
  have HB2 := Lib.hid hb2
  have HR2 := Lib.hid hrow2
  have HO2 := Lib.hid hon2
  clear hb2 hrow2 hon2 c0
  go_wp2
  go_end0
  refine ⟨rfl, _, HB2.out.set_ 0 _, HR2.out.only ((Only.refl (fun b => b = Q) w2).setCell (fun _ => rfl) _) (fun g hg he => ?_), (HO2.out.mono (fun b hb _ => .inr hb)).setCell (fun _ => .inl rfl) _, hlies2⟩
  exact HR2.out.blk_ne HB2.out (by decide) (by rw [hg, he])

theorem collectState_any (T M Q : Nat) (v v0 : Value) (K : List Nat) (w : World) (h : USet w T v M K) (hq : Blk w Q 24 #[v0]) (hr : Row w 26 .u32 v0 []) (hne : ∀ g, v0.ownBlock = some g → v.ownBlock ≠ some g) (hl : K.length < 1099511627776) :
    Calls Tryd.prog 59 #[.agg #[.pointer (some ⟨T, 0, none⟩)], .func (.func 60) #[] #[.pointer (some ⟨Q, 0, none⟩)]] w fun e w' => e = .returned (.tuple #[]) ∧
      ∃ v', Blk w' Q 24 #[v'] ∧ Row w' 26 .u32 v' K ∧ Only (fun b => b = Q ∨ v0.ownBlock = some b) w w' ∧ Lies w v0 v' := by
  have hS : ∀ W, Only (fun b => b = Q ∨ v0.ownBlock = some b) w W → USet W T v M K := fun W hW => by
    refine h.only hW ?_ ?_ ?_
    · rintro (e | e)
      · exact h.blk.ne_ hq (by decide) e
      · exact hr.blk_ne h.blk (by decide) e
    · rintro g hg (e | e)
      · exact h.row.blk_ne hq (by decide) (by rw [hg, e])
      · exact hne g e hg
    · rintro (e | e)
      · exact h.map.ne hq e
      · exact h.map.row_ne hr e
  refine (sForEachState_any T M v K w (.pointer (some ⟨Q, 0, none⟩)) (fun i W => ∃ v', Blk W Q 24 #[v'] ∧ Row W 26 .u32 v' (K.take i) ∧ Only (fun b => b = Q ∨ v0.ownBlock = some b) w W ∧ Lies w v0 v') h ?_ hl ?_ ?_).mono ?_
  · intro W hW
    exact ⟨v0, hq.only hW (fun hf => hf), by rw [List.take_zero]; exact hr.only hW (fun _ _ hf => hf), hW.mono (fun _ hf _ => hf.elim), Lies.refl _ _⟩
  · rintro i W ⟨v', _, _, ho, _⟩ _
    exact hS W ho
  · rintro i W hi ⟨v', hb', hr', ho', hl'⟩
    have hL : ∀ b, v'.ownBlock = some b → b < w.heap.size → v0.ownBlock = some b := by
      intro b hb hlt
      rcases hl' with e | ⟨g, e, hge⟩
      · rw [← e]; exact hb
      · rw [hb] at e; injection e with e; omega
    refine (colState_any Q (K.getD i 0) v' (K.take i) W hb' hr' (by rw [List.length_take]; omega)).mono ?_
    rintro e w' ⟨rfl, v2, hb2, hr2, ho2, hl2⟩
    refine ⟨rfl, ⟨v2, hb2, by rw [list_take_succ K i hi]; exact hr2, ho'.trans ho2 ?_, hl'.trans ho'.size hl2⟩, ?_⟩
    · rintro b (e | e) hlt
      · exact .inl e
      · exact .inr (hL b e hlt)
    · intro x cs hx
      refine hx.only ho2 ?_
      rintro (e | e)
      · exact hx.ne_ hb' (by decide) e
      · exact hr'.blk_ne hx (by decide) e
  · rintro e w' ⟨rfl, v', hb', hr', ho', hl'⟩
    rw [List.take_length] at hr'
    exact ⟨rfl, v', hb', hr', ho', hl'⟩

theorem colMerge_any (Q k : Nat) (v : Value) (xs : List Nat) (w : World) (hq : Blk w Q 24 #[v]) (hr : Row w 26 .u32 v xs) (hl : xs.length < 1099511627776) :
    Calls Tryd.prog 90 #[.int .u32 (k : Nat), .pointer (some ⟨Q, 0, none⟩)] w fun e w' => e = .returned (.tuple #[]) ∧
      ∃ v', Blk w' Q 24 #[v'] ∧ Row w' 26 .u32 v' (xs ++ [k]) ∧ Only (fun b => b = Q ∨ v.ownBlock = some b) w w' ∧ Lies w v v' := by
  obtain ⟨i0, hi, hz0, hz1, hz2⟩ := info_parts info_u32
  obtain ⟨A, c, rfl, _, _, _, _⟩ := hr.nums
  have c0 : w.cell? ⟨Q, 0, none⟩ = some (.slice A xs.length c) := hq.cell 0
  have hvQ := hr.blk_ne hq (by decide)
  have HQ := Lib.hid hq
  have HR := Lib.hid hr
  clear hq hr
  go_enter Tryd.func90, Tryd.ntmps90
  go_wp2_with (at_builtin; go_must (refine wpList_append_one rfl (.tmp 3) (.tmp 5) 24 rfl 26 i0 (.int .u32 0) 4 Tryd.underlying24 hi hz0 hz1 hz2 rfl .u32 (.slice A xs.length c) xs rfl HR.out k 1 26 rfl ?c4 ?c5 ?_))
  case c4 => omega
  case c5 => omega
  intro v2 w2 hrow2 hon2 hlies2
  have hb2 := HQ.out.only hon2 hvQ
  have f2 := hb2.frozen 0
  have c2 : w2.cell? ⟨Q, 0, none⟩ = some (.slice A xs.length c) := hb2.cell 0
  obtain ⟨A2, cp2, hv2, _⟩ := hrow2.nums
  rw [show (xs ++ [k]).length = xs.length + 1 from by simp] at hv2
  subst hv2
  have HB2 := Lib.hid hb2
  have HR2 := Lib.hid hrow2
  have HO2 := Lib.hid hon2
  clear hb2 hrow2 hon2 c0
  go_wp2
  go_end0
  refine ⟨rfl, _, HB2.out.set_ 0 _, HR2.out.only ((Only.refl (fun b => b = Q) w2).setCell (fun _ => rfl) _) (fun g hg he => ?_), (HO2.out.mono (fun b hb _ => .inr hb)).setCell (fun _ => .inl rfl) _, hlies2⟩
  exact HR2.out.blk_ne HB2.out (by decide) (by rw [hg, he])

theorem collectMerge_any (T M Q : Nat) (v v0 : Value) (K : List Nat) (w : World) (h : USet w T v M K) (hq : Blk w Q 24 #[v0]) (hr : Row w 26 .u32 v0 []) (hne : ∀ g, v0.ownBlock = some g → v.ownBlock ≠ some g) (hl : K.length < 1099511627776) :
    Calls Tryd.prog 59 #[.agg #[.pointer (some ⟨T, 0, none⟩)], .func (.func 90) #[] #[.pointer (some ⟨Q, 0, none⟩)]] w fun e w' => e = .returned (.tuple #[]) ∧
      ∃ v', Blk w' Q 24 #[v'] ∧ Row w' 26 .u32 v' K ∧ Only (fun b => b = Q ∨ v0.ownBlock = some b) w w' ∧ Lies w v0 v' := by
  have hS : ∀ W, Only (fun b => b = Q ∨ v0.ownBlock = some b) w W → USet W T v M K := fun W hW => by
    refine h.only hW ?_ ?_ ?_
    · rintro (e | e)
      · exact h.blk.ne_ hq (by decide) e
      · exact hr.blk_ne h.blk (by decide) e
    · rintro g hg (e | e)
      · exact h.row.blk_ne hq (by decide) (by rw [hg, e])
      · exact hne g e hg
    · rintro (e | e)
      · exact h.map.ne hq e
      · exact h.map.row_ne hr e
  refine (sForEachMerge_any T M v K w (.pointer (some ⟨Q, 0, none⟩)) (fun i W => ∃ v', Blk W Q 24 #[v'] ∧ Row W 26 .u32 v' (K.take i) ∧ Only (fun b => b = Q ∨ v0.ownBlock = some b) w W ∧ Lies w v0 v') h ?_ hl ?_ ?_).mono ?_
  · intro W hW
    exact ⟨v0, hq.only hW (fun hf => hf), by rw [List.take_zero]; exact hr.only hW (fun _ _ hf => hf), hW.mono (fun _ hf _ => hf.elim), Lies.refl _ _⟩
  · rintro i W ⟨v', _, _, ho, _⟩ _
    exact hS W ho
  · rintro i W hi ⟨v', hb', hr', ho', hl'⟩
    have hL : ∀ b, v'.ownBlock = some b → b < w.heap.size → v0.ownBlock = some b := by
      intro b hb hlt
      rcases hl' with e | ⟨g, e, hge⟩
      · rw [← e]; exact hb
      · rw [hb] at e; injection e with e; omega
    refine (colMerge_any Q (K.getD i 0) v' (K.take i) W hb' hr' (by rw [List.length_take]; omega)).mono ?_
    rintro e w' ⟨rfl, v2, hb2, hr2, ho2, hl2⟩
    refine ⟨rfl, ⟨v2, hb2, by rw [list_take_succ K i hi]; exact hr2, ho'.trans ho2 ?_, hl'.trans ho'.size hl2⟩, ?_⟩
    · rintro b (e | e) hlt
      · exact .inl e
      · exact .inr (hL b e hlt)
    · intro x cs hx
      refine hx.only ho2 ?_
      rintro (e | e)
      · exact hx.ne_ hb' (by decide) e
      · exact hr'.blk_ne hx (by decide) e
  · rintro e w' ⟨rfl, v', hb', hr', ho', hl'⟩
    rw [List.take_length] at hr'
    exact ⟨rfl, v', hb', hr', ho', hl'⟩

end Go.Proofs.YtoegfdndoeiolaaDoor

/- Walks: an iterator at its place in a list, as the loops over lists use it; a register is raised. Conditions: the list's keys rise and are below 2^32; the register is one. -/
namespace Go.Proofs.YtoegfdndoeiolaaDoor
open Go.RowKit

/-- Variable I holds an iterator behind t of the keys ks of list L. -/
structure ItInv (w : World) (L I : Nat) (u : Value) (ks : List Nat) (t : Nat) : Prop where
  at_ : ItAt w I L (ks.take t)
  list : CList w L u ks
  keys : Keys ks
section
variable {w w' : World} {L I t : Nat} {u : Value} {ks : List Nat} {S : Nat → Prop}
theorem ItInv.cells (h : ItInv w L I u ks t) : w.cell? ⟨I, 0, none⟩ = some (.int .i64 (Go.Proofs.YtoegfdndoeiolaaDoor.at_ (ks.take t) : Nat)) ∧ w.cell? ⟨I, 1, none⟩ = some (.int .u32 (lastOr 0 (ks.take t) : Nat)) ∧ w.cell? ⟨I, 2, none⟩ = some (.pointer (some ⟨L, 0, none⟩)) :=
  ⟨h.at_.cell 0, h.at_.cell 1, h.at_.cell 2⟩
theorem ItInv.only (h : ItInv w L I u ks t) (ho : Only S w w') (h1 : ¬ S I) (h2 : ¬ S L) (h3 : ∀ g, u.ownBlock = some g → ¬ S g) : ItInv w' L I u ks t :=
  ⟨Blk.only h.at_ ho h1, h.list.only ho h2 h3, h.keys⟩
theorem ItInv.same (h : ItInv w L I u ks t) (ho : Only (fun _ => False) w w') : ItInv w' L I u ks t := h.only ho (fun hf => hf) (fun hf => hf) (fun _ _ hf => hf)
theorem ItInv.start (hc : CList w L u ks) (hk : Keys ks) : ItInv (w.alloc (.cells #[.int .i64 (Go.Proofs.YtoegfdndoeiolaaDoor.at_ [] : Nat), .int .u32 (lastOr 0 [] : Nat), .pointer (some ⟨L, 0, none⟩)] 82)) L w.heap.size u ks 0 :=
  ⟨by rw [List.take_zero]; exact Blk.new w _ _, hc.only ((Only.refl (fun _ => False) w).alloc _) (fun hf => hf) (fun _ _ hf => hf), hk⟩
theorem ItInv.again (h : ItInv w L I u ks t) : ItInv (w.alloc (.cells #[.int .i64 (Go.Proofs.YtoegfdndoeiolaaDoor.at_ (ks.take t) : Nat), .int .u32 (lastOr 0 (ks.take t) : Nat), .pointer (some ⟨L, 0, none⟩)] 82)) L w.heap.size u ks t :=
  ⟨Blk.new w _ _, h.list.only ((Only.refl (fun _ => False) w).alloc _) (fun hf => hf) (fun _ _ hf => hf), h.keys⟩
theorem ItInv.ne (h : ItInv w L I u ks t) : I ≠ L := h.at_.ne_ h.list.1 (by decide)
theorem hasNext_i (h : ItInv w L I u ks t) (ht : t ≤ ks.length) :
    Calls Tryd.prog 49 #[.agg #[.int .i64 (Go.Proofs.YtoegfdndoeiolaaDoor.at_ (ks.take t) : Nat), .int .u32 (lastOr 0 (ks.take t) : Nat), .pointer (some ⟨L, 0, none⟩)]] w fun e w' =>
      e = .returned (.bool (decide (t < ks.length))) ∧ Only (fun _ => False) w w' := by
  have e : ks.take t ++ ks.drop t = ks := List.take_append_drop t ks
  refine (HasNext_any L u (ks.take t) (ks.drop t) w (by rw [e]; exact h.list) (by rw [e]; exact h.keys)).mono ?_
  rintro e w' ⟨rfl, ho⟩
  refine ⟨?_, ho⟩
  congr 2
  by_cases hlt : t < ks.length
  · have h2 := list_split (ks.drop t) 0 (by rw [List.length_drop]; omega)
    rw [decide_eq_true hlt, h2]; rfl
  · rw [decide_eq_false hlt, List.drop_eq_nil_of_le (by omega)]; rfl
theorem next_i (h : ItInv w L I u ks t) (ht : t < ks.length) :
    Calls Tryd.prog 50 #[.pointer (some ⟨I, 0, none⟩)] w fun e w' =>
      e = .returned (.int .u32 (ks.getD t 0 : Nat)) ∧ ItInv w' L I u ks (t + 1) ∧ Only (fun b => b = I) w w' := by
  have e := list_split ks t ht
  refine (Next_any I L u (ks.take t) (ks.drop (t + 1)) (ks.getD t 0) w h.at_ (by rw [← e]; exact h.list) (by rw [← e]; exact h.keys)).mono ?_
  rintro e' w' ⟨rfl, hi, ho⟩
  refine ⟨rfl, ⟨by rw [list_take_succ ks t ht]; exact hi, h.list.only ho (fun e => h.ne e.symm) (fun g hg e => h.list.2.1.blk_ne h.at_ (by decide) (by rw [hg, e])), h.keys⟩, ho⟩
theorem peek_i (h : ItInv w L I u ks t) (ht : t < ks.length) :
    Calls Tryd.prog 92 #[.pointer (some ⟨I, 0, none⟩)] w fun e w' =>
      e = .returned (.tuple #[.int .u32 (ks.getD t 0 : Nat), .int .i64 (Go.Proofs.YtoegfdndoeiolaaDoor.at_ (ks.take (t + 1)) : Nat)]) ∧ Only (fun _ => False) w w' := by
  have e := list_split ks t ht
  refine (Peek_any I L u (ks.take t) (ks.drop (t + 1)) (ks.getD t 0) w h.at_ (by rw [← e]; exact h.list) (by rw [← e]; exact h.keys)).mono ?_
  rintro e' w' ⟨rfl, ho⟩
  exact ⟨by rw [list_take_succ ks t ht], ho⟩
theorem advance_i (h : ItInv w L I u ks t) (ht : t < ks.length) :
    Calls Tryd.prog 93 #[.pointer (some ⟨I, 0, none⟩), .int .u32 (ks.getD t 0 : Nat), .int .i64 (Go.Proofs.YtoegfdndoeiolaaDoor.at_ (ks.take (t + 1)) : Nat)] w fun e w' =>
      e = .returned (.tuple #[]) ∧ ItInv w' L I u ks (t + 1) ∧ Only (fun b => b = I) w w' := by
  rw [list_take_succ ks t ht]
  refine (Advance_any I L (ks.take t) (ks.getD t 0) w h.at_).mono ?_
  rintro e' w' ⟨rfl, hi, ho⟩
  refine ⟨rfl, ⟨by rw [list_take_succ ks t ht]; exact hi, h.list.only ho (fun e => h.ne e.symm) (fun g hg e => h.list.2.1.blk_ne h.at_ (by decide) (by rw [hg, e])), h.keys⟩, ho⟩
theorem ItInv.key (h : ItInv w L I u ks t) (ht : t < ks.length) : ks.getD t 0 < 4294967296 := by
  refine h.keys.2.1 _ ?_
  rw [List.getD_eq_getElem?_getD, List.getElem?_eq_getElem ht]
  exact List.getElem_mem ht
end

theorem Row.set_ {w : World} {e : TypeId} {k : IntKind} {g n c : Nat} {xs : List Nat} (h : Row w e k (.slice (some ⟨g, 0, none⟩) n c) xs) (hn : n = xs.length) (i x : Nat) :
    Row (w.setCell ⟨g, i, none⟩ (.int k (x : Int))) e k (.slice (some ⟨g, 0, none⟩) n c) (xs.set i x) := by
  subst hn
  have h1 := (World.ownsRow.stored (show w.ownsRow 0 e 1 (.slice (some ⟨g, 0, none⟩) xs.length c) xs.length _ from h) i (.int k (x : Int))).1
  unfold Row
  rw [List.length_set, List.map_set]
  exact h1

/-- A register is raised. -/
theorem insert_any (S p al i x : Nat) (tp lp rv : Value) (r : List Nat) (w : World) (hb : SkB w S p al tp lp rv) (hr : Row w 5 .u8 rv r) (hi : i < r.length) (hx : x < 256) (hr256 : ∀ v ∈ r, v < 256) (hl : r.length < 1099511627776) :
    Calls Tryd.prog 86 #[.pointer (some ⟨S, 0, none⟩), .int .u32 i, .int .u8 x] w fun e w' => e = .returned (.tuple #[]) ∧
      Row w' 5 .u8 rv (up r i x) ∧ Only (fun b => rv.ownBlock = some b) w w' := by
  rcases hr.form with ⟨_, rfl⟩ | ⟨g, c, rfl, hc, hlt, ho⟩
  · exact absurd hi (by simp)
  have c5 : w.cell? ⟨S, 5, none⟩ = some (.slice (some ⟨g, 0, none⟩) r.length c) := hb.cell 5
  have ci := hr.cell ho i hi
  have fi := hr.frozen ho i
  have hy : r.getD i 0 < 256 := by
    rw [List.getD_eq_getElem?_getD, List.getElem?_eq_getElem hi]
    exact hr256 _ (List.getElem_mem hi)
  have hset : ∀ z, Row (w.setCell ⟨g, i, none⟩ (.int .u8 (z : Nat))) 5 .u8 (.slice (some ⟨g, 0, none⟩) r.length c) (r.set i z) := fun z => hr.set_ rfl i z
  have hon : ∀ v : Value, Only (fun b => (Value.slice (some ⟨g, 0, none⟩) r.length c).ownBlock = some b) w (w.setCell ⟨g, i, none⟩ v) := fun v => (Only.refl (fun b => (Value.slice (some ⟨g, 0, none⟩) r.length c).ownBlock = some b) w).setCell (p := ⟨g, i, none⟩) (fun _ => rfl) v
  have hup : up r i x = r.set i (max x (r.getD i 0)) := rfl
  rw [hup]
  obtain ⟨y, hyy⟩ : ∃ y, y = r.getD i 0 := ⟨_, rfl⟩
  rw [← hyy] at ci hy ⊢
  have HS := Lib.hid hset
  have HO := Lib.hid hon
  clear hset hon hb hr hup hyy
  go_enter Tryd.func86, Tryd.ntmps86
  go_wp2_with fail
  go_region
  all_goals go_wp2
  go_end0
  refine ⟨rfl, ?_, (HO.out _).drew⟩
  have h := HS.out (max x y)
  rw [show ((max x y : Nat) : Int) = max (x : Int) (y : Int) from by omega] at h
  exact h.only ((Only.refl (fun _ => False) _).drew) (fun _ _ hf => hf)
end Go.Proofs.YtoegfdndoeiolaaDoor

/- Walks: the state of the loop that merges waiting keys into a list. Conditions: the list's keys rise and are below 2^32. -/
namespace Go.Proofs.YtoegfdndoeiolaaDoor
open Go.RowKit

/-- Where the loop stands: t keys of the list ks and i of the sorted keys ys are done, o is written; the iterator stands behind p keys. -/
structure MInv (w : World) (Q L L2 : Nat) (v0 u : Value) (ks ys : List Nat) (I p t i : Nat) (u2 : Value) (o : List Nat) (wr : World) : Prop where
  it : ItInv wr L I u ks p
  blk : Blk wr Q 24 #[v0]
  row : Row wr 26 .u32 v0 ys
  out : CList wr L2 u2 o
  only : Only (fun _ => False) w wr
  newI : w.heap.size ≤ I
  newL : w.heap.size ≤ L2
  newU : ∀ g, u2.ownBlock = some g → w.heap.size ≤ g
  oldL : L < w.heap.size
  oldU : ∀ g, u.ownBlock = some g → g < w.heap.size
  step : o ++ mrg (ks.drop t) (ys.drop i) = mrg ks ys
  lt : t ≤ ks.length
  li : i ≤ ys.length
section
variable {w wr w' : World} {Q L L2 I p t i : Nat} {v0 u u2 : Value} {ks ys o : List Nat}
theorem MInv.same (h : MInv w Q L L2 v0 u ks ys I p t i u2 o wr) (ho : Only (fun _ => False) wr w') : MInv w Q L L2 v0 u ks ys I p t i u2 o w' :=
  ⟨h.it.same ho, h.blk.only ho (fun hf => hf), h.row.only ho (fun _ _ hf => hf), h.out.only ho (fun hf => hf) (fun _ _ hf => hf), h.only.trans ho (fun _ hf _ => hf), h.newI, h.newL, h.newU, h.oldL, h.oldU, h.step, h.lt, h.li⟩
theorem MInv.moved {s : Nat} (h : MInv w Q L L2 v0 u ks ys I p t i u2 o wr) (hi : ItInv w' L I u ks s) (ho : Only (fun b => b = I) wr w') : MInv w Q L L2 v0 u ks ys I s t i u2 o w' :=
  ⟨hi, h.blk.only ho (h.blk.ne_ h.it.at_ (by decide)), h.row.only ho (fun g hg e => h.row.blk_ne h.it.at_ (by decide) (by rw [hg, e])), h.out.only ho (fun e => h.it.at_.ne_ h.out.1 (by decide) e.symm) (fun g hg e => h.out.2.1.blk_ne h.it.at_ (by decide) (by rw [hg, e])),
    h.only.trans ho (fun b hb hlt => by have := h.newI; omega), h.newI, h.newL, h.newU, h.oldL, h.oldU, h.step, h.lt, h.li⟩
theorem MInv.again (h : MInv w Q L L2 v0 u ks ys I p t i u2 o wr) : MInv w Q L L2 v0 u ks ys wr.heap.size p t i u2 o (wr.alloc (.cells #[.int .i64 (at_ (ks.take p) : Nat), .int .u32 (lastOr 0 (ks.take p) : Nat), .pointer (some ⟨L, 0, none⟩)] 82)) := by
  have ho : Only (fun _ => False) wr (wr.alloc (.cells #[.int .i64 (at_ (ks.take p) : Nat), .int .u32 (lastOr 0 (ks.take p) : Nat), .pointer (some ⟨L, 0, none⟩)] 82)) := (Only.refl _ wr).alloc _
  exact ⟨h.it.again, h.blk.only ho (fun hf => hf), h.row.only ho (fun _ _ hf => hf), h.out.only ho (fun hf => hf) (fun _ _ hf => hf), h.only.trans ho (fun _ hf _ => hf), h.only.size, h.newL, h.newU, h.oldL, h.oldU, h.step, h.lt, h.li⟩
theorem MInv.rises (h : MInv w Q L L2 v0 u ks ys I p t i u2 o wr) (hr : Rising ys) {k : Nat} {rest : List Nat} (he : mrg (ks.drop t) (ys.drop i) = k :: rest) : lastOr 0 o ≤ k := by
  have h1 : Rising (mrg ks ys) := rising_mrg _ _ h.it.keys.1 hr
  rw [← h.step] at h1
  exact rising_le h1 k rest he
theorem MInv.short (h : MInv w Q L L2 v0 u ks ys I p t i u2 o wr) (hl : ks.length + ys.length < 2147483648) : o.length < 2147483648 := by
  have h1 := congrArg List.length h.step
  have h2 := mrg_length ks ys
  rw [List.length_append] at h1
  omega
/-- A key is written. -/
theorem MInv.append (h : MInv w Q L L2 v0 u ks ys I p t i u2 o wr) {s j k : Nat} (hk : k < 4294967296) (hle : lastOr 0 o ≤ k) (hl : o.length < 2147483648) (hs : (o ++ [k]) ++ mrg (ks.drop s) (ys.drop j) = mrg ks ys) (h1 : s ≤ ks.length) (h2 : j ≤ ys.length) :
    Calls Tryd.prog 51 #[.pointer (some ⟨L2, 0, none⟩), .int .u32 k] wr fun e w' => e = .returned (.tuple #[]) ∧
      ∃ u3, MInv w Q L L2 v0 u ks ys I p s j u3 (o ++ [k]) w' := by
  refine (CAppend_any L2 u2 o k wr h.out hk hle hl).mono ?_
  rintro e w' ⟨rfl, u3, hc, ho, hlies⟩
  have hLL : L ≠ L2 := by have := h.oldL; have := h.newL; omega
  have hit : ItInv w' L I u ks p := by
    refine h.it.only ho ?_ ?_ ?_
    · rintro (e | e)
      · exact h.it.at_.ne_ h.out.1 (by decide) e
      · exact h.out.2.1.blk_ne h.it.at_ (by decide) e
    · rintro (e | e)
      · exact hLL e
      · exact h.out.2.1.blk_ne h.it.list.1 (by decide) e
    · rintro g hg (e | e)
      · exact h.it.list.2.1.blk_ne h.out.1 (by decide) (by rw [hg, e])
      · have := h.oldU g hg; have := h.newU g e; omega
  have hq : Blk w' Q 24 #[v0] := by
    refine h.blk.only ho ?_
    rintro (e | e)
    · exact h.blk.ne_ h.out.1 (by decide) e
    · exact h.out.2.1.blk_ne h.blk (by decide) e
  have hr : Row w' 26 .u32 v0 ys := by
    refine h.row.only ho ?_
    rintro g hg (e | e)
    · exact h.row.blk_ne h.out.1 (by decide) (by rw [hg, e])
    · exact h.row.row_ne h.out.2.1 (by decide) g hg e
  have hon : Only (fun _ => False) w w' := h.only.trans ho (by
    rintro b (e | e) hlt
    · have := h.newL; omega
    · have := h.newU b e; omega)
  refine ⟨rfl, u3, hit, hq, hr, hc, hon, h.newI, h.newL, fun g hg => ?_, h.oldL, h.oldU, hs, h1, h2⟩
  rcases hlies with e | ⟨g', e, hge⟩
  · exact h.newU g (by rw [← e]; exact hg)
  · rw [hg] at e; injection e with e; have := h.only.size; omega
end

/-- What is left to merge, and what comes first of it. -/
theorem drop_getD {ks : List Nat} {t : Nat} (h : t < ks.length) : ks.drop t = ks.getD t 0 :: ks.drop (t + 1) := by
  rw [List.drop_eq_getElem_cons h, List.getD_eq_getElem?_getD, List.getElem?_eq_getElem h]; rfl
theorem mrg_first {ks ys : List Nat} {t i : Nat} (ht : t < ks.length) (hi : ¬ i < ys.length) : mrg (ks.drop t) (ys.drop i) = ks.getD t 0 :: mrg (ks.drop (t + 1)) (ys.drop i) := by
  rw [List.drop_eq_nil_of_le (show ys.length ≤ i by omega), mrg_nil_right, mrg_nil_right, drop_getD ht]
theorem mrg_second {ks ys : List Nat} {t i : Nat} (ht : ¬ t < ks.length) (hi : i < ys.length) : mrg (ks.drop t) (ys.drop i) = ys.getD i 0 :: mrg (ks.drop t) (ys.drop (i + 1)) := by
  rw [List.drop_eq_nil_of_le (show ks.length ≤ t by omega), mrg_nil, mrg_nil, drop_getD hi]
theorem mrg_both {ks ys : List Nat} {t i : Nat} (ht : t < ks.length) (hi : i < ys.length) (h : ks.getD t 0 = ys.getD i 0) : mrg (ks.drop t) (ys.drop i) = ks.getD t 0 :: mrg (ks.drop (t + 1)) (ys.drop (i + 1)) := by
  rw [drop_getD ht, drop_getD hi, ← h, mrg_eq]
theorem mrg_more {ks ys : List Nat} {t i : Nat} (ht : t < ks.length) (hi : i < ys.length) (h : ys.getD i 0 < ks.getD t 0) : mrg (ks.drop t) (ys.drop i) = ys.getD i 0 :: mrg (ks.drop t) (ys.drop (i + 1)) := by
  rw [drop_getD ht, drop_getD hi, mrg_gt _ _ h]
theorem mrg_less {ks ys : List Nat} {t i : Nat} (ht : t < ks.length) (hi : i < ys.length) (h : ks.getD t 0 < ys.getD i 0) : mrg (ks.drop t) (ys.drop i) = ks.getD t 0 :: mrg (ks.drop (t + 1)) (ys.drop i) := by
  rw [drop_getD ht, drop_getD hi, mrg_lt _ _ h]
theorem step_on {o m n r : List Nat} {k : Nat} (h : o ++ m = r) (e : m = k :: n) : (o ++ [k]) ++ n = r := by rw [← h, e]; simp
end Go.Proofs.YtoegfdndoeiolaaDoor
