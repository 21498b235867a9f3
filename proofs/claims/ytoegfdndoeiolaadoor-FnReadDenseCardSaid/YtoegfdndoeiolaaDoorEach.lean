/- Walks: a function is called on each key of a set. Conditions: what the function does keeps the set. -/
import Derived.Test.YtoegfdndoeiolaaDoorSet
namespace Go.Proofs.YtoegfdndoeiolaaDoor
open Go.RowKit

set_option maxHeartbeats 400000 in
theorem ForEachEach_any (T M : Nat) (v : Value) (K : List Nat) (w : World) (c1 : Value) (Inv : Nat → World → Prop) (h : USet w T v M K) (h0 : Inv 0 w) (hl : K.length < 1099511627776)
    (hset : ∀ i W, Inv i W → i ≤ K.length → USet W T v M K)
    (hstep : ∀ i W, i < K.length → Inv i W → Calls Tryd.prog 88 #[.int .u32 (K.getD i 0 : Nat), c1] W fun e w' => e = .returned (.bool true) ∧ Inv (i + 1) w') :
    Calls Tryd.prog 87 #[.pointer (some ⟨T, 0, none⟩), .func (.func 88) #[] #[c1]] w fun e w' => e = .returned (.tuple #[]) ∧ Inv K.length w' := by
  obtain ⟨A, c, rfl, _, hn, _, _⟩ := h.row.nums
  have c0 : w.cell? ⟨T, 0, none⟩ = some (.slice A K.length c) := h.blk.cell 0
  have HI := Lib.hid h0
  have HST := Lib.hid hstep
  have HSE := Lib.hid hset
  clear h hn h0 hstep hset
  go_enter Tryd.func87, Tryd.ntmps87
  go_wp2_with fail
  go_loopg [13] K.length (fun g s13 wr => ∃ i, g + i = K.length ∧ s13 = .int .i64 (i : Nat) ∧ Hid (Inv i wr))
  case atStart => exact ⟨0, by omega, rfl, HI.out⟩
  case round =>
    obtain ⟨i, hg, rfl, hinv⟩ := hrel
    by_cases hlt : i < K.length
    · have hs := HSE.out i wr hinv.out (by omega)
      obtain ⟨A', c', hv', _, hn, _, _⟩ := hs.row.nums
      injection hv' with e1 _ e3
      subst e1
      subst e3
      obtain ⟨ad, rfl, _, hcell⟩ := hn.at_ hlt
      obtain ⟨k, hk⟩ : ∃ k, K.getD i 0 = k := ⟨_, rfl⟩
      have HC := Lib.hid (HST.out i wr hlt hinv.out)
      rw [hk] at hcell HC
      clear hs hn hk
      go_wp2_with (go_at_call 88; refine HC.out.mono ?_; rintro e w2 ⟨rfl, hinv2⟩)
      go_roundg (K.length - (i + 1))
      case measure => omega
      case rel => exact ⟨i + 1, by omega, by go_num, hinv2⟩
    · have hi : i = K.length := by omega
      subst hi
      go_wp2_with fail
      go_end0
      exact ⟨rfl, hinv.out⟩
set_option maxHeartbeats 400000 in
theorem ForEachMerge_any (T M : Nat) (v : Value) (K : List Nat) (w : World) (c1 : Value) (Inv : Nat → World → Prop) (h : USet w T v M K) (h0 : Inv 0 w) (hl : K.length < 1099511627776)
    (hset : ∀ i W, Inv i W → i ≤ K.length → USet W T v M K)
    (hstep : ∀ i W, i < K.length → Inv i W → Calls Tryd.prog 108 #[.int .u32 (K.getD i 0 : Nat), c1] W fun e w' => e = .returned (.bool true) ∧ Inv (i + 1) w') :
    Calls Tryd.prog 87 #[.pointer (some ⟨T, 0, none⟩), .func (.func 108) #[] #[c1]] w fun e w' => e = .returned (.tuple #[]) ∧ Inv K.length w' := by
  obtain ⟨A, c, rfl, _, hn, _, _⟩ := h.row.nums
  have c0 : w.cell? ⟨T, 0, none⟩ = some (.slice A K.length c) := h.blk.cell 0
  have HI := Lib.hid h0
  have HST := Lib.hid hstep
  have HSE := Lib.hid hset
  clear h hn h0 hstep hset
  go_enter Tryd.func87, Tryd.ntmps87
  go_wp2_with fail
  go_loopg [13] K.length (fun g s13 wr => ∃ i, g + i = K.length ∧ s13 = .int .i64 (i : Nat) ∧ Hid (Inv i wr))
  case atStart => exact ⟨0, by omega, rfl, HI.out⟩
  case round =>
    obtain ⟨i, hg, rfl, hinv⟩ := hrel
    by_cases hlt : i < K.length
    · have hs := HSE.out i wr hinv.out (by omega)
      obtain ⟨A', c', hv', _, hn, _, _⟩ := hs.row.nums
      injection hv' with e1 _ e3
      subst e1
      subst e3
      obtain ⟨ad, rfl, _, hcell⟩ := hn.at_ hlt
      obtain ⟨k, hk⟩ : ∃ k, K.getD i 0 = k := ⟨_, rfl⟩
      have HC := Lib.hid (HST.out i wr hlt hinv.out)
      rw [hk] at hcell HC
      clear hs hn hk
      go_wp2_with (go_at_call 108; refine HC.out.mono ?_; rintro e w2 ⟨rfl, hinv2⟩)
      go_roundg (K.length - (i + 1))
      case measure => omega
      case rel => exact ⟨i + 1, by omega, by go_num, hinv2⟩
    · have hi : i = K.length := by omega
      subst hi
      go_wp2_with fail
      go_end0
      exact ⟨rfl, hinv.out⟩
set_option maxHeartbeats 400000 in
theorem ForEachClone_any (T M : Nat) (v : Value) (K : List Nat) (w : World) (c1 : Value) (Inv : Nat → World → Prop) (h : USet w T v M K) (h0 : Inv 0 w) (hl : K.length < 1099511627776)
    (hset : ∀ i W, Inv i W → i ≤ K.length → USet W T v M K)
    (hstep : ∀ i W, i < K.length → Inv i W → Calls Tryd.prog 96 #[.int .u32 (K.getD i 0 : Nat), c1] W fun e w' => e = .returned (.bool true) ∧ Inv (i + 1) w') :
    Calls Tryd.prog 87 #[.pointer (some ⟨T, 0, none⟩), .func (.func 96) #[] #[c1]] w fun e w' => e = .returned (.tuple #[]) ∧ Inv K.length w' := by
  obtain ⟨A, c, rfl, _, hn, _, _⟩ := h.row.nums
  have c0 : w.cell? ⟨T, 0, none⟩ = some (.slice A K.length c) := h.blk.cell 0
  have HI := Lib.hid h0
  have HST := Lib.hid hstep
  have HSE := Lib.hid hset
  clear h hn h0 hstep hset
  go_enter Tryd.func87, Tryd.ntmps87
  go_wp2_with fail
  go_loopg [13] K.length (fun g s13 wr => ∃ i, g + i = K.length ∧ s13 = .int .i64 (i : Nat) ∧ Hid (Inv i wr))
  case atStart => exact ⟨0, by omega, rfl, HI.out⟩
  case round =>
    obtain ⟨i, hg, rfl, hinv⟩ := hrel
    by_cases hlt : i < K.length
    · have hs := HSE.out i wr hinv.out (by omega)
      obtain ⟨A', c', hv', _, hn, _, _⟩ := hs.row.nums
      injection hv' with e1 _ e3
      subst e1
      subst e3
      obtain ⟨ad, rfl, _, hcell⟩ := hn.at_ hlt
      obtain ⟨k, hk⟩ : ∃ k, K.getD i 0 = k := ⟨_, rfl⟩
      have HC := Lib.hid (HST.out i wr hlt hinv.out)
      rw [hk] at hcell HC
      clear hs hn hk
      go_wp2_with (go_at_call 96; refine HC.out.mono ?_; rintro e w2 ⟨rfl, hinv2⟩)
      go_roundg (K.length - (i + 1))
      case measure => omega
      case rel => exact ⟨i + 1, by omega, by go_num, hinv2⟩
    · have hi : i = K.length := by omega
      subst hi
      go_wp2_with fail
      go_end0
      exact ⟨rfl, hinv.out⟩
set_option maxHeartbeats 400000 in
theorem ForEachBytes_any (T M : Nat) (v : Value) (K : List Nat) (w : World) (c1 : Value) (Inv : Nat → World → Prop) (h : USet w T v M K) (h0 : Inv 0 w) (hl : K.length < 1099511627776)
    (hset : ∀ i W, Inv i W → i ≤ K.length → USet W T v M K)
    (hstep : ∀ i W, i < K.length → Inv i W → Calls Tryd.prog 111 #[.int .u32 (K.getD i 0 : Nat), c1] W fun e w' => e = .returned (.bool true) ∧ Inv (i + 1) w') :
    Calls Tryd.prog 87 #[.pointer (some ⟨T, 0, none⟩), .func (.func 111) #[] #[c1]] w fun e w' => e = .returned (.tuple #[]) ∧ Inv K.length w' := by
  obtain ⟨A, c, rfl, _, hn, _, _⟩ := h.row.nums
  have c0 : w.cell? ⟨T, 0, none⟩ = some (.slice A K.length c) := h.blk.cell 0
  have HI := Lib.hid h0
  have HST := Lib.hid hstep
  have HSE := Lib.hid hset
  clear h hn h0 hstep hset
  go_enter Tryd.func87, Tryd.ntmps87
  go_wp2_with fail
  go_loopg [13] K.length (fun g s13 wr => ∃ i, g + i = K.length ∧ s13 = .int .i64 (i : Nat) ∧ Hid (Inv i wr))
  case atStart => exact ⟨0, by omega, rfl, HI.out⟩
  case round =>
    obtain ⟨i, hg, rfl, hinv⟩ := hrel
    by_cases hlt : i < K.length
    · have hs := HSE.out i wr hinv.out (by omega)
      obtain ⟨A', c', hv', _, hn, _, _⟩ := hs.row.nums
      injection hv' with e1 _ e3
      subst e1
      subst e3
      obtain ⟨ad, rfl, _, hcell⟩ := hn.at_ hlt
      obtain ⟨k, hk⟩ : ∃ k, K.getD i 0 = k := ⟨_, rfl⟩
      have HC := Lib.hid (HST.out i wr hlt hinv.out)
      rw [hk] at hcell HC
      clear hs hn hk
      go_wp2_with (go_at_call 111; refine HC.out.mono ?_; rintro e w2 ⟨rfl, hinv2⟩)
      go_roundg (K.length - (i + 1))
      case measure => omega
      case rel => exact ⟨i + 1, by omega, by go_num, hinv2⟩
    · have hi : i = K.length := by omega
      subst hi
      go_wp2_with fail
      go_end0
      exact ⟨rfl, hinv.out⟩

theorem ForEach_nil (fv : Value) (w : World) :
    Calls Tryd.prog 87 #[.pointer none, fv] w fun e w' => e = .returned (.tuple #[]) ∧ w = w' := by
  go_enter Tryd.func87, Tryd.ntmps87
  go_wp2
  exact bodyPost_ret (results_none rfl _ _ _) rfl ⟨rfl, rfl⟩

theorem hmf : ∀ (fn : Fn) (first cap : Array Value) (w : World), (Instr.makeFunc fn first cap).run Tryd.prog w = .ok (.func fn first cap) w := fun _ _ _ _ => rfl

theorem sForEach_nil (fn : Fn) (first cap : Array Value) (w : World) :
    Calls Tryd.prog 59 #[.agg #[.pointer none], .func fn first cap] w fun e w' => e = .returned (.tuple #[]) ∧ Only (fun _ => False) w w' := by
  have hmf := hmf
  have HF := fun fv W => Lib.hid (ForEach_nil fv W)
  go_enter Tryd.func59, Tryd.ntmps59
  go_wp2_with (go_at_call 87; refine (HF _ _).out.mono ?_; rintro e w2 ⟨rfl, rfl⟩)
  go_end0
  exact ⟨rfl, ((Only.refl _ w).alloc _).alloc _⟩
end Go.Proofs.YtoegfdndoeiolaaDoor
