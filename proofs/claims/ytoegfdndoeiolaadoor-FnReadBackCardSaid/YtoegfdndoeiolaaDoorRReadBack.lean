/- What is proved: for every bytes the law FnReadBack returns true: bytes that are read as a sketch, written, are read as one with the same registers. No condition beyond what the row lists of the variables. -/
import Derived.Test.YtoegfdndoeiolaaDoorQ8
import Derived.Test.YtoegfdndoeiolaaDoorQ29
import Derived.Test.YtoegfdndoeiolaaDoorQ28
import Derived.Test.YtoegfdndoeiolaaDoorTie
import Derived.Test.YtoegfdndoeiolaaDoorCards
namespace Go.Proofs.YtoegfdndoeiolaaDoor.fnReadBack
open Go.ChangeShapes Go.WideShapes Go.ChangeAt Go.RowKit

theorem own : ownKnob Tryd.prog.godebug = none := by kernel_rfl
theorem laidOut : laidOutB Tryd.prog = true := by kernel_rfl
theorem cells8 : Tryd.prog.cellsOf 5 = 1 := by kernel_rfl

theorem door_met (os : Os) (args : Array Value) : laidMetH Tryd.prog Rows.fnReadBackRow.laid ((World.doorLaid Tryd.prog 400 os).forCall (fun _ _ => 0) ⟨#[], args, []⟩).memory :=
  laidMetH_of_parts3 (fuel := 8) (laidMet_of_run' 8 (by kernel_rfl) (by kernel_rfl)) (by kernel_rfl) (by kernel_rfl)
theorem errs_of_laid {W : World} (h : laidMetH Tryd.prog Rows.fnReadBackRow.laid W) : ErrA W := by
  rw [MakeChecks.laidMetH_plain _ _ _ (by kernel_rfl)] at h
  exact ⟨⟨err_cell h gTooShort tTooShort, err_cell h.tail.tail.tail gInvalidData tInvalidData⟩, err_cell h.tail gInvalidVersion tInvalidVersion, err_cell h.tail.tail gInvalidPrecision tInvalidPrecision⟩

set_option maxRecDepth 100000 in
theorem lifted (os : Os) (started : os.Started) (H : Type) (enc : TypeId × Value → H) :
    ReturnsInHanded {} Tryd.checked os 10 .any (fun w args => (Rows.fnReadBackSpec.pre enc Tryd.prog Tryd.f10 [] false w args ∧ laidMetH Tryd.prog Rows.fnReadBackRow.laid w) ∧ sizedMet enc Tryd.prog Tryd.f10 (OpenSpec.ofChange Rows.fnReadBackSpec) false w args)
      (Rows.fnReadBackSpec.post enc Tryd.prog Tryd.f10 false true false false) := by
  refine returnsInHanded_of_change_and (C := Tryd.checked) (X := fun w _ => laidMetH Tryd.prog Rows.fnReadBackRow.laid w) (fun _ _ _ hh h => h.of_heap hh) own started (by kernel_rfl) Tryd.func10
    (ChangeSpec.witness_shaped (enc := enc) (C := Tryd.checked) (os := os) (X := fun w _ => laidMetH Tryd.prog Rows.fnReadBackRow.laid w) false (World.doorLaid Tryd.prog 400 os) #[.slice none 0 0] 8 rfl (World.shaped_of_RefB (by kernel_rfl) (by kernel_rfl)) (by kernel_rfl) (by kernel_rfl) (by kernel_rfl) (door_met os _)) ?_
  intro W base args ds gs before hval0 hW _ _ hL _
  have hval : ∀ (j : Nat) t v, Tryd.f10.params[j]? = some t → args[j]? = some v → Value.okWide Tryd.prog W .any base t v := hval0
  have hW' := hW
  have hlt : ∀ x ∈ before, x.block < W.heap.size := fun x hx => hW'.lt x hx
  obtain ⟨p, q, hA0, hV, rfl, hfz, hnd⟩ := hW
  have hA : DataW.TrodAll enc Tryd.prog W 0 (fun _ => true) true Tryd.f10.params.toList args.toList ds p := hA0
  rw [Tryd.params10] at hA hval
  obtain ⟨v0, vs0, d0, ds0, p0, q0, hargs, rfl, rfl, h0, r0⟩ := trodAll_cons hA
  obtain ⟨rfl, rfl, rfl⟩ := trodAll_nil r0
  obtain rfl : args = #[v0] := by cases args; simp_all
  obtain ⟨x0, x1, x2, x3, rfl⟩ := trodVars_4 hV
  obtain ⟨A0, n0, cc0, xs0, rfl, hn0, hxs0, hm0⟩ := open_nums Tryd.underlying31 Tryd.underlying5 cells8 (by decide) (hval 0 31 v0 rfl rfl) h0 (fun x hx => hlt x (by simp [hx]))
  have hwalk : Calls Tryd.prog 10 #[.slice A0 n0 cc0] W fun e W' => e = .returned (.bool true) ∧ Below W.heap.size W W' := by
    by_cases hlong : n0 ≤ 2147483647
    · have hcap := open_cap Tryd.underlying31 Tryd.underlying5 cells8 h0
      exact lawReadBack_any A0 n0 cc0 xs0 W hxs0 hcap.1 hcap.2 (fun x hx => by have := hm0 x hx; have e : IntKind.u8.max = 255 := rfl; omega) hlong (errs_of_laid hL)
    · exact lawReadBack_long A0 n0 cc0 W (by omega)
  refine hwalk.mono fun e W' ⟨he, hb⟩ => ?_
  subst he
  exact ⟨_, rfl, law_post (tb := 4) hW' hb laidOut
    (fun t ht => by rw [Tryd.params10] at ht; simp only [List.mem_cons, List.not_mem_nil, or_false] at ht; subst ht <;> exact ⟨by kernel_rfl, of_decide_eq_true (by kernel_rfl)⟩)
    (fun n hn => by
      simp only [Rows.fnReadBackSpec, List.mem_cons, List.not_mem_nil, or_false] at hn
      rcases hn with rfl | rfl | rfl | rfl
      · exact readVar gTooShort tTooShort
      · exact readVar gInvalidVersion tInvalidVersion
      · exact readVar gInvalidData tInvalidData
      · exact readVar gInvalidPrecision tInvalidPrecision) rfl Tryd.underlying4 rfl rfl rfl⟩

theorem over : Rows.FnReadBackSaid :=
  OpenClaim.holds_of_wide 10 Tryd.f10 rfl rfl rfl rfl rfl rfl rfl ⟨rfl, rfl, rfl, rfl, rfl⟩ rfl rfl rfl rfl rfl (by kernel_rfl) Tryd.func10 (by kernel_rfl)
    (of_decide_eq_true (by kernel_rfl)) (by unfold Func.isWrapper; first | (rw [if_pos (by decide +kernel)]; kernel_rfl) | (rw [if_neg (by decide +kernel)]; exact ⟨rfl, rfl⟩))
    (fun os started H enc _ => lifted os started H enc)

theorem proved : Rows.FnReadBackCardSaid :=
  Claim7.holds_tied_plain_at .later [] [.sentinel, .sentinel, .sentinel, .sentinel] true (true, "85bba11d0984a596d850ce573b76003659da6734d9189a3fd34cef8784758217") false
    over (fun _ h => by cases h) (by kernel_rfl) (fun _ h => by cases h) fnReadBack_row_tie rfl ⟨rfl, rfl⟩ (by kernel_rfl) rfl
    (fun f fn hf hfn => by
      obtain rfl : f = 10 := Option.some.inj ((show Tryd.prog.funcNamed "loop.example/pub-sketchedcounts/laws.FnReadBack" = some 10 by kernel_rfl).symm.trans hf) |>.symm
      obtain rfl : fn = Tryd.f10 := (Option.some.inj (Tryd.func10.symm.trans hfn)).symm
      exact ⟨by kernel_rfl, fun j t ht => by
        rw [Tryd.params10] at ht
        have hm := Array.mem_of_getElem? ht
        simp only [List.mem_toArray, List.mem_cons, List.not_mem_nil, or_false] at hm
        subst hm
        · exact (show Tryd.prog.wantsStandIn 31 = false by kernel_rfl)⟩)
    (by kernel_rfl)
#print axioms proved
end Go.Proofs.YtoegfdndoeiolaaDoor.fnReadBack
