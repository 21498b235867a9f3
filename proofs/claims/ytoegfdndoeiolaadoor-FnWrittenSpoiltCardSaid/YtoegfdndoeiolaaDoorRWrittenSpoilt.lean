/- What is proved: for every number of bits, whatever the sketch begins as, every hashes and every byte the law FnWrittenSpoilt returns true: the bytes of a sketch with more behind them are refused. No condition beyond what the row lists of the variables. -/
import Derived.Test.YtoegfdndoeiolaaDoorQ8
import Derived.Test.YtoegfdndoeiolaaDoorQ28
import Derived.Test.YtoegfdndoeiolaaDoorTie
import Derived.Test.YtoegfdndoeiolaaDoorCards
namespace Go.Proofs.YtoegfdndoeiolaaDoor.fnWrittenSpoilt
open Go.ChangeShapes Go.WideShapes Go.ChangeAt Go.RowKit

theorem own : ownKnob Tryd.prog.godebug = none := by kernel_rfl
theorem laidOut : laidOutB Tryd.prog = true := by kernel_rfl
theorem cells64 : Tryd.prog.cellsOf 25 = 1 := by kernel_rfl

theorem door_met (os : Os) (args : Array Value) : laidMetH Tryd.prog Rows.fnWrittenSpoiltRow.laid ((World.doorLaid Tryd.prog 400 os).forCall (fun _ _ => 0) ⟨#[], args, []⟩).memory :=
  laidMetH_of_parts3 (fuel := 8) (laidMet_of_run' 8 (by kernel_rfl) (by kernel_rfl)) (by kernel_rfl) (by kernel_rfl)
theorem errs_of_laid {W : World} (h : laidMetH Tryd.prog Rows.fnWrittenSpoiltRow.laid W) : ErrA W := by
  rw [MakeChecks.laidMetH_plain _ _ _ (by kernel_rfl)] at h
  exact ⟨⟨err_cell h gTooShort tTooShort, err_cell h.tail.tail.tail gInvalidData tInvalidData⟩, err_cell h.tail gInvalidVersion tInvalidVersion, err_cell h.tail.tail gInvalidPrecision tInvalidPrecision⟩

set_option maxRecDepth 100000 in
theorem lifted (os : Os) (started : os.Started) (H : Type) (enc : TypeId × Value → H) :
    ReturnsInHanded {} Tryd.checked os 13 .any (fun w args => (Rows.fnWrittenSpoiltSpec.pre enc Tryd.prog Tryd.f13 [] false w args ∧ laidMetH Tryd.prog Rows.fnWrittenSpoiltRow.laid w) ∧ sizedMet enc Tryd.prog Tryd.f13 (OpenSpec.ofChange Rows.fnWrittenSpoiltSpec) false w args)
      (Rows.fnWrittenSpoiltSpec.post enc Tryd.prog Tryd.f13 false true false false) := by
  refine returnsInHanded_of_change_and (C := Tryd.checked) (X := fun w _ => laidMetH Tryd.prog Rows.fnWrittenSpoiltRow.laid w) (fun _ _ _ hh h => h.of_heap hh) own started (by kernel_rfl) Tryd.func13
    (ChangeSpec.witness_shaped (enc := enc) (C := Tryd.checked) (os := os) (X := fun w _ => laidMetH Tryd.prog Rows.fnWrittenSpoiltRow.laid w) false (World.doorLaid Tryd.prog 400 os) #[.int .u8 0, .bool false, .slice none 0 0, .int .u8 0] 8 rfl (World.shaped_of_RefB (by kernel_rfl) (by kernel_rfl)) (by kernel_rfl) (by kernel_rfl) (by kernel_rfl) (door_met os _)) ?_
  intro W base args ds gs before hval0 hW _ _ hL _
  have hval : ∀ (j : Nat) t v, Tryd.f13.params[j]? = some t → args[j]? = some v → Value.okWide Tryd.prog W .any base t v := hval0
  have hW' := hW
  have hlt : ∀ x ∈ before, x.block < W.heap.size := fun x hx => hW'.lt x hx
  obtain ⟨p, q, hA0, hV, rfl, hfz, hnd⟩ := hW
  have hA : DataW.TrodAll enc Tryd.prog W 0 (fun _ => true) true Tryd.f13.params.toList args.toList ds p := hA0
  rw [Tryd.params13] at hA hval
  obtain ⟨v0, vs0, d0, ds0, p0, q0, hargs, rfl, rfl, h0, r0⟩ := trodAll_cons hA
  obtain ⟨v1, vs1, d1, ds1, p1, q1, rfl, rfl, rfl, h1, r1⟩ := trodAll_cons r0
  obtain ⟨v2, vs2, d2, ds2, p2, q2, rfl, rfl, rfl, h2, r2⟩ := trodAll_cons r1
  obtain ⟨v3, vs3, d3, ds3, p3, q3, rfl, rfl, rfl, h3, r3⟩ := trodAll_cons r2
  obtain ⟨rfl, rfl, rfl⟩ := trodAll_nil r3
  obtain rfl : args = #[v0, v1, v2, v3] := by cases args; simp_all
  obtain ⟨x0, x1, x2, x3, rfl⟩ := trodVars_4 hV
  obtain ⟨a0, rfl, rfl, rfl, w0⟩ := open_int Tryd.underlying5 (hval 0 5 v0 rfl rfl) h0
  have bd0 := bounds_u8 w0
  obtain ⟨b0, rfl⟩ : ∃ m : Nat, a0 = m := ⟨a0.toNat, by omega⟩
  obtain ⟨c1, rfl, rfl, rfl⟩ := open_bool Tryd.underlying4 (hval 1 4 v1 rfl rfl) h1
  obtain ⟨A2, n2, cc2, xs2, rfl, hn2, hxs2, hm2⟩ := open_nums Tryd.underlying22 Tryd.underlying25 cells64 (by decide) (hval 2 22 v2 rfl rfl) h2 (fun x hx => hlt x (by simp [hx]))
  obtain ⟨a3, rfl, rfl, rfl, w3⟩ := open_int Tryd.underlying5 (hval 3 5 v3 rfl rfl) h3
  have bd3 := bounds_u8 w3
  obtain ⟨b3, rfl⟩ : ∃ m : Nat, a3 = m := ⟨a3.toNat, by omega⟩
  have hwalk : Calls Tryd.prog 13 #[.int .u8 b0, .bool c1, .slice A2 n2 cc2, .int .u8 b3] W fun e W' => e = .returned (.bool true) ∧ Below W.heap.size W W' := by
    by_cases hlong : n2 ≤ 2147483647
    · by_cases hp : 4 ≤ b0 ∧ b0 ≤ 18
      · exact lawSpoilt_any A2 n2 cc2 b0 b3 c1 xs2 W hxs2 (fun x hx => by have := hm2 x hx; have e : IntKind.u64.max = 18446744073709551615 := rfl; omega) hlong hp.1 hp.2 (by omega) (errs_of_laid hL)
      · exact lawSpoilt_bad A2 n2 cc2 b0 b3 c1 W hlong (by omega)
    · exact lawSpoilt_long A2 n2 cc2 b0 b3 c1 W (by omega)
  refine hwalk.mono fun e W' ⟨he, hb⟩ => ?_
  subst he
  exact ⟨_, rfl, law_post (tb := 4) hW' hb laidOut
    (fun t ht => by rw [Tryd.params13] at ht; simp only [List.mem_cons, List.not_mem_nil, or_false] at ht; rcases ht with rfl | rfl | rfl | rfl <;> exact ⟨by kernel_rfl, of_decide_eq_true (by kernel_rfl)⟩)
    (fun n hn => by
      simp only [Rows.fnWrittenSpoiltSpec, List.mem_cons, List.not_mem_nil, or_false] at hn
      rcases hn with rfl | rfl | rfl | rfl
      · exact readVar gInvalidPrecision tInvalidPrecision
      · exact readVar gTooShort tTooShort
      · exact readVar gInvalidVersion tInvalidVersion
      · exact readVar gInvalidData tInvalidData) rfl Tryd.underlying4 rfl rfl rfl⟩

theorem over : Rows.FnWrittenSpoiltSaid :=
  OpenClaim.holds_of_wide 13 Tryd.f13 rfl rfl rfl rfl rfl rfl rfl ⟨rfl, rfl, rfl, rfl, rfl⟩ rfl rfl rfl rfl rfl (by kernel_rfl) Tryd.func13 (by kernel_rfl)
    (of_decide_eq_true (by kernel_rfl)) (by unfold Func.isWrapper; first | (rw [if_pos (by decide +kernel)]; kernel_rfl) | (rw [if_neg (by decide +kernel)]; exact ⟨rfl, rfl⟩))
    (fun os started H enc _ => lifted os started H enc)

theorem proved : Rows.FnWrittenSpoiltCardSaid :=
  Claim7.holds_tied_plain_at .later [] [.sentinel, .sentinel, .sentinel, .sentinel] true (true, "85bba11d0984a596d850ce573b76003659da6734d9189a3fd34cef8784758217") false
    over (fun _ h => by cases h) (by kernel_rfl) (fun _ h => by cases h) fnWrittenSpoilt_row_tie rfl ⟨rfl, rfl⟩ (by kernel_rfl) rfl
    (fun f fn hf hfn => by
      obtain rfl : f = 13 := Option.some.inj ((show Tryd.prog.funcNamed "loop.example/pub-sketchedcounts/laws.FnWrittenSpoilt" = some 13 by kernel_rfl).symm.trans hf) |>.symm
      obtain rfl : fn = Tryd.f13 := (Option.some.inj (Tryd.func13.symm.trans hfn)).symm
      exact ⟨by kernel_rfl, fun j t ht => by
        rw [Tryd.params13] at ht
        have hm := Array.mem_of_getElem? ht
        simp only [List.mem_toArray, List.mem_cons, List.not_mem_nil, or_false] at hm
        rcases hm with rfl | rfl | rfl | rfl
        · exact (show Tryd.prog.wantsStandIn 5 = false by kernel_rfl)
        · exact (show Tryd.prog.wantsStandIn 4 = false by kernel_rfl)
        · exact (show Tryd.prog.wantsStandIn 22 = false by kernel_rfl)
        · exact (show Tryd.prog.wantsStandIn 5 = false by kernel_rfl)⟩)
    (by kernel_rfl)
#print axioms proved
end Go.Proofs.YtoegfdndoeiolaaDoor.fnWrittenSpoilt
