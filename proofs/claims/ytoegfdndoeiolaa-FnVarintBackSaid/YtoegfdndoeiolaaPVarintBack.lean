/- What is proved: for every number and every bytes the law FnVarintBack returns true: a number is read back from its bytes, whatever is behind them. No condition. -/
import Derived.Test.YtoegfdndoeiolaaRow
import Derived.Test.YtoegfdndoeiolaaLawVarBack
namespace Go.Proofs.Ytoegfdndoeiolaa.fnVarintBack
open Go.ChangeShapes Go.WideShapes Go.ChangeAt Go.RowKit

theorem own : ownKnob Try.prog.godebug = none := by kernel_rfl
theorem laidOut : laidOutB Try.prog = true := by kernel_rfl
theorem cells8 : Try.prog.cellsOf 5 = 1 := by kernel_rfl

set_option maxRecDepth 100000 in
theorem lifted (os : Os) (started : os.Started) (H : Type) (enc : TypeId × Value → H) :
    ReturnsInHanded {} Try.checked os 4 .any (Rows.fnVarintBackSpec.pre6 enc Try.prog Try.f4 Rows.fnVarintBackRow.domain false) (Rows.fnVarintBackSpec.post enc Try.prog Try.f4 false true false false) := by
  refine returnsInHanded_of_change (C := Try.checked) own started (by kernel_rfl) Try.func4
    (ChangeSpec.witness6 (enc := enc) (C := Try.checked) false ⟨#[], #[.int .u32 0, .slice none 0 0], []⟩ 8 (by kernel_rfl) (by kernel_rfl) (by kernel_rfl) (by kernel_rfl)) ?_
  intro W base args ds gs before hval0 hW hcnd _
  have hval : ∀ (j : Nat) t v, Try.f4.params[j]? = some t → args[j]? = some v → Value.okWide Try.prog W .any base t v := hval0
  have hW' := hW
  have hlt : ∀ x ∈ before, x.block < W.heap.size := fun x hx => hW'.lt x hx
  obtain ⟨p, q, hA0, hV, rfl, hfz, hnd⟩ := hW
  have hA : DataW.TrodAll enc Try.prog W 0 (fun _ => true) true Try.f4.params.toList args.toList ds p := hA0
  rw [Try.params4] at hA hval
  obtain ⟨v0, vs0, d0, ds0, p0, q0, hargs, rfl, rfl, h0, r0⟩ := trodAll_cons hA
  obtain ⟨v1, vs1, d1, ds1, p1, q1, rfl, rfl, rfl, h1, r1⟩ := trodAll_cons r0
  obtain ⟨rfl, rfl, rfl⟩ := trodAll_nil r1
  obtain rfl : args = #[v0, v1] := by cases args; simp_all
  obtain ⟨rfl, rfl⟩ := trodVars_none hV
  obtain ⟨a0, rfl, rfl, rfl, w0⟩ := open_int Try.underlying29 (hval 0 29 v0 rfl rfl) h0
  obtain ⟨A, n, c, rs, rfl, hn, hrs, h256⟩ := open_nums Try.underlying30 Try.underlying5 cells8 (by decide) (hval 1 30 v1 rfl rfl) h1 (fun x hx => hlt x (by simp [hx]))
  have b0 := bounds_u32 w0
  obtain ⟨x, rfl⟩ : ∃ m : Nat, a0 = m := ⟨a0.toNat, by omega⟩
  have hwalk : Calls Try.prog 4 #[.int .u32 x, .slice A n c] W fun e W' => e = .returned (.bool true) ∧ Below W.heap.size W W' := by
    by_cases hlong : n ≤ 2147483647
    · exact lawVarintBack_any x A n c rs W (by omega) hrs (fun b hb => by have := h256 b hb; have e : IntKind.u8.max = 255 := rfl; omega) hlong
    · exact lawVarintBack_long x A n c W (by omega)
  refine hwalk.mono fun e W' ⟨he, hb⟩ => ?_
  subst he
  exact ⟨_, rfl, law_post (tb := 4) hW' hb laidOut
    (fun t ht => by rw [Try.params4] at ht; simp only [List.mem_cons, List.not_mem_nil, or_false] at ht; rcases ht with rfl | rfl <;> exact ⟨by kernel_rfl, of_decide_eq_true (by kernel_rfl)⟩)
    (fun n hn => by cases hn) rfl Try.underlying4 rfl rfl rfl⟩

theorem over : Rows.fnVarintBackRow.holds Try.pinned (OpenSpec.ofChange Rows.fnVarintBackSpec) :=
  OpenClaim.holds_of_wide 4 Try.f4 rfl rfl rfl rfl rfl rfl rfl ⟨rfl, rfl, rfl, rfl, rfl⟩ rfl rfl rfl rfl rfl (by kernel_rfl) Try.func4 (by kernel_rfl)
    (of_decide_eq_true (by kernel_rfl)) (by unfold Func.isWrapper; first | (rw [if_pos (by decide +kernel)]; kernel_rfl) | (rw [if_neg (by decide +kernel)]; exact ⟨rfl, rfl⟩))
    (fun os started H enc _ => lifted os started H enc)

theorem proved : Rows.FnVarintBackSaid := over
#print axioms proved
end Go.Proofs.Ytoegfdndoeiolaa.fnVarintBack
