/- Walks and plain laws, one behind the other (Row); their conditions stand at each. -/
import Derived.Test.YtoegfdndoeiolaaDoorRows
import Derived.WalkKit
import Derived.ProofKit
import Derived.OpenShut
import Derived.SizedLaws
import Derived.WalkLawsBesides
import Derived.Test.YtoegfdndoeiolaaDoorQ4

/- Plain law: from what a law's walk says ('it returns true, and nothing that was there has turned') to what its row asks; an argument that is a slice of numbers, opened. No condition. -/
namespace Go.Proofs.YtoegfdndoeiolaaDoor
open Go.ChangeShapes Go.WideShapes Go.ChangeAt Go.WideMaps Go.WideElems Go.RowKit

section
variable {H : Type} {enc : TypeId × Value → H} {P : Program} {W W' : World}
theorem trodAll_below (hl : laidOutB P = true) (hb : Below W.heap.size W W') : ∀ (ts : List TypeId) (vs : List Value) (ds : List (DataW H)) (ps : List MemPlace),
    (∀ t ∈ ts, P.readableRec t = true ∧ t < P.types.size) → DataW.TrodAll enc P W 0 (fun _ => true) true ts vs ds ps → (∀ x ∈ ps, x.block < W.heap.size) →
    DataW.TrodAll enc P W' 0 (fun b => decide (b < W.heap.size)) true ts vs ds ps
  | [], [], [], _, _, h, _ => h
  | t :: ts, v :: vs, d :: ds, ps, hts, h, hlt => by
    obtain ⟨p, q, h0, h1, rfl⟩ := h
    exact ⟨p, q, Below.trod hl (hts t (by simp)).1 (hts t (by simp)).2 h0 hb (fun x hx => hlt x (by simp [hx])),
      trodAll_below hl hb ts vs ds q (fun t ht => hts t (by simp [ht])) h1 (fun x hx => hlt x (by simp [hx])), rfl⟩
  | [], _ :: _, _, _, _, h, _ => h.elim
  | [], [], _ :: _, _, _, h, _ => h.elim
  | _ :: _, [], _, _, _, h, _ => h.elim
  | _ :: _, _ :: _, [], _, _, h, _ => h.elim

theorem trodVars_below (hl : laidOutB P = true) (hb : Below W.heap.size W W') : ∀ (ns : List String) (ds : List (DataW H)) (ps : List MemPlace),
    (∀ n ∈ ns, ∀ g t, P.globalNamed n = some g → (P.globals[g]?).map (·.type) = some t → P.readableRec t = true ∧ t < P.types.size) → DataW.TrodVars enc P W (fun _ => true) ns ds ps → (∀ x ∈ ps, x.block < W.heap.size) →
    DataW.TrodVars enc P W' (fun b => decide (b < W.heap.size)) ns ds ps
  | [], [], _, _, h, _ => h
  | n :: ns, d :: ds, ps, hts, h, hlt => by
    obtain ⟨g, t, cs, fuel, p, q, hg, ht, hv, hd, hr, rfl⟩ := h
    obtain ⟨h1, h2⟩ := hts n (by simp) g t hg ht
    have hgl : g < W.heap.size := by
      have hv' := hv
      unfold World.var? at hv'
      rw [hg] at hv'
      simp only [Option.bind_some] at hv'
      cases hh : W.heap[g]? with
      | none => rw [hh] at hv'; cases hv'
      | some o => exact (Array.getElem?_eq_some_iff.1 hh).1
    have hd' : DataW.trod enc P W' 0 (fun b => decide (b < W.heap.size)) true fuel t cs.toList = some (d, p) :=
      DataW.trod_stays (kids_book hl h1) (book_sized h1) (fun h => by cases h) ⟨h2, book_self t⟩ hd (fun x hx => hb.same (hlt x (by simp [hx]))) (fun x hx => by simpa using hlt x (by simp [hx]))
    exact ⟨g, t, cs, fuel, p, q, hg, ht, Go.var?_below hb hg hgl hv, hd',
      trodVars_below hl hb ns ds q (fun t ht => hts t (by simp [ht])) hr (fun x hx => hlt x (by simp [hx])), rfl⟩
  | [], _ :: _, _, _, h, _ => h.elim
  | _ :: _, [], _, _, h, _ => h.elim

theorem law_post {f : Func} {s : ChangeSpec} {args : Array Value} {ds gs : List (DataW H)} {before : List MemPlace} {tb : TypeId}
    (hW : DataW.Whole enc P f.params.toList s.vars false W args.toList ds gs before) (hb : Below W.heap.size W W') (hl : laidOutB P = true)
    (hts : ∀ t ∈ f.params.toList, P.readableRec t = true ∧ t < P.types.size)
    (hvs : ∀ n ∈ s.vars, ∀ g t, P.globalNamed n = some g → (P.globals[g]?).map (·.type) = some t → P.readableRec t = true ∧ t < P.types.size)
    (hr : f.resultTypes = #[tb]) (htb : P.underlying tb = some .bool)
    (hres : (s.fn H (ds ++ gs)).results = [.lit (.bool true)]) (harg : (s.fn H (ds ++ gs)).args = ds) (hvar : (s.fn H (ds ++ gs)).vars = gs) :
    s.post enc P f false true false false W args (.bool true) W' := by
  have hlt : ∀ x ∈ before, x.block < W.heap.size := fun x hx => hW.lt x hx
  have hW' := hW
  obtain ⟨p, q, hA, hV, rfl, _, _⟩ := hW
  refine ⟨ds, gs, p ++ q, [], p, q, hW', ?_, ?_, ?_, hb.frame _, fun h => by cases h⟩
  · rw [hres, hr]
    exact trodAll_mk1 (shut_bool htb true)
  · rw [harg]
    exact trodAll_below hl hb _ _ _ _ hts hA (fun x hx => hlt x (by simp [hx]))
  · rw [hvar]
    exact trodVars_below hl hb _ _ _ hvs hV (fun x hx => hlt x (by simp [hx]))

/-- An argument that is a slice of numbers without a sign. -/
theorem open_nums {base : Nat} {t e : TypeId} {k : IntKind} {v : Value} {d : DataW H} {p : List MemPlace} (ht : P.underlying t = some (.slice e)) (he : P.underlying e = some (.int k)) (hc : P.cellsOf e = 1)
    (hk : k.min = 0) (hv : Value.okWide P W .any base t v) (h : DataW.Trod enc P W 0 (fun _ => true) true t v d p) (hlt : ∀ x ∈ p, x.block < W.heap.size) :
    ∃ A n c xs, v = .slice A n c ∧ n ≤ 9223372036854775807 ∧ Nums W W.heap.size k A n xs ∧ ∀ x ∈ xs, (x : Int) ≤ k.max := by
  obtain ⟨a0, len, cap, rfl⟩ := okWide_slice ht hv
  obtain ⟨fuel, hf⟩ := h
  rcases open_ints ht he hc hf with ⟨hcs, hx⟩ | ⟨a, len', cap', zs, hcs, _, hl, hm, hz, hx, hcell, hwz⟩
  · simp [Value.cells] at hcs
    obtain ⟨rfl, rfl, rfl⟩ := hcs
    exact ⟨none, 0, 0, [], rfl, by omega, Nums.nil _ _ _ _, by simp⟩
  · simp [Value.cells] at hcs
    obtain ⟨rfl, rfl, rfl⟩ := hcs
    simp only [Prod.mk.injEq] at hx
    obtain ⟨rfl, rfl⟩ := hx
    simp only [if_true] at hz
    have hpos : ∀ z ∈ zs, 0 ≤ z ∧ z ≤ k.max := fun z hzm => by
      have := hwz z hzm
      simp only [Lit.wf, Bool.and_eq_true, decide_eq_true_eq, hk] at this
      exact this
    refine ⟨some a, len, cap, (zs.take len).map Int.toNat, rfl, ?_, ⟨?_, fun hn => ⟨a, rfl, ?_, fun j x hx => ?_⟩⟩, fun x hx => ?_⟩
    · unfold maxLen at hm; omega
    · rw [List.length_map, List.length_take]; omega
    · have hs := hcell 0 (by omega)
      have hb := World.block_lt_of_cell? W _ hs
      rwa [block_of_add] at hb
    · rw [List.getElem?_map] at hx
      cases hz2 : (zs.take len)[j]? with
      | none => rw [hz2] at hx; cases hx
      | some z =>
        rw [hz2] at hx
        injection hx with hx
        subst hx
        have hj : j < (zs.take len).length := (List.getElem?_eq_some_iff.1 hz2).1
        rw [List.length_take] at hj
        rw [List.getElem?_take_of_lt (by omega)] at hz2
        rw [hcell j (by omega), List.getD_eq_getElem?_getD, hz2, Option.getD_some, Int.toNat_of_nonneg (hpos z (List.mem_of_getElem? hz2)).1]
    · obtain ⟨z, hzm, rfl⟩ := List.mem_map.1 hx
      have := hpos z (List.mem_of_mem_take hzm)
      rw [Int.toNat_of_nonneg this.1]
      exact this.2
end
end Go.Proofs.YtoegfdndoeiolaaDoor
