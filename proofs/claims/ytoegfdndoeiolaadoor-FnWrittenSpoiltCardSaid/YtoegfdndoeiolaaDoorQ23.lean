/- Walks and plain laws, one behind the other (SrtRow); their conditions stand at each. -/
import Derived.Test.YtoegfdndoeiolaaDoorQ22
import Derived.Test.YtoegfdndoeiolaaDoorQ1
import Derived.Test.YtoegfdndoeiolaaDoorQ4

/- Walk: a row of keys is sorted by the library. Condition: the row is no longer than a machine holds. (After the kit's laws on rows sorted at int.) -/
namespace Go.Proofs.YtoegfdndoeiolaaDoor
open Go.RowKit Go.Sort

theorem holds_of_block32 {w : World} {g : Nat} {cur : Array Value} {e : TypeId} {ss : List Int} (hb : w.heap[g]? = some (.cells cur e (0, 0))) (ht : cur.toList.take ss.length = ss.map (Value.int .u32)) : Holds (Value.int .u32) w g 0 ss.toArray := by
  intro j hj
  have hj' : j < ss.length := by simpa using hj
  refine ⟨?_, by simp [World.frozen?, hb]⟩
  have h1 : (cur.toList.take ss.length)[j]? = (ss.map (Value.int .u32))[j]? := by rw [ht]
  rw [List.getElem?_take_of_lt hj'] at h1
  simp only [World.cell?, hb, Nat.zero_add]
  simp only [Option.isSome_none, Bool.false_eq_true, if_false]
  rw [← Array.getElem?_toList, h1]
  simp [hj']
theorem heap_sorted32 {w : World} {g n : Nat} {os : Array Obj} {cur : Array Value} {e : TypeId} {fr : Nat × Nat} (d : Array Int) (hb : w.heap[g]? = some (.cells cur e fr)) :
    (grow (putRow (Value.int .u32) (Sort.ahead w n) g 0 d) os).heap[g]? = some (.cells (putCells (Value.int .u32) 0 d cur) e fr) := by
  have hg : g < w.heap.size := (Array.getElem?_eq_some_iff.1 hb).1
  rw [heap_grow_old _ _ (by simpa using hg)]
  simp [putRow, mapBlock, Sort.ahead, Array.getElem?_modify, hb, onCells]
theorem grownBy_sorted32 {w : World} {g n : Nat} {os : Array Obj} (d : Array Int) : w.grownBy (grow (putRow (Value.int .u32) (Sort.ahead w n) g 0 d) os) (some g) := by
  refine ⟨rfl, rfl, rfl, by simp, fun k hk hne => ?_⟩
  rw [heap_grow_old _ _ (by simpa using hk)]
  have : g ≠ k := fun e => hne (by rw [e])
  simp [putRow, mapBlock, Sort.ahead, Array.getElem?_modify, this]
theorem take_putCells32 (cur : Array Value) (ts : List Int) (h : ts.length ≤ cur.size) : (putCells (Value.int .u32) 0 ts.toArray cur).toList.take ts.length = ts.map (Value.int .u32) := by
  apply List.ext_getElem?
  intro j
  by_cases hj : j < ts.length
  · rw [List.getElem?_take_of_lt hj, Array.getElem?_toList]
    simp [putCells, hj, show j < cur.size by omega]
  · rw [List.getElem?_take_eq_none (by omega), List.getElem?_eq_none (by simp; omega)]

theorem srt_nil : srt [] = [] := by unfold srt; simp
theorem sort32_any (v : Value) (K : List Nat) (w : World) (h : Row w 26 .u32 v K) (hl : K.length < 1099511627776) :
    Calls Tryd.prog 91 #[v] w fun e w' => e = .returned (.tuple #[]) ∧ Row w' 26 .u32 v (srt K) ∧ Only (fun b => v.ownBlock = some b) w w' := by
  rcases h.2 with ⟨rfl, h0⟩ | ⟨g, cap, cur, rfl, hb, hgg, hc, hm, hs, ht⟩
  · have hK : K = [] := List.eq_nil_of_length_eq_zero h0
    subst hK
    refine (Srt_Sort_int_nil none 0 w).mono ?_
    rintro e w' ⟨rfl, rfl⟩
    exact ⟨rfl, by rw [srt_nil]; exact Row.nil_ _ _ _, Only.refl _ _⟩
  · have ht' : cur.toList.take (K.map fun n : Nat => (n : Int)).length = (K.map fun n : Nat => (n : Int)).map (Value.int .u32) := by
      rw [List.length_map, List.map_map]
      rw [Nat.mul_one] at ht
      exact ht
    have hh := Srt_slices_Sort_int g 0 cap (K.map fun n : Nat => (n : Int)) w (holds_of_block32 hgg ht') (Array.getElem?_eq_some_iff.1 hgg).1 (by rw [List.length_map]; omega)
    rw [srt_int, List.length_map] at hh
    refine hh.mono ?_
    rintro e w' ⟨rfl, n, os, rfl⟩
    refine ⟨rfl, ?_, Only.of_grown (grownBy_sorted32 _)⟩
    refine ⟨by simp, .inr ⟨g, cap, _, by rw [srt_length], hb, heap_sorted32 _ hgg, by rw [srt_length]; exact hc, hm, by simp [putCells, hs], ?_⟩⟩
    rw [Nat.mul_one]
    have hl2 : (srt K).length = ((srt K).map fun n : Nat => (n : Int)).length := by simp
    rw [hl2, take_putCells32 cur _ (by rw [← hl2, srt_length, hs]; omega), List.map_map]
    rfl
end Go.Proofs.YtoegfdndoeiolaaDoor
