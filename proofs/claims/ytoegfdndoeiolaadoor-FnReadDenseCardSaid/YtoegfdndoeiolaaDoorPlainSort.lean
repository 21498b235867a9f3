/- Plain law: a number put into rising numbers at its place. No condition. -/
import Derived.Test.YtoegfdndoeiolaaDoorPlainVar
namespace Go.Proofs.YtoegfdndoeiolaaDoor

theorem rising_get {out : List Nat} (h : Rising out) : ∀ i j, i < j → j < out.length → out.getD i 0 < out.getD j 0 := by
  intro i j hij hj
  unfold Rising at h
  have := List.pairwise_iff_getElem.1 h i j (by omega) hj hij
  rw [List.getD_eq_getElem?_getD, List.getD_eq_getElem?_getD, List.getElem?_eq_getElem hj, List.getElem?_eq_getElem (show i < out.length by omega)]
  exact this
theorem mem_take_get {out : List Nat} {k a : Nat} (h : a ∈ out.take k) : ∃ j, j < k ∧ j < out.length ∧ out.getD j 0 = a := by
  obtain ⟨j, hj, rfl⟩ := List.getElem_of_mem h
  rw [List.length_take] at hj
  refine ⟨j, by omega, by omega, ?_⟩
  rw [List.getElem_take, List.getD_eq_getElem?_getD, List.getElem?_eq_getElem (by omega)]; rfl
theorem mem_drop_get {out : List Nat} {k a : Nat} (h : a ∈ out.drop k) : ∃ j, k ≤ j ∧ j < out.length ∧ out.getD j 0 = a := by
  obtain ⟨j, hj, rfl⟩ := List.getElem_of_mem h
  rw [List.length_drop] at hj
  refine ⟨k + j, by omega, by omega, ?_⟩
  rw [List.getElem_drop, List.getD_eq_getElem?_getD, List.getElem?_eq_getElem (by omega)]; rfl
theorem rising_insert {out : List Nat} {k x : Nat} (h : Rising out) (hlo : 0 < k → out.getD (k - 1) 0 < x) (hk : k ≤ out.length) (hhi : ∀ j, k ≤ j → j < out.length → x < out.getD j 0) : Rising (out.take k ++ x :: out.drop k) := by
  have hlo' : ∀ j, j < k → out.getD j 0 < x := by
    intro j hj
    rcases Nat.lt_or_ge j (k - 1) with hlt | hge
    · exact Nat.lt_trans (rising_get h j (k - 1) hlt (by omega)) (hlo (by omega))
    · have e : j = k - 1 := by omega
      rw [e]; exact hlo (by omega)
  have h' : List.Pairwise (· < ·) out := h
  show List.Pairwise (· < ·) _
  rw [List.pairwise_append]
  refine ⟨h'.sublist (List.take_sublist _ _), List.pairwise_cons.2 ⟨?_, h'.sublist (List.drop_sublist _ _)⟩, ?_⟩
  · intro a ha
    obtain ⟨j, h1, h2, rfl⟩ := mem_drop_get ha
    exact hhi j h1 h2
  · intro a ha b hb
    obtain ⟨j, h1, h2, rfl⟩ := mem_take_get ha
    rcases List.mem_cons.1 hb with rfl | hb
    · exact hlo' j h1
    · obtain ⟨i, h3, h4, rfl⟩ := mem_drop_get hb
      exact rising_get h j i (by omega) h4
theorem mem_insert {out : List Nat} {k x a : Nat} : a ∈ out.take k ++ x :: out.drop k ↔ a ∈ out ∨ a = x := by
  have h := List.take_append_drop k out
  constructor
  · intro ha
    rcases List.mem_append.1 ha with ha | ha
    · exact .inl (List.mem_of_mem_take ha)
    · rcases List.mem_cons.1 ha with rfl | ha
      · exact .inr rfl
      · exact .inl (List.mem_of_mem_drop ha)
  · rintro (ha | rfl)
    · rw [← h] at ha
      rcases List.mem_append.1 ha with ha | ha <;> simp [ha]
    · simp
theorem length_insert {out : List Nat} {k x : Nat} : (out.take k ++ x :: out.drop k).length = out.length + 1 := by
  have h := congrArg List.length (List.take_append_drop k out)
  rw [List.length_append] at h
  rw [List.length_append, List.length_cons]
  omega
theorem getD_mem {out : List Nat} {i : Nat} (h : i < out.length) : out.getD i 0 ∈ out := by
  rw [List.getD_eq_getElem?_getD, List.getElem?_eq_getElem h]
  exact List.getElem_mem h
end Go.Proofs.YtoegfdndoeiolaaDoor
