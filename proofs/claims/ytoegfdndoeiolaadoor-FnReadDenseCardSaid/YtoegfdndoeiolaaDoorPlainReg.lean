/- Plain law: the greatest value of each register: it depends on the set of what came alone. No condition. -/
import Derived.Test.YtoegfdndoeiolaaDoorPlainHash
namespace Go.Proofs.YtoegfdndoeiolaaDoor

/-- The greatest value that came for register i. -/
def reg : List (Nat × Nat) → Nat → Nat
  | [], _ => 0
  | q :: P, i => if q.1 = i then max q.2 (reg P i) else reg P i
theorem reg_le {P : List (Nat × Nat)} {i b : Nat} : reg P i ≤ b ↔ ∀ q ∈ P, q.1 = i → q.2 ≤ b := by
  induction P with
  | nil => simp [reg]
  | cons q P ih =>
    unfold reg
    by_cases h : q.1 = i
    · rw [if_pos h, Nat.max_le, ih]
      constructor
      · rintro ⟨h1, h2⟩ c hc hci
        rcases List.mem_cons.1 hc with rfl | hc
        · exact h1
        · exact h2 c hc hci
      · intro h'
        exact ⟨h' q (by simp) h, fun c hc => h' c (by simp [hc])⟩
    · rw [if_neg h, ih]
      constructor
      · intro h2 c hc hci
        rcases List.mem_cons.1 hc with rfl | hc
        · exact absurd hci h
        · exact h2 c hc hci
      · intro h' c hc
        exact h' c (by simp [hc])
theorem reg_eq {P Q : List (Nat × Nat)} {i : Nat} (h : ∀ b, (∀ q ∈ P, q.1 = i → q.2 ≤ b) ↔ (∀ q ∈ Q, q.1 = i → q.2 ≤ b)) : reg P i = reg Q i :=
  Nat.le_antisymm (reg_le.2 ((h _).2 (reg_le.1 (Nat.le_refl _)))) (reg_le.2 ((h _).1 (reg_le.1 (Nat.le_refl _))))
theorem reg_congr {P Q : List (Nat × Nat)} (h : ∀ q, q ∈ P ↔ q ∈ Q) (i : Nat) : reg P i = reg Q i :=
  reg_eq fun _ => ⟨fun h1 q hq => h1 q ((h q).2 hq), fun h1 q hq => h1 q ((h q).1 hq)⟩
theorem reg_append (P Q : List (Nat × Nat)) (i : Nat) : reg (P ++ Q) i = max (reg P i) (reg Q i) := by
  induction P with
  | nil => simp [reg]
  | cons q P ih =>
    simp only [List.cons_append, reg]
    split
    · rw [ih, Nat.max_assoc]
    · exact ih

/-- The registers, in their order. -/
def table (p : Nat) (P : List (Nat × Nat)) : List Nat := (List.range (2 ^ p)).map (reg P)
theorem table_length (p : Nat) (P : List (Nat × Nat)) : (table p P).length = 2 ^ p := by simp [table]
theorem table_get (p : Nat) (P : List (Nat × Nat)) (i : Nat) (h : i < 2 ^ p) : (table p P).getD i 0 = reg P i := by
  unfold table
  rw [List.getD_eq_getElem?_getD, List.getElem?_map, List.getElem?_range h]
  rfl
theorem table_congr {p : Nat} {P Q : List (Nat × Nat)} (h : ∀ q, q ∈ P ↔ q ∈ Q) : table p P = table p Q := by
  unfold table
  exact List.map_congr_left fun i _ => reg_congr h i
theorem list_ext_getD {a b : List Nat} (hl : a.length = b.length) (h : ∀ i, i < a.length → a.getD i 0 = b.getD i 0) : a = b := by
  apply List.ext_getElem hl
  intro i h1 h2
  have := h i h1
  rwa [List.getD_eq_getElem?_getD, List.getD_eq_getElem?_getD, List.getElem?_eq_getElem h1, List.getElem?_eq_getElem h2] at this
theorem table_nil (p : Nat) : table p [] = List.replicate (2 ^ p) 0 := by
  apply list_ext_getD
  · rw [table_length, List.length_replicate]
  · intro i hi
    rw [table_length] at hi
    rw [table_get p [] i hi, List.getD_eq_getElem?_getD, List.getElem?_replicate, if_pos hi]
    rfl
theorem mem_table {p : Nat} {P : List (Nat × Nat)} {b : Nat} (h : ∀ q ∈ P, q.2 ≤ b) : ∀ v ∈ table p P, v ≤ b := by
  intro v hv
  obtain ⟨i, _, rfl⟩ := List.mem_map.1 hv
  exact reg_le.2 fun q hq _ => h q hq

/-- A register is raised to a value. -/
def up (r : List Nat) (i v : Nat) : List Nat := r.set i (max v (r.getD i 0))
theorem up_length (r : List Nat) (i v : Nat) : (up r i v).length = r.length := by simp [up]
theorem up_get (r : List Nat) (i v j : Nat) (h : j < r.length) : (up r i v).getD j 0 = if i = j then max v (r.getD j 0) else r.getD j 0 := by
  unfold up
  rw [List.getD_eq_getElem?_getD, List.getElem?_set]
  by_cases hij : i = j
  · subst hij
    rw [if_pos rfl, if_pos rfl, if_pos h]; rfl
  · rw [if_neg hij, if_neg hij, List.getD_eq_getElem?_getD]
theorem up_table {p i v : Nat} {P : List (Nat × Nat)} : up (table p P) i v = table p (P ++ [(i, v)]) := by
  apply list_ext_getD
  · rw [up_length, table_length, table_length]
  · intro j hj
    rw [up_length] at hj
    rw [up_get _ _ _ _ hj]
    rw [table_length] at hj
    rw [table_get p P j hj, table_get p _ j hj, reg_append]
    by_cases hij : i = j
    · subst hij
      simp [reg, Nat.max_comm]
    · simp [reg, hij]
theorem fold_table {p : Nat} (P Q : List (Nat × Nat)) : P.foldl (fun r q => up r q.1 q.2) (table p Q) = table p (Q ++ P) := by
  induction P generalizing Q with
  | nil => simp
  | cons q P ih =>
    rw [List.foldl_cons, up_table, ih, List.append_assoc]
    rfl
/-- Two sketches' registers, the greater of each two. -/
def pmax (r s : List Nat) : List Nat := List.zipWith max r s
theorem pmax_length {r s : List Nat} (h : r.length = s.length) : (pmax r s).length = r.length := by
  unfold pmax; rw [List.length_zipWith, ← h, Nat.min_self]
theorem pmax_get {r s : List Nat} {i : Nat} (h : i < r.length) (h2 : i < s.length) : (pmax r s).getD i 0 = max (r.getD i 0) (s.getD i 0) := by
  unfold pmax
  rw [List.getD_eq_getElem?_getD, List.getElem?_zipWith, List.getElem?_eq_getElem h, List.getElem?_eq_getElem h2, List.getD_eq_getElem?_getD, List.getD_eq_getElem?_getD, List.getElem?_eq_getElem h, List.getElem?_eq_getElem h2]
  rfl
theorem pmax_table (p : Nat) (P Q : List (Nat × Nat)) : pmax (table p P) (table p Q) = table p (P ++ Q) := by
  have hl : (table p P).length = (table p Q).length := by rw [table_length, table_length]
  apply list_ext_getD
  · rw [pmax_length hl, table_length, table_length]
  · intro i hi
    rw [pmax_length hl, table_length] at hi
    rw [pmax_get (by rw [table_length]; exact hi) (by rw [table_length]; exact hi), table_get p P i hi, table_get p Q i hi, table_get p _ i hi, reg_append]

/-- What a hash, and what a key, says of the registers. -/
def hv (p x : Nat) : Nat × Nat := (posN x p, valN x p)
def kv (p k : Nat) : Nat × Nat := (decIdx k p, decVal k p)
theorem kv_enc {p x : Nat} (hx : x < 2 ^ 64) (h1 : 4 ≤ p) (h2 : p ≤ 18) : kv p (encN x p) = hv p x := by
  have h := dec_enc x p hx h1 h2
  unfold kv hv
  rw [h.1, h.2]
end Go.Proofs.YtoegfdndoeiolaaDoor
