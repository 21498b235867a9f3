/- Walks and plain laws, one behind the other (Mem); their conditions stand at each. -/
import Derived.WalkKit
import Derived.Below
import Derived.Laws.OwnMore
import Derived.Deep.AppendLies
import Derived.Deep.Draws
import Derived.Laws.Rows
import Derived.Maps.AppendAt

/- Plain law: what is said of memory: that only some blocks have turned; a row of numbers that a slice owns, or that it reads. No condition. (The words 'Reads' and 'Blk' after the kit's page of words to copy.) -/
namespace Go.Proofs.YtoegfdndoeiolaaDoor
open Go.RowKit

/-- Only blocks of S, and new ones, have turned. -/
structure Only (S : Nat → Prop) (w w' : World) : Prop where
  os : w'.os = w.os
  tape : w'.tape = w.tape
  output : w'.output = w.output
  size : w.heap.size ≤ w'.heap.size
  block : ∀ k, k < w.heap.size → ¬ S k → w'.heap[k]? = w.heap[k]?
section
variable {S T : Nat → Prop} {a b c w w' : World}
theorem Only.refl (S : Nat → Prop) (w : World) : Only S w w := ⟨rfl, rfl, rfl, Nat.le_refl _, fun _ _ _ => rfl⟩
theorem Only.trans (h : Only S a b) (k : Only T b c) (hT : ∀ k, T k → k < a.heap.size → S k) : Only S a c :=
  ⟨k.os.trans h.os, k.tape.trans h.tape, k.output.trans h.output, Nat.le_trans h.size k.size, fun i hi hn =>
    (k.block i (Nat.lt_of_lt_of_le hi h.size) (fun ht => hn (hT i ht hi))).trans (h.block i hi hn)⟩
theorem Only.mono (h : Only S a b) (hST : ∀ k, S k → k < a.heap.size → T k) : Only T a b :=
  ⟨h.os, h.tape, h.output, h.size, fun i hi hn => h.block i hi (fun hs => hn (hST i hs hi))⟩
theorem Only.of_grown {row : Option Nat} (h : w.grownBy w' row) : Only (fun k => row = some k) w w' :=
  ⟨h.os, h.tape, h.output, h.size, fun i hi hn => h.block i hi (fun e => hn e.symm)⟩
theorem Only.grown {row : Option Nat} (h : Only S a w) (k : w.grownBy w' row) (hT : ∀ g, row = some g → g < a.heap.size → S g) : Only S a w' := h.trans (Only.of_grown k) hT
theorem Only.of_below {B : Nat} (h : Below B w w') : Only (fun k => B ≤ k) w w' :=
  ⟨h.os, h.tape, h.output, h.size, fun i _ hn => h.block i (by omega)⟩
theorem Only.alloc (h : Only S a w) (o : Obj) : Only S a (w.alloc o) :=
  ⟨h.os, h.tape, h.output, Nat.le_trans h.size (by simp), fun i hi hn => (Below.heap_alloc w o i (Nat.lt_of_lt_of_le hi h.size)).trans (h.block i hi hn)⟩
theorem Only.drew (h : Only S a w) : Only S a w.drew := ⟨h.os, h.tape, h.output, h.size, h.block⟩
theorem Only.drewN (h : Only S a w) (n : Nat) : Only S a (w.drewN n) := ⟨h.os, h.tape, h.output, h.size, h.block⟩
theorem Only.setCell (h : Only S a w) {p : Addr} (hp : p.block < a.heap.size → S p.block) (u : Value) : Only S a (w.setCell p u) :=
  ⟨h.os, h.tape, h.output, by simpa [World.setCell] using h.size, fun i hi hn => (Below.heap_setCell w p u i (by rintro rfl; exact hn (hp hi))).trans (h.block i hi hn)⟩
theorem Only.below {B : Nat} (h : Only S w w') (hS : ∀ k, S k → k < w.heap.size → B ≤ k) (hB : B ≤ w.heap.size) : Below B w w' :=
  ⟨h.os, h.tape, h.output, h.size, fun i hi => h.block i (by omega) (fun hs => by have := hS i hs (by omega); omega)⟩
/-- Nothing that was there has turned. -/
theorem Only.new (h : Only (fun _ => False) w w') : Below w.heap.size w w' := h.below (fun _ hf => hf.elim) (Nat.le_refl _)
theorem Only.cell (h : Only S w w') {p : Addr} (hp : p.block < w.heap.size) (hn : ¬ S p.block) : w'.cell? p = w.cell? p := World.cell?_of_block (w := w) (h.block p.block hp hn)
theorem Only.frozen (h : Only S w w') {p : Addr} (hp : p.block < w.heap.size) (hn : ¬ S p.block) : w'.frozen? p = w.frozen? p := World.frozen?_of_block (w := w) (h.block p.block hp hn)
end

theorem block_of_add (a : Addr) (n : Nat) : (a.add n).block = a.block := by unfold Addr.add; split <;> rfl
theorem add_of_add (a : Addr) (i j : Nat) : (a.add i).add j = a.add (i + j) := by
  unfold Addr.add
  by_cases hi : i = 0 <;> by_cases hj : j = 0 <;> simp [hi, hj, Nat.add_assoc]
theorem add_lit (g o j : Nat) : (⟨g, o, none⟩ : Addr).add j = ⟨g, o + j, none⟩ := by
  unfold Addr.add; split <;> simp_all

/-- The slice '.slice A n c' reads as the numbers xs, in memory below block B. -/
def Nums (w : World) (B : Nat) (k : IntKind) (A : Option Addr) (n : Nat) (xs : List Nat) : Prop :=
  xs.length = n ∧ (0 < n → ∃ ad, A = some ad ∧ ad.block < B ∧ ∀ (j x : Nat), xs[j]? = some x → w.cell? (ad.add j) = some (.int k (x : Int)))
section
variable {w w' : World} {B B' n : Nat} {A : Option Addr} {k : IntKind} {xs : List Nat} {S : Nat → Prop}
theorem Nums.at_ {i : Nat} (h : Nums w B k A n xs) (hi : i < n) : ∃ ad, A = some ad ∧ ad.block < B ∧ w.cell? (ad.add i) = some (.int k (xs.getD i 0 : Nat)) := by
  obtain ⟨ad, e, hb, hc⟩ := h.2 (by omega)
  have hl : i < xs.length := by have := h.1; omega
  refine ⟨ad, e, hb, ?_⟩
  have := hc i xs[i] (List.getElem?_eq_getElem hl)
  rw [this, List.getD_eq_getElem?_getD, List.getElem?_eq_getElem hl]; rfl
theorem Nums.keep (h : Nums w B k A n xs) (hk : ∀ p : Addr, p.block < B → (∃ ad, A = some ad ∧ p.block = ad.block) → w'.cell? p = w.cell? p) : Nums w' B k A n xs :=
  ⟨h.1, fun hn => by
    obtain ⟨ad, e, hb, hc⟩ := h.2 hn
    exact ⟨ad, e, hb, fun j u hu => (hk _ (by rw [block_of_add]; exact hb) ⟨ad, e, block_of_add _ _⟩).trans (hc j u hu)⟩⟩
theorem Nums.more (h : Nums w B k A n xs) (hB : B ≤ B') : Nums w B' k A n xs :=
  ⟨h.1, fun hn => by
    obtain ⟨ad, e, hb, hc⟩ := h.2 hn
    exact ⟨ad, e, by omega, hc⟩⟩
theorem Nums.below (h : Nums w B k A n xs) (hb : Below B w w') : Nums w' B k A n xs := h.keep fun _ hp _ => hb.cell hp
theorem Nums.only (h : Nums w B k A n xs) (hB : B ≤ w.heap.size) (ho : Only S w w') (hn : ∀ ad, A = some ad → ¬ S ad.block) : Nums w' B k A n xs :=
  h.keep fun p hp ⟨ad, e, hpe⟩ => ho.cell (by omega) (by rw [hpe]; exact hn ad e)
theorem Nums.nil (w : World) (B : Nat) (k : IntKind) (A : Option Addr) : Nums w B k A 0 [] := ⟨rfl, fun h => absurd h (by omega)⟩
end

/-- The slice value v owns a row of just these numbers (e: the elements' type). -/
def Row (w : World) (e : TypeId) (k : IntKind) (v : Value) (xs : List Nat) : Prop := w.ownsRow 0 e 1 v xs.length (xs.map fun n : Nat => Value.int k (n : Int))
section
variable {w w' : World} {e : TypeId} {k : IntKind} {v : Value} {xs : List Nat} {S : Nat → Prop}
theorem Row.nil_ (w : World) (e : TypeId) (k : IntKind) : Row w e k (.slice none 0 0) [] := World.ownsRow_nil w 0 e 1
theorem Row.lt (h : Row w e k v xs) : ∀ g, v.ownBlock = some g → g < w.heap.size := fun g hg => (World.ownsRow.lt h g hg).2
theorem Row.only (h : Row w e k v xs) (ho : Only S w w') (hn : ∀ g, v.ownBlock = some g → ¬ S g) : Row w' e k v xs := by
  refine ⟨h.1, ?_⟩
  rcases h.2 with h0 | ⟨g, cap, cur, rfl, hb, hgg, rest⟩
  · exact .inl h0
  · refine .inr ⟨g, cap, cur, rfl, hb, ?_, rest⟩
    rw [ho.block g (Array.getElem?_eq_some_iff.1 hgg).1 (hn g rfl)]
    exact hgg
theorem Row.form (h : Row w e k v xs) : (v = .slice none 0 0 ∧ xs = []) ∨ ∃ g cap, v = .slice (some ⟨g, 0, none⟩) xs.length cap ∧ xs.length ≤ cap ∧ g < w.heap.size ∧ v.ownBlock = some g := by
  rcases h.2 with ⟨rfl, h0⟩ | ⟨g, cap, cur, rfl, hb, hgg, hc, _⟩
  · exact .inl ⟨rfl, List.eq_nil_of_length_eq_zero h0⟩
  · exact .inr ⟨g, cap, rfl, hc, (Array.getElem?_eq_some_iff.1 hgg).1, rfl⟩
theorem Row.cell (h : Row w e k v xs) {g : Nat} (hg : v.ownBlock = some g) (i : Nat) (hi : i < xs.length) : w.cell? ⟨g, i, none⟩ = some (.int k (xs.getD i 0 : Nat)) := by
  have := World.ownsRow.cells h hg i (.int k (xs.getD i 0 : Nat)) (by
    rw [List.getElem?_map, List.getElem?_eq_getElem hi, List.getD_eq_getElem?_getD, List.getElem?_eq_getElem hi]; rfl)
  rwa [add_lit, Nat.zero_add] at this
theorem Row.frozen (h : Row w e k v xs) {g : Nat} (hg : v.ownBlock = some g) (i : Nat) : w.frozen? ⟨g, i, none⟩ = false := by
  rcases h.2 with ⟨rfl, _⟩ | ⟨g', cap, cur, rfl, _, hgg, _⟩
  · simp [Value.ownBlock] at hg
  · simp [Value.ownBlock] at hg
    subst hg
    simp [World.frozen?, hgg]
theorem Row.nums (h : Row w e k v xs) : ∃ A cap, v = .slice A xs.length cap ∧ xs.length ≤ cap ∧ Nums w w.heap.size k A xs.length xs ∧ (∀ ad, A = some ad → v.ownBlock = some ad.block) ∧ (A = none → cap = 0) := by
  rcases h.form with ⟨rfl, rfl⟩ | ⟨g, cap, rfl, hc, hlt, ho⟩
  · exact ⟨none, 0, rfl, Nat.le_refl _, Nums.nil _ _ _ _, (fun _ h => by cases h), (fun _ => rfl)⟩
  · refine ⟨some ⟨g, 0, none⟩, cap, rfl, hc, ⟨rfl, fun _ => ⟨_, rfl, hlt, fun j x hx => ?_⟩⟩, (fun ad h => by cases h; rfl), (fun h => by cases h)⟩
    have hj : j < xs.length := (List.getElem?_eq_some_iff.1 hx).1
    have := h.cell ho j hj
    rw [add_lit, Nat.zero_add, this, List.getD_eq_getElem?_getD, hx]; rfl
end

/-- Where a slice that was v lies now: where v lay, or in a block that is new. -/
def Lies (w : World) (v v' : Value) : Prop := v'.ownBlock = v.ownBlock ∨ ∃ g, v'.ownBlock = some g ∧ w.heap.size ≤ g
theorem Lies.refl (w : World) (v : Value) : Lies w v v := .inl rfl
theorem Lies.step {w w1 : World} {v v1 v2 : Value} (h : Lies w v v1) (hw : w.heap.size ≤ w1.heap.size) (k : v2.ownBlock = v1.ownBlock ∨ v2.ownBlock = some w1.heap.size) : Lies w v v2 := by
  rcases k with k | k
  · rcases h with h | ⟨g, h, hg⟩
    · exact .inl (k.trans h)
    · exact .inr ⟨g, k.trans h, hg⟩
  · exact .inr ⟨_, k, hw⟩
theorem Lies.trans {w w1 : World} {v v1 v2 : Value} (h : Lies w v v1) (hw : w.heap.size ≤ w1.heap.size) (k : Lies w1 v1 v2) : Lies w v v2 := by
  rcases k with k | ⟨g, k, hg⟩
  · exact h.step hw (.inl k)
  · exact .inr ⟨g, k, by omega⟩

/-- A block of cells that is known whole. -/
def Blk (w : World) (g : Nat) (t : TypeId) (cs : Array Value) : Prop := w.heap[g]? = some (.cells cs t (0, 0))
section
variable {w w' : World} {g : Nat} {t : TypeId} {cs : Array Value} {S : Nat → Prop}
theorem Blk.lt (h : Blk w g t cs) : g < w.heap.size := (Array.getElem?_eq_some_iff.1 h).1
theorem Blk.cell (h : Blk w g t cs) (i : Nat) : w.cell? ⟨g, i, none⟩ = cs[i]? := cell_of_row w g i cs t (0, 0) h
theorem Blk.frozen (h : Blk w g t cs) (i : Nat) : w.frozen? ⟨g, i, none⟩ = false := by
  unfold Blk at h
  simp [World.frozen?, h]
theorem Blk.new (w : World) (t : TypeId) (cs : Array Value) : Blk (w.alloc (.cells cs t)) w.heap.size t cs := heap_alloc_new w _
theorem Blk.drew (h : Blk w g t cs) : Blk w.drew g t cs := h
theorem Blk.drewN (h : Blk w g t cs) (n : Nat) : Blk (w.drewN n) g t cs := h
theorem Blk.alloc (h : Blk w g t cs) (o : Obj) : Blk (w.alloc o) g t cs := (Below.heap_alloc w o g h.lt).trans h
theorem Blk.set_ (h : Blk w g t cs) (i : Nat) (u : Value) : Blk (w.setCell ⟨g, i, none⟩ u) g t (cs.setIfInBounds i u) := by
  unfold Blk at h ⊢
  simp [World.setCell, Array.getElem?_modify, h]
theorem Blk.far (h : Blk w g t cs) {p : Addr} (hp : g ≠ p.block) (u : Value) : Blk (w.setCell p u) g t cs := (Below.heap_setCell w p u g hp).trans h
theorem Blk.only (h : Blk w g t cs) (ho : Only S w w') (hn : ¬ S g) : Blk w' g t cs := (ho.block g h.lt hn).trans h
theorem Blk.ne_ {g' : Nat} {t' : TypeId} {cs' : Array Value} (h : Blk w g t cs) (h' : Blk w g' t' cs') (hne : t ≠ t') : g ≠ g' := by
  rintro rfl
  unfold Blk at h h'
  rw [h] at h'
  injection h' with h'
  injection h' with _ ht
  exact hne ht
theorem Row.blk_ne {e : TypeId} {k : IntKind} {v : Value} {xs : List Nat} (h : Row w e k v xs) (hg : Blk w g t cs) (hne : e ≠ t) : v.ownBlock ≠ some g := by
  rcases h.2 with ⟨rfl, _⟩ | ⟨g', cap, cur, rfl, _, hh, _⟩
  · simp [Value.ownBlock]
  · intro he
    have : g' = g := by simpa [Value.ownBlock] using he
    subst this
    exact Blk.ne_ (t := e) hh hg hne rfl
end

/-! ### append onto a row of numbers, whatever is appended -/
section
variable {P : Program} {w : World} {ops : Array Oper} {rest : List Oper} {o : Oper} {a : Act} {Q : Exit → Act → World → Prop}
theorem nums_news {B n : Nat} {A : Option Addr} {k : IntKind} {ys : List Nat} (h : Nums w B k A n ys) :
    (A = none ∧ n = 0 ∧ ys = []) ∨ ∃ ad, A = some ad ∧ ∀ j u, (ys.map fun y : Nat => Value.int k (y : Int))[j]? = some u → w.cell? (ad.add j) = some u := by
  rcases A with _ | ad
  · have hn : n = 0 := by
      rcases Nat.eq_zero_or_pos n with h0 | h0
      · exact h0
      · obtain ⟨_, e, _⟩ := h.2 h0; cases e
    exact .inl ⟨rfl, hn, List.eq_nil_of_length_eq_zero (h.1.trans hn)⟩
  · refine .inr ⟨ad, rfl, fun j u hu => ?_⟩
    rw [List.getElem?_map] at hu
    cases hy : ys[j]? with
    | none => rw [hy] at hu; cases hu
    | some y =>
      rw [hy] at hu
      injection hu with hu
      subst hu
      have hj : j < ys.length := (List.getElem?_eq_some_iff.1 hy).1
      obtain ⟨ad', e, _, hc⟩ := h.2 (by have := h.1; omega)
      injection e with e
      subst e
      exact hc j y hy

theorem run_append_nums (t ty e : TypeId) (i : TypeInfo) (z : Value) (bytes : Nat) (ht : P.underlying t = some (.slice e)) (hi : P.info? e = some i) (hz : i.zero = some z)
    (hsize : i.size = 1) (hby : i.bytes = bytes) (hzs : z.cells.size = 1)
    (k : IntKind) (v : Value) (xs : List Nat) (hrow : Row w e k v xs)
    (B : Nat) (A : Option Addr) (m c : Nat) (ys : List Nat) (hys : Nums w B k A m ys)
    (hb : (xs.length + m) * bytes ≤ 140737488355328) (hb1 : xs.length + m ≤ 140737488355328) :
    ∃ v' w', (Builtin.append_ #[t, t] ty #[v, .slice A m c]).run P w = .ok v' w' ∧ Row w' e k v' (xs ++ ys) ∧ Only (fun g => v.ownBlock = some g) w w' ∧
      (v'.ownBlock = v.ownBlock ∨ v'.ownBlock = some w.heap.size) := by
  rcases nums_news hys with ⟨rfl, rfl, rfl⟩ | ⟨ad, rfl, hc⟩
  · refine ⟨v, w, ?_, by rw [List.append_nil]; exact hrow, Only.refl _ _, .inl rfl⟩
    rcases hrow.2 with ⟨rfl, h0⟩ | ⟨g, cap, cur, rfl, _, _, hnc, _⟩
    · simp [Builtin.append_, run_underlying ht, sizeOf, typeInfo, hi, Builtin.lenOf, Builtin.firstCells]
    · simp [Builtin.append_, run_underlying ht, sizeOf, typeInfo, hi, Builtin.lenOf, Builtin.firstCells, hnc, storeCells]
  · obtain ⟨v', w', hrun, h2, h3, _, h5⟩ := run_append_own_at (P := P) w 0 t ty e i z 1 bytes ht hi hz hsize hby hzs (by decide) v xs.length _ hrow ad m c (ys.map fun y : Nat => Value.int k (y : Int))
      (by rw [List.length_map, hys.1, Nat.mul_one]) hc (by intro u hu; obtain ⟨_, _, rfl⟩ := List.mem_map.1 hu; rfl) (by unfold maxLen; omega) hb (Nat.zero_le _)
    refine ⟨v', w', hrun, ?_, Only.of_grown h3, h5⟩
    unfold Row
    rw [List.length_append, hys.1, List.map_append]
    exact h2

theorem wp_append_nums {K : Act → World → Prop} (s x : Operand) (t : TypeId)
    (ho : o.op = .call { callee := .builtin .append, args := #[s, x], argTypes := #[t, t] })
    (e : TypeId) (i : TypeInfo) (z : Value) (bytes : Nat) (ht : P.underlying t = some (.slice e)) (hi : P.info? e = some i) (hz : i.zero = some z)
    (hsize : i.size = 1) (hby : i.bytes = bytes) (hzs : z.cells.size = 1)
    (k : IntKind) (v : Value) (xs : List Nat) (hs : a.eval s = v) (hrow : Row w e k v xs)
    (B : Nat) (A : Option Addr) (m c : Nat) (ys : List Nat) (hx : a.eval x = .slice A m c) (hys : Nums w B k A m ys)
    (hb : (xs.length + m) * bytes ≤ 140737488355328) (hb1 : xs.length + m ≤ 140737488355328)
    (h : ∀ v' w', Row w' e k v' (xs ++ ys) → Only (fun g => v.ownBlock = some g) w w' → (v'.ownBlock = v.ownBlock ∨ v'.ownBlock = some w.heap.size) → K (a.put o.dst v') w') : o.wp P a w K Q := by
  obtain ⟨v', w', hrun, h2, h3, h4⟩ := run_append_nums (P := P) (w := w) t o.type e i z bytes ht hi hz hsize hby hzs k v xs hrow B A m c ys hys hb hb1
  unfold Oper.wp execOp
  simp only [ho, resolve, invoke, builtin, Sem.run_bind, Sem.run_pure, Result.andThen_ok, List.map_toArray, List.map_cons, List.map_nil, hs, hx, hrun]
  exact h v' w' h2 h3 h4

theorem wpList_append_nums (hgd : o.guard = none) (s x : Operand) (t : TypeId)
    (ho : o.op = .call { callee := .builtin .append, args := #[s, x], argTypes := #[t, t] })
    (e : TypeId) (i : TypeInfo) (z : Value) (bytes : Nat) (ht : P.underlying t = some (.slice e)) (hi : P.info? e = some i) (hz : i.zero = some z)
    (hsize : i.size = 1) (hby : i.bytes = bytes) (hzs : z.cells.size = 1)
    (k : IntKind) (v : Value) (xs : List Nat) (hs : a.eval s = v) (hrow : Row w e k v xs)
    (B : Nat) (A : Option Addr) (m c : Nat) (ys : List Nat) (hx : a.eval x = .slice A m c) (hys : Nums w B k A m ys)
    (hb : (xs.length + m) * bytes ≤ 140737488355328) (hb1 : xs.length + m ≤ 140737488355328)
    (h : ∀ v' w', Row w' e k v' (xs ++ ys) → Only (fun g => v.ownBlock = some g) w w' → (v'.ownBlock = v.ownBlock ∨ v'.ownBlock = some w.heap.size) → wpList P ops Q rest (a.put o.dst v') w') : wpList P ops Q (o :: rest) a w :=
  wpList_plain hgd fun _ hK => wp_append_nums s x t ho e i z bytes ht hi hz hsize hby hzs k v xs hs hrow B A m c ys hx hys hb hb1 fun v' w' h2 h3 h4 => hK _ _ (h v' w' h2 h3 h4)

/-- The one number that stands in a block that was laid for it. -/
theorem nums_one (w : World) (e : TypeId) (k : IntKind) (y : Nat) : Nums (w.alloc (.cells #[.int k (y : Int)] e)) (w.heap.size + 1) k (some ⟨w.heap.size, 0, none⟩) 1 [y] := by
  refine ⟨rfl, fun _ => ⟨_, rfl, by simp, fun j x hx => ?_⟩⟩
  match j, hx with
  | 0, hx =>
    injection hx with hx
    subst hx
    rw [add_lit]
    exact (Blk.new w e #[.int k (y : Int)]).cell 0

/-- A slice literal without elements. -/
theorem row_empty (w : World) (e : TypeId) (k : IntKind) : Row (w.alloc (.cells #[] e)) e k (.slice (some ⟨w.heap.size, 0, none⟩) 0 0) [] := by
  have h := World.ownsRow_made (base := 0) (e := e) (size := 1) w #[] 0 (Nat.zero_le _) (by unfold maxLen; omega) rfl
  exact h

/-- 'append(v, x)' of one number: behind the block that is laid for it. -/
theorem wpList_append_one (hgd : o.guard = none) (s x : Operand) (t : TypeId)
    (ho : o.op = .call { callee := .builtin .append, args := #[s, x], argTypes := #[t, t] })
    (e : TypeId) (i : TypeInfo) (z : Value) (bytes : Nat) (ht : P.underlying t = some (.slice e)) (hi : P.info? e = some i) (hz : i.zero = some z)
    (hsize : i.size = 1) (hby : i.bytes = bytes) (hzs : z.cells.size = 1)
    (k : IntKind) (v : Value) (xs : List Nat) (hs : a.eval s = v) (hrow : Row w e k v xs) (y c : Nat) (e' : TypeId) (hx : a.eval x = .slice (some ⟨w.heap.size, 0, none⟩) 1 c)
    (hb : (xs.length + 1) * bytes ≤ 140737488355328) (hb1 : xs.length + 1 ≤ 140737488355328)
    (h : ∀ v' w', Row w' e k v' (xs ++ [y]) → Only (fun g => v.ownBlock = some g) w w' → Lies w v v' → wpList P ops Q rest (a.put o.dst v') w') :
    wpList P ops Q (o :: rest) a (w.alloc (.cells #[.int k (y : Int)] e')) := by
  have hr : Row (w.alloc (.cells #[.int k (y : Int)] e')) e k v xs := hrow.only ((Only.refl (fun _ => False) w).alloc _) (fun _ _ hf => hf)
  refine wpList_append_nums (w := w.alloc (.cells #[.int k (y : Int)] e')) hgd s x t ho e i z bytes ht hi hz hsize hby hzs k v xs hs hr (w.heap.size + 1) _ 1 c [y] hx (nums_one w e' k y) hb hb1 fun v' w' h2 h3 h4 => ?_
  refine h v' w' h2 (((Only.refl _ w).alloc _).trans h3 (fun _ hk _ => hk)) ?_
  rcases h4 with h4 | h4
  · exact .inl h4
  · exact .inr ⟨_, h4, by simp⟩
end
end Go.Proofs.YtoegfdndoeiolaaDoor
