/- Walks: lists of bytes and of keys are written behind bytes. Conditions: the lists are no longer than a machine holds. -/
import Derived.Test.YtoegfdndoeiolaaDoorBytes
namespace Go.Proofs.YtoegfdndoeiolaaDoor
open Go.RowKit

section
variable {P : Program} {w : World} {ops : Array Oper} {rest : List Oper} {o : Oper} {a : Act} {Q : Exit → Act → World → Prop}
theorem nums_lits (w : World) (e : TypeId) (k : IntKind) (ys : List Nat) (cs : Array Value) (hcs : cs = (ys.map fun y : Nat => Value.int k (y : Int)).toArray) (n : Nat) (hn : ys.length = n) :
    Nums (w.alloc (.cells cs e)) (w.heap.size + 1) k (some ⟨w.heap.size, 0, none⟩) n ys := by
  refine ⟨hn, fun _ => ⟨_, rfl, by simp, fun j x hx => ?_⟩⟩
  rw [add_lit, (Blk.new w e cs).cell, hcs, Nat.zero_add, List.getElem?_toArray, List.getElem?_map, hx]
  rfl
/-- 'append(v, x, y, ..)' of some numbers: behind the block that is laid for them. -/
theorem wpList_append_lits (hgd : o.guard = none) (s x : Operand) (t : TypeId)
    (ho : o.op = .call { callee := .builtin .append, args := #[s, x], argTypes := #[t, t] })
    (e : TypeId) (i : TypeInfo) (z : Value) (bytes : Nat) (ht : P.underlying t = some (.slice e)) (hi : P.info? e = some i) (hz : i.zero = some z)
    (hsize : i.size = 1) (hby : i.bytes = bytes) (hzs : z.cells.size = 1)
    (k : IntKind) (v : Value) (xs : List Nat) (hs : a.eval s = v) (hrow : Row w e k v xs) (ys : List Nat) (n c : Nat) (hn : ys.length = n) (e' : TypeId) (cs : Array Value) (hcs : cs = (ys.map fun y : Nat => Value.int k (y : Int)).toArray)
    (hx : a.eval x = .slice (some ⟨w.heap.size, 0, none⟩) n c)
    (hb : (xs.length + n) * bytes ≤ 140737488355328) (hb1 : xs.length + n ≤ 140737488355328)
    (h : ∀ v' w', Row w' e k v' (xs ++ ys) → Only (fun g => v.ownBlock = some g) w w' → Lies w v v' → wpList P ops Q rest (a.put o.dst v') w') :
    wpList P ops Q (o :: rest) a (w.alloc (.cells cs e')) := by
  have hr : Row (w.alloc (.cells cs e')) e k v xs := hrow.only ((Only.refl (fun _ => False) w).alloc _) (fun _ _ hf => hf)
  refine wpList_append_nums (w := w.alloc (.cells cs e')) hgd s x t ho e i z bytes ht hi hz hsize hby hzs k v xs hs hr (w.heap.size + 1) _ n c ys hx (nums_lits w e' k ys cs hcs n hn) hb hb1 fun v' w' h2 h3 h4 => ?_
  refine h v' w' h2 (((Only.refl _ w).alloc _).trans h3 (fun _ hk _ => hk)) ?_
  rcases h4 with h4 | h4
  · exact .inl h4
  · exact .inr ⟨_, h4, by simp⟩
theorem wp_append_lits {K : Act → World → Prop} (s x : Operand) (t : TypeId)
    (ho : o.op = .call { callee := .builtin .append, args := #[s, x], argTypes := #[t, t] })
    (e : TypeId) (i : TypeInfo) (z : Value) (bytes : Nat) (ht : P.underlying t = some (.slice e)) (hi : P.info? e = some i) (hz : i.zero = some z)
    (hsize : i.size = 1) (hby : i.bytes = bytes) (hzs : z.cells.size = 1)
    (k : IntKind) (v : Value) (xs : List Nat) (hs : a.eval s = v) (hrow : Row w e k v xs) (ys : List Nat) (n c : Nat) (hn : ys.length = n) (e' : TypeId) (cs : Array Value) (hcs : cs = (ys.map fun y : Nat => Value.int k (y : Int)).toArray)
    (hx : a.eval x = .slice (some ⟨w.heap.size, 0, none⟩) n c)
    (hb : (xs.length + n) * bytes ≤ 140737488355328) (hb1 : xs.length + n ≤ 140737488355328)
    (h : ∀ v' w', Row w' e k v' (xs ++ ys) → Only (fun g => v.ownBlock = some g) w w' → Lies w v v' → K (a.put o.dst v') w') :
    o.wp P a (w.alloc (.cells cs e')) K Q := by
  have hr : Row (w.alloc (.cells cs e')) e k v xs := hrow.only ((Only.refl (fun _ => False) w).alloc _) (fun _ _ hf => hf)
  refine wp_append_nums (w := w.alloc (.cells cs e')) s x t ho e i z bytes ht hi hz hsize hby hzs k v xs hs hr (w.heap.size + 1) _ n c ys hx (nums_lits w e' k ys cs hcs n hn) hb hb1 fun v' w' h2 h3 h4 => ?_
  refine h v' w' h2 (((Only.refl _ w).alloc _).trans h3 (fun _ hk _ => hk)) ?_
  rcases h4 with h4 | h4
  · exact .inl h4
  · exact .inr ⟨_, h4, by simp⟩
/-- At a step of a region that draws its order. -/
theorem step_append_lits {K : Act → World → Prop} {E : Prop} (hgd : o.guard = none) (s x : Operand) (t : TypeId)
    (ho : o.op = .call { callee := .builtin .append, args := #[s, x], argTypes := #[t, t] })
    (e : TypeId) (i : TypeInfo) (z : Value) (bytes : Nat) (ht : P.underlying t = some (.slice e)) (hi : P.info? e = some i) (hz : i.zero = some z)
    (hsize : i.size = 1) (hby : i.bytes = bytes) (hzs : z.cells.size = 1)
    (k : IntKind) (v : Value) (xs : List Nat) (hs : a.eval s = v) (hrow : Row w e k v xs) (ys : List Nat) (n c : Nat) (hn : ys.length = n) (e' : TypeId) (cs : Array Value) (hcs : cs = (ys.map fun y : Nat => Value.int k (y : Int)).toArray)
    (hx : a.eval x = .slice (some ⟨w.heap.size, 0, none⟩) n c)
    (hb : (xs.length + n) * bytes ≤ 140737488355328) (hb1 : xs.length + n ≤ 140737488355328)
    (h : ∀ v' w', Row w' e k v' (xs ++ ys) → Only (fun g => v.ownBlock = some g) w w' → Lies w v v' → K (a.put o.dst v') w') :
    if Region.wanted o (yielded ops a.tmps) = true then Oper.wp P o a (w.alloc (.cells cs e')) K Q else E := by
  have hw : Region.wanted o (yielded ops a.tmps) = true := by simp [Region.wanted, hgd]
  rw [if_pos hw]
  exact wp_append_lits s x t ho e i z bytes ht hi hz hsize hby hzs k v xs hs hrow ys n c hn e' cs hcs hx hb hb1 h

/-- append looks at the second argument's type only for whether it is a number. -/
theorem run_append_type (t t2 ty e e2 : TypeId) (ht : P.underlying t = some (.slice e)) (ht2 : P.underlying t2 = some (.slice e2)) (v x : Value) :
    (Builtin.append_ #[t, t2] ty #[v, x]).run P w = (Builtin.append_ #[t, t] ty #[v, x]).run P w := by
  unfold Builtin.append_
  cases v <;> simp only [Sem.run_bind, run_underlying ht, run_underlying ht2, Result.andThen_ok, Sem.run_pure, List.getElem?_toArray, List.getElem?_cons_zero, List.getElem?_cons_succ]
theorem wpList_append_nums2 (hgd : o.guard = none) (s x : Operand) (t t2 e2 : TypeId)
    (ho : o.op = .call { callee := .builtin .append, args := #[s, x], argTypes := #[t, t2] }) (ht2 : P.underlying t2 = some (.slice e2))
    (e : TypeId) (i : TypeInfo) (z : Value) (bytes : Nat) (ht : P.underlying t = some (.slice e)) (hi : P.info? e = some i) (hz : i.zero = some z)
    (hsize : i.size = 1) (hby : i.bytes = bytes) (hzs : z.cells.size = 1)
    (k : IntKind) (v : Value) (xs : List Nat) (hs : a.eval s = v) (hrow : Row w e k v xs)
    (B : Nat) (A : Option Addr) (m c : Nat) (ys : List Nat) (hx : a.eval x = .slice A m c) (hys : Nums w B k A m ys)
    (hb : (xs.length + m) * bytes ≤ 140737488355328) (hb1 : xs.length + m ≤ 140737488355328)
    (h : ∀ v' w', Row w' e k v' (xs ++ ys) → Only (fun g => v.ownBlock = some g) w w' → (v'.ownBlock = v.ownBlock ∨ v'.ownBlock = some w.heap.size) → wpList P ops Q rest (a.put o.dst v') w') : wpList P ops Q (o :: rest) a w := by
  refine wpList_plain hgd fun _ hK => ?_
  obtain ⟨v', w', hrun, h2, h3, h4⟩ := run_append_nums (P := P) (w := w) t o.type e i z bytes ht hi hz hsize hby hzs k v xs hrow B A m c ys hys hb hb1
  rw [← run_append_type t t2 o.type e e2 ht ht2] at hrun
  unfold Oper.wp execOp
  simp only [ho, resolve, invoke, builtin, Sem.run_bind, Sem.run_pure, Result.andThen_ok, List.map_toArray, List.map_cons, List.map_nil, hs, hx, hrun]
  exact hK _ _ (h v' w' h2 h3 h4)
end

theorem be32_len (x : Nat) : (be32 x).length = 4 := rfl
theorem be32_byte (x : Nat) : ∀ b ∈ be32 x, b < 256 := by
  intro b hb
  simp only [be32, List.mem_cons, List.not_mem_nil, or_false] at hb
  rcases hb with rfl | rfl | rfl | rfl <;> omega
theorem be32_cells (x : Nat) (h : x < 4294967296) : (#[.int .u8 ((x : Int) / 16777216), .int .u8 ((x : Int) / 65536 % 256), .int .u8 ((x : Int) / 256 % 256), .int .u8 ((x : Int) % 256)] : Array Value) = ((be32 x).map fun y : Nat => Value.int .u8 (y : Int)).toArray := by
  have h1 : x / 16777216 % 256 = x / 16777216 := Nat.mod_eq_of_lt (by omega)
  simp [be32, h1]
theorem be32_cells2 (x y : Nat) : (#[.int .u8 (IntKind.u8.wrap ((x : Int) / 16777216)), .int .u8 (IntKind.u8.wrap ((x : Int) / 65536)), .int .u8 (IntKind.u8.wrap ((x : Int) / 256)), .int .u8 (IntKind.u8.wrap (x : Int)),
    .int .u8 (IntKind.u8.wrap ((y : Int) / 16777216)), .int .u8 (IntKind.u8.wrap ((y : Int) / 65536)), .int .u8 (IntKind.u8.wrap ((y : Int) / 256)), .int .u8 (IntKind.u8.wrap (y : Int))] : Array Value) = ((be32 x ++ be32 y).map fun y : Nat => Value.int .u8 (y : Int)).toArray := by
  simp [be32, IntKind.wrap_u8']

set_option maxRecDepth 100000 in
theorem bytesAppend_any (A : Option Addr) (n c B : Nat) (bs : List Nat) (v : Value) (ds : List Nat) (w : World) (hbs : Nums w B .u8 A n bs) (hB : B ≤ w.heap.size) (hn : n < 4294967296) (hv : Row w 5 .u8 v ds)
    (hne : ∀ ad, A = some ad → v.ownBlock ≠ some ad.block) (hl : ds.length < 1099511627776) :
    Calls Tryd.prog 80 #[.slice A n c, v] w fun e w' =>
      ∃ v', e = .returned (.tuple #[v', .nilIface]) ∧ Row w' 5 .u8 v' (ds ++ (be32 n ++ bs)) ∧ Only (fun k => v.ownBlock = some k) w w' ∧ Lies w v v' := by
  obtain ⟨i0, hi, hz0, hz1, hz2⟩ := info_parts info_u8
  have HV := Lib.hid hv
  have HBS := Lib.hid hbs
  have HC := Lib.hid (be32_cells n hn)
  have HN := Lib.hid hne
  clear hv hbs hne
  go_enter Tryd.func80, Tryd.ntmps80
  go_wp2_with (at_builtin; go_must (refine wpList_append_lits rfl (.tmp 9) (.tmp 21) 31 rfl 5 i0 (.int .u8 0) 1 Tryd.underlying31 hi hz0 hz1 hz2 rfl .u8 v ds rfl HV.out (be32 n) 4 4 rfl 5 _ HC.out rfl ?c4 ?c5 ?_))
  case c4 => omega
  case c5 => omega
  intro v1 w1 hrow1 hon1 hlies1
  have hn1 : Nums w1 B .u8 A n bs := HBS.out.only hB hon1 HN.out
  have hl1 : (ds ++ be32 n).length = ds.length + 4 := by rw [List.length_append, be32_len]
  go_wp2_with (at_builtin; go_must (refine wpList_append_nums2 rfl (.tmp 23) (.tmp 24) 31 88 5 rfl Tryd.underlying88 5 i0 (.int .u8 0) 1 Tryd.underlying31 hi hz0 hz1 hz2 rfl .u8 v1 _ rfl hrow1 B A n c bs rfl hn1 ?c6 ?c7 ?_))
  case c6 => omega
  case c7 => omega
  intro v2 w2 hrow2 hon2 hlies2
  go_wp2
  go_ret2
  refine ⟨v2, rfl, hrow2, hon1.trans hon2 (hstep hlies1), hlies1.trans hon1.size ?_⟩
  rcases hlies2 with h | h
  · exact .inl h
  · exact .inr ⟨_, h, Nat.le_refl _⟩

theorem lastOr_lt {ks : List Nat} (h : ∀ k ∈ ks, k < 4294967296) : lastOr 0 ks < 4294967296 := by
  by_cases hn : ks = []
  · subst hn; decide
  · exact h _ (lastOr_mem 0 ks hn)
/-- The bytes of a list of keys. -/
def listBytes (ks : List Nat) : List Nat := be32 ks.length ++ (be32 (lastOr 0 ks) ++ (be32 (encFrom 0 ks).length ++ encFrom 0 ks))

set_option maxHeartbeats 400000 in
set_option maxRecDepth 100000 in
theorem CAppendBinary_any (L : Nat) (v : Value) (ks : List Nat) (d : Value) (ds : List Nat) (w : World) (h : CList w L v ks) (hk : ks.length < 536870912) (hd : Row w 5 .u8 d ds)
    (hne : d.ownBlock ≠ some L) (hne2 : ∀ g, v.ownBlock = some g → d.ownBlock ≠ some g) (hl : ds.length < 549755813888) :
    Calls Tryd.prog 52 #[.pointer (some ⟨L, 0, none⟩), d] w fun e w' =>
      ∃ d', e = .returned (.tuple #[d', .nilIface]) ∧ Row w' 5 .u8 d' (ds ++ listBytes ks) ∧ Only (fun k => d.ownBlock = some k) w w' ∧ Lies w d d' := by
  obtain ⟨i0, hi, hz0, hz1, hz2⟩ := info_parts info_u8
  obtain ⟨hb, hr, hks⟩ := h
  have c0 : w.cell? ⟨L, 0, none⟩ = some (.int .u32 (ks.length : Nat)) := hb.cell 0
  have c1 : w.cell? ⟨L, 1, none⟩ = some (.int .u32 (lastOr 0 ks : Nat)) := hb.cell 1
  have c2 : w.cell? ⟨L, 2, none⟩ = some v := hb.cell 2
  have H : Hid (CList w L v ks) := Lib.hid ⟨hb, hr, hks⟩
  clear hb hr hks
  go_enter Tryd.func52, Tryd.ntmps52
  have hlast : lastOr 0 ks < 4294967296 := lastOr_lt H.out.2.2
  have HC := Lib.hid (be32_cells2 ks.length (lastOr 0 ks))
  have HD := Lib.hid hd
  have hLt : L < w.heap.size := H.out.1.lt
  have h8 : (be32 ks.length ++ be32 (lastOr 0 ks)).length = 8 := rfl
  go_wp2_with fail
  go_region_held3 (fun w' => w'.cell? ⟨L, 0, none⟩ = some (.int .u32 (ks.length : Nat)) ∧ w'.cell? ⟨L, 1, none⟩ = some (.int .u32 (lastOr 0 ks : Nat))) (first | go_keep | exact ⟨c0y, c1y⟩) ((refine step_append_lits (by rfl) (.tmp 6) (.tmp 53) 31 (by rfl) 5 i0 (.int .u8 0) 1 Tryd.underlying31 hi hz0 hz1 hz2 rfl .u8 d ds (by rfl) (HD.out.only ((Only.refl (fun _ => False) w).drew) (fun _ _ hf => hf)) (be32 ks.length ++ be32 (lastOr 0 ks)) 8 8 rfl 5 _ HC.out (by rfl) (by omega) (by omega) ?_; intro v1 w1 hrow1 hon1 hlies1; have c0y := (hon1.cell (p := ⟨L, 0, none⟩) hLt hne).trans c0; have c1y := (hon1.cell (p := ⟨L, 1, none⟩) hLt hne).trans c1))
  clear c0y c1y c0 c1
  replace hon1 : Only (fun g => d.ownBlock = some g) w w1 := (Only.refl _ w).drew.trans hon1 (fun k hk _ => hk)
  have hH1 : CList w1 L v ks := H.out.only hon1 hne (fun g hg he => hne2 g hg he)
  have hlies1' := hlies1
  have hs1 : w.heap.size ≤ w1.heap.size := hon1.size
  have c2y : w1.cell? ⟨L, 2, none⟩ = some v := hH1.1.cell 2
  obtain ⟨A, cp, rfl, hcp, hnums, hA, _⟩ := hH1.2.1.nums
  have hel : (encFrom 0 ks).length < 4294967296 := by have := encFrom_le 0 ks H.out.2.2; omega
  have hlen1 : (ds ++ (be32 ks.length ++ be32 (lastOr 0 ks))).length = ds.length + 8 := by rw [List.length_append, h8]
  have hfar : ∀ ad, A = some ad → v1.ownBlock ≠ some ad.block := by
    intro ad e he
    rcases hlies1 with h | ⟨g, h, hge⟩
    · exact hne2 _ (hA ad e) (h.symm.trans he)
    · rw [he] at h
      injection h with h
      have := H.out.2.1.lt _ (hA ad e)
      have hge' : w.heap.size ≤ g := hge
      omega
  have HB := Lib.hid (bytesAppend_any A (encFrom 0 ks).length cp w1.heap.size (encFrom 0 ks) v1 _ w1 hnums (Nat.le_refl _) hel hrow1 hfar (by omega))
  clear hcp hnums hA hH1 hlies1 hfar hrow1
  go_wp2_with (go_at_call 80; refine HB.out.mono ?_; rintro e w2 ⟨v2, rfl, hrow2, hon2, hlies2⟩)
  go_ret2
  refine ⟨v2, rfl, ?_, hon1.trans hon2 (hstep hlies1'), hlies1'.trans hs1 hlies2⟩
  unfold listBytes
  simpa only [List.append_assoc] using hrow2

end Go.Proofs.YtoegfdndoeiolaaDoor
