/- Walks: a dense sketch is written as bytes. No condition. -/
import Derived.Test.YtoegfdndoeiolaaDoorUnmDense
namespace Go.Proofs.YtoegfdndoeiolaaDoor
open Go.RowKit

section
variable {P : Program} {w w0 : World} {ops : Array Oper} {rest : List Oper} {o : Oper} {a : Act} {Q : Exit → Act → World → Prop}
/-- append of some numbers onto a row of the call's own. -/
theorem wpList_append_fresh (hgd : o.guard = none) (s x : Operand) (t : TypeId)
    (ho : o.op = .call { callee := .builtin .append, args := #[s, x], argTypes := #[t, t] })
    (e : TypeId) (i : TypeInfo) (z : Value) (bytes : Nat) (ht : P.underlying t = some (.slice e)) (hi : P.info? e = some i) (hz : i.zero = some z)
    (hsize : i.size = 1) (hby : i.bytes = bytes) (hzs : z.cells.size = 1)
    (k : IntKind) (v : Value) (xs : List Nat) (hs : a.eval s = v) (hrow : Row w e k v xs) (ys : List Nat) (n c : Nat) (hn : ys.length = n) (e' : TypeId) (cs : Array Value) (hcs : cs = (ys.map fun y : Nat => Value.int k (y : Int)).toArray)
    (hx : a.eval x = .slice (some ⟨w.heap.size, 0, none⟩) n c)
    (hb : (xs.length + n) * bytes ≤ 140737488355328) (hb1 : xs.length + n ≤ 140737488355328) (hW : Only (fun _ => False) w0 w) (hnew : ∀ g, v.ownBlock = some g → w0.heap.size ≤ g)
    (h : ∀ v' w', Row w' e k v' (xs ++ ys) → Only (fun _ => False) w0 w' → (∀ g, v'.ownBlock = some g → w0.heap.size ≤ g) → wpList P ops Q rest (a.put o.dst v') w') :
    wpList P ops Q (o :: rest) a (w.alloc (.cells cs e')) := by
  refine wpList_append_lits hgd s x t ho e i z bytes ht hi hz hsize hby hzs k v xs hs hrow ys n c hn e' cs hcs hx hb hb1 fun v' w' h2 h3 h4 => ?_
  refine h v' w' h2 (hW.trans h3 (fun g hg hlt => by have := hnew g hg; omega)) (fun g hg => ?_)
  rcases h4 with hl | ⟨g', hl, hge⟩ <;> rw [hg] at hl
  · exact hnew g hl.symm
  · injection hl with hl; have := hW.size; omega
/-- append of a slice onto a row of the call's own. -/
theorem wpList_append_freshN (hgd : o.guard = none) (s x : Operand) (t : TypeId)
    (ho : o.op = .call { callee := .builtin .append, args := #[s, x], argTypes := #[t, t] })
    (e : TypeId) (i : TypeInfo) (z : Value) (bytes : Nat) (ht : P.underlying t = some (.slice e)) (hi : P.info? e = some i) (hz : i.zero = some z)
    (hsize : i.size = 1) (hby : i.bytes = bytes) (hzs : z.cells.size = 1)
    (k : IntKind) (v : Value) (xs : List Nat) (hs : a.eval s = v) (hrow : Row w e k v xs) (B : Nat) (A : Option Addr) (n c : Nat) (ys : List Nat) (hx : a.eval x = .slice A n c) (hys : Nums w B k A n ys)
    (hb : (xs.length + n) * bytes ≤ 140737488355328) (hb1 : xs.length + n ≤ 140737488355328) (hW : Only (fun _ => False) w0 w) (hnew : ∀ g, v.ownBlock = some g → w0.heap.size ≤ g)
    (h : ∀ v' w', Row w' e k v' (xs ++ ys) → Only (fun _ => False) w0 w' → (∀ g, v'.ownBlock = some g → w0.heap.size ≤ g) → wpList P ops Q rest (a.put o.dst v') w') :
    wpList P ops Q (o :: rest) a w := by
  refine wpList_append_nums hgd s x t ho e i z bytes ht hi hz hsize hby hzs k v xs hs hrow B A n c ys hx hys hb hb1 fun v' w' h2 h3 h4 => ?_
  refine h v' w' h2 (hW.trans h3 (fun g hg hlt => by have := hnew g hg; omega)) (fun g hg => ?_)
  rcases h4 with hl | hl <;> rw [hg] at hl
  · exact hnew g hl.symm
  · injection hl with hl; have := hW.size; omega
end
theorem be32_cells3 (x : Nat) (h : x ≤ 262144) : (#[.int .u8 ((x : Int) / 16777216), .int .u8 ((x : Int) / 65536), .int .u8 ((x : Int) / 256 % 256), .int .u8 ((x : Int) % 256)] : Array Value) = ((be32 x).map fun y : Nat => Value.int .u8 (y : Int)).toArray := by
  have h1 : x / 16777216 % 256 = x / 16777216 := Nat.mod_eq_of_lt (by omega)
  have h2 : x / 65536 % 256 = x / 65536 := Nat.mod_eq_of_lt (by omega)
  simp [be32, h1, h2]
theorem one_cells (y : Nat) : (#[.int .u8 (y : Int)] : Array Value) = (([y]).map fun y : Nat => Value.int .u8 (y : Int)).toArray := rfl

set_option maxHeartbeats 1000000 in
set_option maxRecDepth 100000 in
theorem AppendDense_any (S p al : Nat) (rv : Value) (r : List Nat) (w : World) (h : Dense w S p al rv r) (h1 : 4 ≤ p) (h2 : p ≤ 18) :
    Calls Tryd.prog 74 #[.pointer (some ⟨S, 0, none⟩), .slice none 0 0] w fun e w' =>
      ∃ v', e = .returned (.tuple #[v', .nilIface]) ∧ Row w' 5 .u8 v' (denseBytes p r) ∧ (∀ g, v'.ownBlock = some g → w.heap.size ≤ g) ∧ Only (fun _ => False) w w' := by
  obtain ⟨i0, hi, hz0, hz1, hz2⟩ := info_parts info_u8
  have hpb := pow_bounds h1 h2
  have hrl := h.len
  obtain ⟨A, cc, rfl, hcc, hn, hA, hAn⟩ := h.row.nums
  have HH := Lib.hid h
  obtain ⟨c0, _, _, _, c4, c5⟩ := blk_cells h.blk
  obtain ⟨m, hm⟩ : ∃ m, m = r.length := ⟨_, rfl⟩
  rw [← hm] at hrl c5 hn
  have HN := Lib.hid hn
  have HM := Lib.hid hm
  have HRL := Lib.hid hrl
  have hm1 : m ≤ 262144 := by omega
  have hbc := be32_cells3 m hm1
  have HBC := Lib.hid hbc
  have HRN := Row.nil_ w 5 .u8
  clear h hn hm hrl hpb hbc hA hAn hcc
  go_enter Tryd.func74, Tryd.ntmps74
  have HSL : S < w.heap.size := HH.out.blk.lt
  have d4 := c4
  go_wp2_with (first
    | (go_at_call 54; refine (checkPrecision_ok p _ h1 h2).mono ?_; rintro e w' ⟨rfl, rfl⟩)
    | (go_at_call 61; refine (sparse_no S _ d4).mono ?_; rintro e w' ⟨rfl, rfl⟩)
    | (at_builtin; go_must (refine wpList_append_fresh (w0 := w) rfl (.tmp 19) (.tmp 20) 31 rfl 5 i0 (.int .u8 0) 1 Tryd.underlying31 hi hz0 hz1 hz2 rfl .u8 (.slice none 0 0) [] rfl HRN [2] 1 1 rfl 5 _ (one_cells 2) rfl ?a1 ?b1 (Only.refl _ w) (by simp [Value.ownBlock]) ?_)))
  case a1 => simp
  case b1 => simp
  intro v1 w1 hrow1 ho1 hf1
  have d0 : w1.cell? ⟨S, 0, none⟩ = some (.int .u8 (p : Int)) := (ho1.cell (p := ⟨S, 0, none⟩) HSL (fun hf => hf)).trans c0
  have d4 : w1.cell? ⟨S, 4, none⟩ = some (.pointer none) := (ho1.cell (p := ⟨S, 4, none⟩) HSL (fun hf => hf)).trans c4
  have d5 : w1.cell? ⟨S, 5, none⟩ = some (.slice A m cc) := (ho1.cell (p := ⟨S, 5, none⟩) HSL (fun hf => hf)).trans c5
  go_wp2_with (first
    | (go_at_call 54; refine (checkPrecision_ok p _ h1 h2).mono ?_; rintro e w' ⟨rfl, rfl⟩)
    | (go_at_call 61; refine (sparse_no S _ d4).mono ?_; rintro e w' ⟨rfl, rfl⟩)
    | (at_builtin; go_must (refine wpList_append_fresh (w0 := w) rfl (.tmp 22) (.tmp 27) 31 rfl 5 i0 (.int .u8 0) 1 Tryd.underlying31 hi hz0 hz1 hz2 rfl .u8 v1 _ rfl hrow1 [p] 1 1 rfl 5 _ (one_cells p) rfl ?a2 ?b2 ho1 hf1 ?_)))
  case a2 => simp
  case b2 => simp
  intro v2 w2 hrow2 ho2 hf2
  have d0 : w2.cell? ⟨S, 0, none⟩ = some (.int .u8 (p : Int)) := (ho2.cell (p := ⟨S, 0, none⟩) HSL (fun hf => hf)).trans c0
  have d4 : w2.cell? ⟨S, 4, none⟩ = some (.pointer none) := (ho2.cell (p := ⟨S, 4, none⟩) HSL (fun hf => hf)).trans c4
  have d5 : w2.cell? ⟨S, 5, none⟩ = some (.slice A m cc) := (ho2.cell (p := ⟨S, 5, none⟩) HSL (fun hf => hf)).trans c5
  go_wp2_with (first
    | (go_at_call 54; refine (checkPrecision_ok p _ h1 h2).mono ?_; rintro e w' ⟨rfl, rfl⟩)
    | (go_at_call 61; refine (sparse_no S _ d4).mono ?_; rintro e w' ⟨rfl, rfl⟩)
    | (at_builtin; go_must (refine wpList_append_fresh (w0 := w) rfl (.tmp 29) (.tmp 30) 31 rfl 5 i0 (.int .u8 0) 1 Tryd.underlying31 hi hz0 hz1 hz2 rfl .u8 v2 _ rfl hrow2 [0] 1 1 rfl 5 _ (one_cells 0) rfl ?a3 ?b3 ho2 hf2 ?_)))
  case a3 => simp
  case b3 => simp
  intro v3 w3 hrow3 ho3 hf3
  have d0 : w3.cell? ⟨S, 0, none⟩ = some (.int .u8 (p : Int)) := (ho3.cell (p := ⟨S, 0, none⟩) HSL (fun hf => hf)).trans c0
  have d4 : w3.cell? ⟨S, 4, none⟩ = some (.pointer none) := (ho3.cell (p := ⟨S, 4, none⟩) HSL (fun hf => hf)).trans c4
  have d5 : w3.cell? ⟨S, 5, none⟩ = some (.slice A m cc) := (ho3.cell (p := ⟨S, 5, none⟩) HSL (fun hf => hf)).trans c5
  go_wp2_with (first
    | (go_at_call 54; refine (checkPrecision_ok p _ h1 h2).mono ?_; rintro e w' ⟨rfl, rfl⟩)
    | (go_at_call 61; refine (sparse_no S _ d4).mono ?_; rintro e w' ⟨rfl, rfl⟩)
    | (at_builtin; go_must (refine wpList_append_fresh (w0 := w) rfl (.tmp 56) (.tmp 57) 31 rfl 5 i0 (.int .u8 0) 1 Tryd.underlying31 hi hz0 hz1 hz2 rfl .u8 v3 _ rfl hrow3 [0] 1 1 rfl 5 _ (one_cells 0) rfl ?a4 ?b4 ho3 hf3 ?_)))
  case a4 => simp
  case b4 => simp
  intro v4 w4 hrow4 ho4 hf4
  have d0 : w4.cell? ⟨S, 0, none⟩ = some (.int .u8 (p : Int)) := (ho4.cell (p := ⟨S, 0, none⟩) HSL (fun hf => hf)).trans c0
  have d4 : w4.cell? ⟨S, 4, none⟩ = some (.pointer none) := (ho4.cell (p := ⟨S, 4, none⟩) HSL (fun hf => hf)).trans c4
  have d5 : w4.cell? ⟨S, 5, none⟩ = some (.slice A m cc) := (ho4.cell (p := ⟨S, 5, none⟩) HSL (fun hf => hf)).trans c5
  go_wp2_with (first
    | (go_at_call 54; refine (checkPrecision_ok p _ h1 h2).mono ?_; rintro e w' ⟨rfl, rfl⟩)
    | (go_at_call 61; refine (sparse_no S _ d4).mono ?_; rintro e w' ⟨rfl, rfl⟩)
    | (at_builtin; go_must (refine wpList_append_fresh (w0 := w) rfl (.tmp 64) (.tmp 76) 31 rfl 5 i0 (.int .u8 0) 1 Tryd.underlying31 hi hz0 hz1 hz2 rfl .u8 v4 _ rfl hrow4 (be32 m) 4 4 rfl 5 _ HBC.out rfl ?a5 ?b5 ho4 hf4 ?_)))
  case a5 => simp
  case b5 => simp
  intro v5 w5 hrow5 ho5 hf5
  have d0 : w5.cell? ⟨S, 0, none⟩ = some (.int .u8 (p : Int)) := (ho5.cell (p := ⟨S, 0, none⟩) HSL (fun hf => hf)).trans c0
  have d4 : w5.cell? ⟨S, 4, none⟩ = some (.pointer none) := (ho5.cell (p := ⟨S, 4, none⟩) HSL (fun hf => hf)).trans c4
  have d5 : w5.cell? ⟨S, 5, none⟩ = some (.slice A m cc) := (ho5.cell (p := ⟨S, 5, none⟩) HSL (fun hf => hf)).trans c5
  go_wp2_with (at_builtin; go_must (refine wpList_append_freshN (w0 := w) rfl (.tmp 78) (.tmp 82) 31 rfl 5 i0 (.int .u8 0) 1 Tryd.underlying31 hi hz0 hz1 hz2 rfl .u8 v5 _ rfl hrow5 w.heap.size A m cc r rfl (HN.out.only (Nat.le_refl _) ho5 (fun _ _ hf => hf)) ?a6 ?b6 ho5 hf5 ?_))
  case a6 => simp [be32_len]; omega
  case b6 => simp [be32_len]; omega
  intro v6 w6 hrow6 ho6 hf6
  go_wp2
  go_ret2
  refine ⟨v6, rfl, ?_, hf6, ho6⟩
  simpa only [denseBytes, ← HRL.out, List.append_assoc, List.cons_append, List.nil_append] using hrow6

set_option maxRecDepth 100000 in
theorem MarDense_any (S p al : Nat) (rv : Value) (r : List Nat) (w : World) (h : Dense w S p al rv r) (h1 : 4 ≤ p) (h2 : p ≤ 18) :
    Calls Tryd.prog 44 #[.pointer (some ⟨S, 0, none⟩)] w fun e w' =>
      ∃ v', e = .returned (.tuple #[v', .nilIface]) ∧ Row w' 5 .u8 v' (denseBytes p r) ∧ (∀ g, v'.ownBlock = some g → w.heap.size ≤ g) ∧ Only (fun _ => False) w w' := by
  have HA := Lib.hid (AppendDense_any S p al rv r w h h1 h2)
  clear h
  go_enter Tryd.func44, Tryd.ntmps44
  go_wp2_with (go_at_call 74; refine HA.out.mono ?_; rintro e w1 ⟨v1, rfl, hrow1, hf1, ho1⟩)
  go_ret2
  exact ⟨v1, rfl, hrow1, hf1, ho1⟩
end Go.Proofs.YtoegfdndoeiolaaDoor
