/- Walks: keys are put in order, each once. Condition: there are no more than a machine holds. -/
import Derived.Test.YtoegfdndoeiolaaDoorZUnp
import Derived.Test.YtoegfdndoeiolaaDoorPlainSort
namespace Go.Proofs.YtoegfdndoeiolaaDoor
open Go.RowKit

section
variable {P : Program} {w w0 : World} {ops : Array Oper} {o : Oper} {a : Act} {Q : Exit → Act → World → Prop}
/-- append onto a row of the call's own, at a step of a region that draws its order. -/
theorem step_append_new {K : Act → World → Prop} {E : Prop} (hgd : o.guard = none) (s x : Operand) (t : TypeId)
    (ho : o.op = .call { callee := .builtin .append, args := #[s, x], argTypes := #[t, t] })
    (e : TypeId) (i : TypeInfo) (z : Value) (bytes : Nat) (ht : P.underlying t = some (.slice e)) (hi : P.info? e = some i) (hz : i.zero = some z)
    (hsize : i.size = 1) (hby : i.bytes = bytes) (hzs : z.cells.size = 1)
    (k : IntKind) (v : Value) (xs : List Nat) (hs : a.eval s = v) (hrow : Row w e k v xs)
    (B : Nat) (A : Option Addr) (m c : Nat) (ys : List Nat) (hx : a.eval x = .slice A m c) (hys : Nums w B k A m ys)
    (hb : (xs.length + m) * bytes ≤ 140737488355328) (hb1 : xs.length + m ≤ 140737488355328)
    (hW : Only (fun _ => False) w0 w) (hnew : ∀ g, v.ownBlock = some g → w0.heap.size ≤ g)
    (h : ∀ v' w', Row w' e k v' (xs ++ ys) → Only (fun g => v.ownBlock = some g) w w' → Only (fun _ => False) w0 w' → (∀ g, v'.ownBlock = some g → w0.heap.size ≤ g) → (∀ g, w0.heap.size ≤ g → g < w.heap.size → v.ownBlock ≠ some g → v'.ownBlock ≠ some g) → K (a.put o.dst v') w') :
    if Region.wanted o (yielded ops a.tmps) = true then Oper.wp P o a w K Q else E := by
  have hw : Region.wanted o (yielded ops a.tmps) = true := by simp [Region.wanted, hgd]
  rw [if_pos hw]
  refine wp_append_nums s x t ho e i z bytes ht hi hz hsize hby hzs k v xs hs hrow B A m c ys hx hys hb hb1 fun v' w' h2 h3 h4 => ?_
  refine h v' w' h2 h3 (hW.trans h3 (fun g hg hlt => by have := hnew g hg; omega)) (fun g hg => ?_) (fun g h1 h2 hne he => ?_)
  · rcases h4 with h4 | h4 <;> rw [hg] at h4
    · exact hnew g h4.symm
    · injection h4 with h4; have := hW.size; omega
  · rcases h4 with h4 | h4 <;> rw [he] at h4
    · exact hne h4.symm
    · injection h4 with h4; omega
end

theorem own_ge {A : Addr} {len cap g B : Nat} (h : (Value.slice (some A) len cap).ownBlock = some g) (hB : B ≤ A.block) : B ≤ g := by
  have e : A.block = g := by simpa [Value.ownBlock] using h
  omega
theorem nums_of_row {e : TypeId} {k : IntKind} {og len cap m : Nat} {xs : List Nat} {w : World} (h : Row w e k (.slice (some ⟨og, 0, none⟩) len cap) xs) (_hl : len = xs.length) (hm : m ≤ xs.length) :
    Nums w w.heap.size k (some ⟨og, 0, none⟩) m (xs.take m) := by
  obtain ⟨A, c, hv, _, hn, _⟩ := h.nums
  injection hv with e1 _ _
  subst e1
  exact hn.take hm
theorem nums_drop_row {e : TypeId} {k : IntKind} {og len cap m : Nat} {xs : List Nat} {w : World} (h : Row w e k (.slice (some ⟨og, 0, none⟩) len cap) xs) (hl : len = xs.length) (hm : m ≤ xs.length) :
    Nums w w.heap.size k (some ⟨og, m, none⟩) (xs.length - m) (xs.drop m) := by
  rcases Nat.eq_zero_or_pos m with rfl | h0
  · have := nums_of_row h hl (Nat.le_refl _)
    rw [List.take_length] at this
    exact this
  · have := (nums_of_row h hl (Nat.le_refl _)).drop h0
    rw [List.take_length, Nat.zero_add] at this
    exact this

set_option maxHeartbeats 2000000 in
set_option maxRecDepth 100000 in
theorem Sorted_any (A : Option Addr) (n c : Nat) (xs : List Nat) (w : World) (hxs : Nums w w.heap.size .u32 A n xs) (hx32 : ∀ x ∈ xs, x < 4294967296) (hn : n < 1099511627776) :
    Calls Tryd.prog 16 #[.slice A n c] w fun e w' =>
      ∃ v' ks, e = .returned v' ∧ Row w' 26 .u32 v' ks ∧ Only (fun _ => False) w w' ∧ Rising ks ∧ (∀ k ∈ ks, k ∈ xs) ∧ ks.length ≤ n := by
  obtain ⟨i0, hi, hz0, hz1, hz2⟩ := info_parts info_u32
  have hxl := hxs.1
  have HX := Lib.hid hxs
  have H32 := Lib.hid hx32
  clear hxs hx32
  go_enter Tryd.func16, Tryd.ntmps16
  go_wp2_with fail
  go_loopg [3, 10] n (fun g s3 s10 wr => ∃ t out og cap, g + t = n ∧ s10 = .int .i64 (t : Nat) ∧ s3 = .slice (some ⟨og, 0, none⟩) out.length cap ∧ out.length ≤ cap ∧ cap ≤ 9223372036854775807 ∧ w.heap.size ≤ og ∧ Row wr 26 .u32 s3 out ∧ Only (fun _ => False) w wr ∧ Hid (Rising out ∧ (∀ k ∈ out, k ∈ xs)) ∧ out.length ≤ t)
  case atStart => exact ⟨0, [], w.heap.size, 0, by omega, rfl, rfl, by simp, by omega, Nat.le_refl _, row_empty w _ _, (Only.refl _ w).alloc _, ⟨List.Pairwise.nil, fun k hk => (by cases hk)⟩, by simp⟩
  case round =>
    obtain ⟨t, out, og, cap, hg, rfl, rfl, hcap, hcm, hog, hrow, hwr, hI, hot⟩ := hrel
    by_cases hlt : t < n
    · obtain ⟨x, hxd⟩ : ∃ x, xs.getD t 0 = x := ⟨_, rfl⟩
      obtain ⟨ad, rfl, hadb, hcell⟩ := (HX.out.only (Nat.le_refl _) hwr (fun _ _ hf => hf)).at_ hlt
      rw [hxd] at hcell
      have hxm : x ∈ xs := by rw [← hxd]; exact getD_mem (by omega)
      have hx32 : x < 4294967296 := H32.out x hxm
      have HXM := Lib.hid hxm
      have HROW := Lib.hid hrow
      clear hxm hxd hrow
      go_wp2_with fail
      go_loopg [6] out.length (fun g s6 wq => wq = wr ∧ g ≤ out.length ∧ s6 = .int .i64 (g : Nat) ∧ Hid (∀ j, g ≤ j → j < out.length → x < out.getD j 0))
      case atStart => exact ⟨rfl, Nat.le_refl _, rfl, fun j h1 h2 => by omega⟩
      case round =>
        obtain ⟨rfl, hgl, rfl, hhi⟩ := hrel
        have hdone : Hid ((0 < gk → out.getD (gk - 1) 0 < x) → Rising (out.take gk ++ x :: out.drop gk) ∧ ∀ k ∈ out.take gk ++ x :: out.drop gk, k ∈ xs) := fun hlo =>
          ⟨rising_insert hI.out.1 hlo hgl hhi.out, fun k hk => by
            rcases mem_insert.1 hk with h | rfl
            · exact hI.out.2 k h
            · exact HXM.out⟩
        have hlen' : Hid ((out.take gk ++ x :: out.drop gk).length = out.length + 1) := length_insert
        have hrowb : ∀ i, i < out.length → wr.cell? ⟨og, i, none⟩ = some (.int .u32 (out.getD i 0 : Nat)) := fun i hi => HROW.out.cell rfl i hi
        by_cases hz : gk = 0
        · have hA : decide ((0 : Int) < (gk : Int)) = false := decide_eq_false (by omega)
          have hA2 : (gk : Int) ≤ 0 := by omega
          have HD := Lib.hid (hdone.out (by omega))
          clear hz hdone hrowb
          go_upto_region 9 with fail
          clear hA2
          rename_i hjunk
          clear hjunk
          have hgl' : (gk : Int) ≤ (out.length : Int) := by omega
          have hgl2 : (out.length : Int) ≤ (cap : Int) := by omega
          have hgl3 : (gk : Int) ≤ (cap : Int) := by omega
          have hgl4 : (0 : Int) ≤ (gk : Int) := by omega
          have E1 : Hid (∀ W, Only (fun _ => False) wr W → Nums W wr.heap.size .u32 (some ⟨og, 0, none⟩) gk (out.take gk)) := fun W hW =>
            (nums_of_row HROW.out rfl hgl).only (Nat.le_refl _) hW (fun _ _ hf => hf)
          have E2 : Hid (∀ W, Only (fun _ => False) wr W → Nums W wr.heap.size .u32 (some ⟨og, gk, none⟩) (out.length - gk) (out.drop gk)) := fun W hW =>
            (nums_drop_row HROW.out rfl hgl).only (Nat.le_refl _) hW (fun _ _ hf => hf)
          have E3 : Hid (gk = cap → ∀ W, Nums W wr.heap.size .u32 (some ⟨og, 0, none⟩) (out.length - gk) (out.drop gk)) := fun he W => by
            rw [List.drop_eq_nil_of_le (by omega), show out.length - gk = 0 from by omega]
            exact Nums.nil _ _ _ _
          have Oa : Hid (Only (fun _ => False) wr (wr.alloc (.cells #[] 26)).drew) := ((Only.refl _ wr).alloc _).drew
          have Ob : Hid (Only (fun _ => False) wr ((wr.alloc (.cells #[] 26)).alloc (.cells #[.int .u32 x] 26)).drew) := (((Only.refl _ wr).alloc _).alloc _).drew
          have Oc : Hid (Only (fun _ => False) wr ((wr.alloc (.cells #[.int .u32 x] 26)).alloc (.cells #[] 26)).drew) := (((Only.refl _ wr).alloc _).alloc _).drew
          have Ra : Hid (Row (wr.alloc (.cells #[] 26)).drew 26 .u32 (.slice (some ⟨wr.heap.size, 0, none⟩) 0 0) []) := (row_empty wr _ .u32).only ((Only.refl (fun _ => False) _).drew) (fun _ _ hf => hf)
          have Rb : Hid (Row ((wr.alloc (.cells #[] 26)).alloc (.cells #[.int .u32 x] 26)).drew 26 .u32 (.slice (some ⟨wr.heap.size, 0, none⟩) 0 0) []) := (row_empty wr _ .u32).only (((Only.refl (fun _ => False) _).alloc _).drew) (fun _ _ hf => hf)
          have Rc : Hid (Row ((wr.alloc (.cells #[.int .u32 x] 26)).alloc (.cells #[] 26)).drew 26 .u32 (.slice (some ⟨wr.heap.size + 1, 0, none⟩) 0 0) []) := by
            have h := (row_empty (wr.alloc (.cells #[.int .u32 x] 26)) 26 .u32).only ((Only.refl (fun _ => False) _).drew) (fun _ _ hf => hf)
            rw [show (wr.alloc (.cells #[.int .u32 x] 26)).heap.size = wr.heap.size + 1 from by simp] at h
            exact h
          have Nb : Hid (Nums ((wr.alloc (.cells #[] 26)).alloc (.cells #[.int .u32 x] 26)).drew (wr.heap.size + 2) .u32 (some ⟨wr.heap.size + 1, 0, none⟩) 1 [x]) := by
            have h := nums_one (wr.alloc (.cells #[] 26)) 26 .u32 x
            rw [show (wr.alloc (.cells #[] 26)).heap.size = wr.heap.size + 1 from by simp] at h
            exact h
          have Nc : Hid (Nums ((wr.alloc (.cells #[.int .u32 x] 26)).alloc (.cells #[] 26)).drew (wr.heap.size + 1) .u32 (some ⟨wr.heap.size, 0, none⟩) 1 [x]) :=
            (nums_one wr 26 .u32 x).only (by simp) (((Only.refl (fun _ => False) _).alloc _).drew) (fun _ _ hf => hf)
          have htl : (out.take gk).length = gk := by rw [List.length_take]; omega
          have hol : out.length < 1099511627776 := by omega
          have fin : Hid (∀ v W, Row W 26 .u32 v ((([] ++ out.take gk) ++ [x]) ++ out.drop gk) → (∀ g, v.ownBlock = some g → wr.heap.size ≤ g) → Only (fun _ => False) wr W → ∃ out' og' cap', v = .slice (some ⟨og', 0, none⟩) out'.length cap' ∧ out'.length ≤ cap' ∧ cap' ≤ 9223372036854775807 ∧ w.heap.size ≤ og' ∧ Hid (Row W 26 .u32 (.slice (some ⟨og', 0, none⟩) out'.length cap') out') ∧ Only (fun _ => False) w W ∧ Hid (Rising out' ∧ (∀ k ∈ out', k ∈ xs)) ∧ out'.length = out.length + 1) := fun v W hrow hnew hW => by
            have e : (([] ++ out.take gk) ++ [x]) ++ out.drop gk = out.take gk ++ x :: out.drop gk := by simp
            rw [e] at hrow
            rcases hrow.form with ⟨_, h0⟩ | ⟨g, cp, hv, hc, hlt', hob⟩
            · have := congrArg List.length h0
              rw [hlen'.out] at this
              simp at this
            · refine ⟨_, g, cp, hv, hc, ?_, ?_, by rw [← hv]; exact hrow, hwr.trans hW (fun _ hf _ => hf), HD.out, hlen'.out⟩
              · rcases hrow.2 with ⟨h1, _⟩ | ⟨g1, cap1, cur, h1, _, _, _, hm, _⟩ <;> rw [hv] at h1
                · cases h1
                · injection h1 with _ _ h1; unfold maxLen at hm; omega
              · have := hnew g hob; have := hwr.size; omega
          by_cases hkc : gk = cap
          · have E3' := Lib.hid (E3.out hkc)
            have E3z : Hid (∀ W, Nums W wr.heap.size .u32 (some ⟨og, 0, none⟩) 0 (out.drop gk)) := fun W => by
              rw [List.drop_eq_nil_of_le (by omega)]
              exact Nums.nil _ _ _ _
            subst hkc
            clear E2 E3 HD hlen' hA hhi HX hcell hadb
            go_region_held3 (fun w' => True) (exact trivial) (first
              | (refine step_append_new (w0 := wr) (by rfl) (.tmp 40) (.tmp 43) 24 (by rfl) 26 i0 (.int .u32 0) 4 Tryd.underlying24 hi hz0 hz1 hz2 rfl .u32 _ [] (by rfl) (by first | exact Ra.out | exact Rb.out | exact Rc.out) wr.heap.size (some ⟨og, 0, none⟩) gk _ (out.take gk) (by rfl) (by first | exact E1.out _ Oa.out | exact E1.out _ Ob.out | exact E1.out _ Oc.out) (by simp; omega) (by simp; omega) (by first | exact Oa.out | exact Ob.out | exact Oc.out) (fun g hg => own_ge hg (by simp)) ?_; intro v1 w1 hrow1 hon1 hw1 hnew1 hkeep1)
              | (refine step_append_new (w0 := wr) (by rfl) (.tmp 44) (.tmp 46) 24 (by rfl) 26 i0 (.int .u32 0) 4 Tryd.underlying24 hi hz0 hz1 hz2 rfl .u32 v1 ([] ++ out.take gk) (by rfl) (by first | exact hrow1 | exact hrow1.only ((Only.refl (fun _ => False) _).alloc _) (fun _ _ hf => hf)) _ _ 1 1 [x] (by rfl) (by first | exact nums_one w1 26 .u32 x | exact Nb.out.only (by simp) hon1 (by rintro ad ⟨⟩; simp [Value.ownBlock]) | exact Nc.out.only (by simp) hon1 (by rintro ad ⟨⟩; simp [Value.ownBlock])) (by simp; omega) (by simp; omega) (by first | exact hw1 | exact hw1.alloc _) hnew1 ?_; intro v2 w2 hrow2 hon2 hw2 hnew2 hkeep2)
              | (refine step_append_new (w0 := wr) (by rfl) (.tmp 47) (.tmp 50) 24 (by rfl) 26 i0 (.int .u32 0) 4 Tryd.underlying24 hi hz0 hz1 hz2 rfl .u32 v2 (([] ++ out.take gk) ++ [x]) (by rfl) hrow2 wr.heap.size (some ⟨og, 0, none⟩) _ _ (out.drop gk) (by rfl) (E3'.out w2) (by simp; omega) (by simp; omega) hw2 hnew2 ?_; intro v3 w3 hrow3 hon3 hw3 hnew3 hkeep3)
              | (refine step_append_new (w0 := wr) (by rfl) (.tmp 47) (.tmp 50) 24 (by rfl) 26 i0 (.int .u32 0) 4 Tryd.underlying24 hi hz0 hz1 hz2 rfl .u32 v2 (([] ++ out.take gk) ++ [x]) (by rfl) hrow2 wr.heap.size (some ⟨og, 0, none⟩) _ _ (out.drop gk) (by rfl) (E3z.out w2) (by simp; omega) (by simp; omega) hw2 hnew2 ?_; intro v3 w3 hrow3 hon3 hw3 hnew3 hkeep3)
              | fail)
            all_goals
              go_wp2_with fail
              go_roundg (n - (t + 1))
              case measure => omega
              case rel =>
                obtain ⟨out', og', cap', rfl, k1, k2, k3, k4, k5, k6, k7⟩ := fin.out v3 w3 hrow3 hnew3 hw3
                exact ⟨t + 1, out', og', cap', by omega, by go_num, rfl, k1, k2, k3, k4.out, k5, k6, by omega⟩
          · have hgc : (gk : Int) < (cap : Int) := by omega
            have hne2 : ¬ cap = gk := by omega
            clear hkc E3 HD hlen' hA hhi HX hcell hadb
            go_region_held3 (fun w' => True) (exact trivial) (first
              | (refine step_append_new (w0 := wr) (by rfl) (.tmp 40) (.tmp 43) 24 (by rfl) 26 i0 (.int .u32 0) 4 Tryd.underlying24 hi hz0 hz1 hz2 rfl .u32 _ [] (by rfl) (by first | exact Ra.out | exact Rb.out | exact Rc.out) wr.heap.size (some ⟨og, 0, none⟩) gk _ (out.take gk) (by rfl) (by first | exact E1.out _ Oa.out | exact E1.out _ Ob.out | exact E1.out _ Oc.out) (by simp; omega) (by simp; omega) (by first | exact Oa.out | exact Ob.out | exact Oc.out) (fun g hg => own_ge hg (by simp)) ?_; intro v1 w1 hrow1 hon1 hw1 hnew1 hkeep1)
              | (refine step_append_new (w0 := wr) (by rfl) (.tmp 44) (.tmp 46) 24 (by rfl) 26 i0 (.int .u32 0) 4 Tryd.underlying24 hi hz0 hz1 hz2 rfl .u32 v1 ([] ++ out.take gk) (by rfl) (by first | exact hrow1 | exact hrow1.only ((Only.refl (fun _ => False) _).alloc _) (fun _ _ hf => hf)) _ _ 1 1 [x] (by rfl) (by first | exact nums_one w1 26 .u32 x | exact Nb.out.only (by simp) hon1 (by rintro ad ⟨⟩; simp [Value.ownBlock]) | exact Nc.out.only (by simp) hon1 (by rintro ad ⟨⟩; simp [Value.ownBlock])) (by simp; omega) (by simp; omega) (by first | exact hw1 | exact hw1.alloc _) hnew1 ?_; intro v2 w2 hrow2 hon2 hw2 hnew2 hkeep2)
              | (refine step_append_new (w0 := wr) (by rfl) (.tmp 47) (.tmp 50) 24 (by rfl) 26 i0 (.int .u32 0) 4 Tryd.underlying24 hi hz0 hz1 hz2 rfl .u32 v2 (([] ++ out.take gk) ++ [x]) (by rfl) hrow2 wr.heap.size (some ⟨og, gk, none⟩) _ _ (out.drop gk) (by rfl) (E2.out w2 hw2) (by simp; omega) (by simp; omega) hw2 hnew2 ?_; intro v3 w3 hrow3 hon3 hw3 hnew3 hkeep3)
              | fail)
            all_goals
              go_wp2_with fail
              go_roundg (n - (t + 1))
              case measure => omega
              case rel =>
                obtain ⟨out', og', cap', rfl, k1, k2, k3, k4, k5, k6, k7⟩ := fin.out v3 w3 hrow3 hnew3 hw3
                exact ⟨t + 1, out', og', cap', by omega, by go_num, rfl, k1, k2, k3, k4.out, k5, k6, by omega⟩
        · obtain ⟨j, hj⟩ : ∃ j, gk = j + 1 := ⟨gk - 1, by omega⟩
          have hA : (0 : Int) < (gk : Int) := by omega
          have hA3 : decide ((0 : Int) < (gk : Int)) = true := decide_eq_true hA
          have hsub : (gk : Int) - 1 = (j : Int) := by omega
          have hjl : j < out.length := by omega
          have hjl2 : (j : Int) < ((out.length : Nat) : Int) := by omega
          have hcj := hrowb j hjl
          obtain ⟨y, hy⟩ : ∃ y, out.getD j 0 = y := ⟨_, rfl⟩
          rw [hy] at hcj
          have HY := Lib.hid hy
          have HJ := Lib.hid hj
          by_cases hxy : x < y
          · clear hz hdone hrowb hj hy
            go_wp2_with fail
            go_roundg j
            case measure => have := HJ.out; omega
            case rel =>
              refine ⟨rfl, by omega, rfl, fun i h1 h2 => ?_⟩
              rcases Nat.eq_or_lt_of_le h1 with h | h
              · rw [← h, HY.out]; exact hxy
              · exact hhi.out i (by have := HJ.out; omega) h2
          · by_cases hyx : y = x
            · have hyb : ((y : Int) == (x : Int)) = true := by rw [beq_iff_eq]; omega
              have hxy2 : ¬ (x : Int) < (y : Int) := by omega
              clear hz hdone hrowb hj hy hyx
              go_wp2_with fail
              go_roundg (n - (t + 1))
              case measure => omega
              case rel => exact ⟨t + 1, out, og, cap, by omega, by go_num, rfl, hcap, hcm, hog, HROW.out, hwr, hI, by omega⟩
            · have HD := Lib.hid (hdone.out (by intro _; rw [show gk - 1 = j from by omega, hy]; omega))
              clear hz hdone hrowb hj hy
              go_upto_region 9 with fail
              clear hjl hjl2 hcj hsub hA3 hxy hyx
              rename_i hj1 hj2
              clear hj1 hj2
              have hgl' : (gk : Int) ≤ (out.length : Int) := by omega
              have hgl2 : (out.length : Int) ≤ (cap : Int) := by omega
              have hgl3 : (gk : Int) ≤ (cap : Int) := by omega
              have hgl4 : (0 : Int) ≤ (gk : Int) := by omega
              have E1 : Hid (∀ W, Only (fun _ => False) wr W → Nums W wr.heap.size .u32 (some ⟨og, 0, none⟩) gk (out.take gk)) := fun W hW =>
                (nums_of_row HROW.out rfl hgl).only (Nat.le_refl _) hW (fun _ _ hf => hf)
              have E2 : Hid (∀ W, Only (fun _ => False) wr W → Nums W wr.heap.size .u32 (some ⟨og, gk, none⟩) (out.length - gk) (out.drop gk)) := fun W hW =>
                (nums_drop_row HROW.out rfl hgl).only (Nat.le_refl _) hW (fun _ _ hf => hf)
              have E3 : Hid (gk = cap → ∀ W, Nums W wr.heap.size .u32 (some ⟨og, 0, none⟩) (out.length - gk) (out.drop gk)) := fun he W => by
                rw [List.drop_eq_nil_of_le (by omega), show out.length - gk = 0 from by omega]
                exact Nums.nil _ _ _ _
              have Oa : Hid (Only (fun _ => False) wr (wr.alloc (.cells #[] 26)).drew) := ((Only.refl _ wr).alloc _).drew
              have Ob : Hid (Only (fun _ => False) wr ((wr.alloc (.cells #[] 26)).alloc (.cells #[.int .u32 x] 26)).drew) := (((Only.refl _ wr).alloc _).alloc _).drew
              have Oc : Hid (Only (fun _ => False) wr ((wr.alloc (.cells #[.int .u32 x] 26)).alloc (.cells #[] 26)).drew) := (((Only.refl _ wr).alloc _).alloc _).drew
              have Ra : Hid (Row (wr.alloc (.cells #[] 26)).drew 26 .u32 (.slice (some ⟨wr.heap.size, 0, none⟩) 0 0) []) := (row_empty wr _ .u32).only ((Only.refl (fun _ => False) _).drew) (fun _ _ hf => hf)
              have Rb : Hid (Row ((wr.alloc (.cells #[] 26)).alloc (.cells #[.int .u32 x] 26)).drew 26 .u32 (.slice (some ⟨wr.heap.size, 0, none⟩) 0 0) []) := (row_empty wr _ .u32).only (((Only.refl (fun _ => False) _).alloc _).drew) (fun _ _ hf => hf)
              have Rc : Hid (Row ((wr.alloc (.cells #[.int .u32 x] 26)).alloc (.cells #[] 26)).drew 26 .u32 (.slice (some ⟨wr.heap.size + 1, 0, none⟩) 0 0) []) := by
                have h := (row_empty (wr.alloc (.cells #[.int .u32 x] 26)) 26 .u32).only ((Only.refl (fun _ => False) _).drew) (fun _ _ hf => hf)
                rw [show (wr.alloc (.cells #[.int .u32 x] 26)).heap.size = wr.heap.size + 1 from by simp] at h
                exact h
              have Nb : Hid (Nums ((wr.alloc (.cells #[] 26)).alloc (.cells #[.int .u32 x] 26)).drew (wr.heap.size + 2) .u32 (some ⟨wr.heap.size + 1, 0, none⟩) 1 [x]) := by
                have h := nums_one (wr.alloc (.cells #[] 26)) 26 .u32 x
                rw [show (wr.alloc (.cells #[] 26)).heap.size = wr.heap.size + 1 from by simp] at h
                exact h
              have Nc : Hid (Nums ((wr.alloc (.cells #[.int .u32 x] 26)).alloc (.cells #[] 26)).drew (wr.heap.size + 1) .u32 (some ⟨wr.heap.size, 0, none⟩) 1 [x]) :=
                (nums_one wr 26 .u32 x).only (by simp) (((Only.refl (fun _ => False) _).alloc _).drew) (fun _ _ hf => hf)
              have htl : (out.take gk).length = gk := by rw [List.length_take]; omega
              have hol : out.length < 1099511627776 := by omega
              have fin : Hid (∀ v W, Row W 26 .u32 v ((([] ++ out.take gk) ++ [x]) ++ out.drop gk) → (∀ g, v.ownBlock = some g → wr.heap.size ≤ g) → Only (fun _ => False) wr W → ∃ out' og' cap', v = .slice (some ⟨og', 0, none⟩) out'.length cap' ∧ out'.length ≤ cap' ∧ cap' ≤ 9223372036854775807 ∧ w.heap.size ≤ og' ∧ Hid (Row W 26 .u32 (.slice (some ⟨og', 0, none⟩) out'.length cap') out') ∧ Only (fun _ => False) w W ∧ Hid (Rising out' ∧ (∀ k ∈ out', k ∈ xs)) ∧ out'.length = out.length + 1) := fun v W hrow hnew hW => by
                have e : (([] ++ out.take gk) ++ [x]) ++ out.drop gk = out.take gk ++ x :: out.drop gk := by simp
                rw [e] at hrow
                rcases hrow.form with ⟨_, h0⟩ | ⟨g, cp, hv, hc, hlt', hob⟩
                · have := congrArg List.length h0
                  rw [hlen'.out] at this
                  simp at this
                · refine ⟨_, g, cp, hv, hc, ?_, ?_, by rw [← hv]; exact hrow, hwr.trans hW (fun _ hf _ => hf), HD.out, hlen'.out⟩
                  · rcases hrow.2 with ⟨h1, _⟩ | ⟨g1, cap1, cur, h1, _, _, _, hm, _⟩ <;> rw [hv] at h1
                    · cases h1
                    · injection h1 with _ _ h1; unfold maxLen at hm; omega
                  · have := hnew g hob; have := hwr.size; omega
              by_cases hkc : gk = cap
              · have E3' := Lib.hid (E3.out hkc)
                have E3z : Hid (∀ W, Nums W wr.heap.size .u32 (some ⟨og, 0, none⟩) 0 (out.drop gk)) := fun W => by
                  rw [List.drop_eq_nil_of_le (by omega)]
                  exact Nums.nil _ _ _ _
                subst hkc
                clear E2 E3 HD hlen' hhi HX hcell hadb
                go_region_held3 (fun w' => True) (exact trivial) (first
                  | (refine step_append_new (w0 := wr) (by rfl) (.tmp 40) (.tmp 43) 24 (by rfl) 26 i0 (.int .u32 0) 4 Tryd.underlying24 hi hz0 hz1 hz2 rfl .u32 _ [] (by rfl) (by first | exact Ra.out | exact Rb.out | exact Rc.out) wr.heap.size (some ⟨og, 0, none⟩) gk _ (out.take gk) (by rfl) (by first | exact E1.out _ Oa.out | exact E1.out _ Ob.out | exact E1.out _ Oc.out) (by simp; omega) (by simp; omega) (by first | exact Oa.out | exact Ob.out | exact Oc.out) (fun g hg => own_ge hg (by simp)) ?_; intro v1 w1 hrow1 hon1 hw1 hnew1 hkeep1)
                  | (refine step_append_new (w0 := wr) (by rfl) (.tmp 44) (.tmp 46) 24 (by rfl) 26 i0 (.int .u32 0) 4 Tryd.underlying24 hi hz0 hz1 hz2 rfl .u32 v1 ([] ++ out.take gk) (by rfl) (by first | exact hrow1 | exact hrow1.only ((Only.refl (fun _ => False) _).alloc _) (fun _ _ hf => hf)) _ _ 1 1 [x] (by rfl) (by first | exact nums_one w1 26 .u32 x | exact Nb.out.only (by simp) hon1 (by rintro ad ⟨⟩; simp [Value.ownBlock]) | exact Nc.out.only (by simp) hon1 (by rintro ad ⟨⟩; simp [Value.ownBlock])) (by simp; omega) (by simp; omega) (by first | exact hw1 | exact hw1.alloc _) hnew1 ?_; intro v2 w2 hrow2 hon2 hw2 hnew2 hkeep2)
                  | (refine step_append_new (w0 := wr) (by rfl) (.tmp 47) (.tmp 50) 24 (by rfl) 26 i0 (.int .u32 0) 4 Tryd.underlying24 hi hz0 hz1 hz2 rfl .u32 v2 (([] ++ out.take gk) ++ [x]) (by rfl) hrow2 wr.heap.size (some ⟨og, 0, none⟩) _ _ (out.drop gk) (by rfl) (E3'.out w2) (by simp; omega) (by simp; omega) hw2 hnew2 ?_; intro v3 w3 hrow3 hon3 hw3 hnew3 hkeep3)
                  | (refine step_append_new (w0 := wr) (by rfl) (.tmp 47) (.tmp 50) 24 (by rfl) 26 i0 (.int .u32 0) 4 Tryd.underlying24 hi hz0 hz1 hz2 rfl .u32 v2 (([] ++ out.take gk) ++ [x]) (by rfl) hrow2 wr.heap.size (some ⟨og, 0, none⟩) _ _ (out.drop gk) (by rfl) (E3z.out w2) (by simp; omega) (by simp; omega) hw2 hnew2 ?_; intro v3 w3 hrow3 hon3 hw3 hnew3 hkeep3)
                  | fail)
                all_goals
                  go_wp2_with fail
                  go_roundg (n - (t + 1))
                  case measure => omega
                  case rel =>
                    obtain ⟨out', og', cap', rfl, k1, k2, k3, k4, k5, k6, k7⟩ := fin.out v3 w3 hrow3 hnew3 hw3
                    exact ⟨t + 1, out', og', cap', by omega, by go_num, rfl, k1, k2, k3, k4.out, k5, k6, by omega⟩
              · have hgc : (gk : Int) < (cap : Int) := by omega
                have hne2 : ¬ cap = gk := by omega
                clear hkc E3 HD hlen' hhi HX hcell hadb
                go_region_held3 (fun w' => True) (exact trivial) (first
                  | (refine step_append_new (w0 := wr) (by rfl) (.tmp 40) (.tmp 43) 24 (by rfl) 26 i0 (.int .u32 0) 4 Tryd.underlying24 hi hz0 hz1 hz2 rfl .u32 _ [] (by rfl) (by first | exact Ra.out | exact Rb.out | exact Rc.out) wr.heap.size (some ⟨og, 0, none⟩) gk _ (out.take gk) (by rfl) (by first | exact E1.out _ Oa.out | exact E1.out _ Ob.out | exact E1.out _ Oc.out) (by simp; omega) (by simp; omega) (by first | exact Oa.out | exact Ob.out | exact Oc.out) (fun g hg => own_ge hg (by simp)) ?_; intro v1 w1 hrow1 hon1 hw1 hnew1 hkeep1)
                  | (refine step_append_new (w0 := wr) (by rfl) (.tmp 44) (.tmp 46) 24 (by rfl) 26 i0 (.int .u32 0) 4 Tryd.underlying24 hi hz0 hz1 hz2 rfl .u32 v1 ([] ++ out.take gk) (by rfl) (by first | exact hrow1 | exact hrow1.only ((Only.refl (fun _ => False) _).alloc _) (fun _ _ hf => hf)) _ _ 1 1 [x] (by rfl) (by first | exact nums_one w1 26 .u32 x | exact Nb.out.only (by simp) hon1 (by rintro ad ⟨⟩; simp [Value.ownBlock]) | exact Nc.out.only (by simp) hon1 (by rintro ad ⟨⟩; simp [Value.ownBlock])) (by simp; omega) (by simp; omega) (by first | exact hw1 | exact hw1.alloc _) hnew1 ?_; intro v2 w2 hrow2 hon2 hw2 hnew2 hkeep2)
                  | (refine step_append_new (w0 := wr) (by rfl) (.tmp 47) (.tmp 50) 24 (by rfl) 26 i0 (.int .u32 0) 4 Tryd.underlying24 hi hz0 hz1 hz2 rfl .u32 v2 (([] ++ out.take gk) ++ [x]) (by rfl) hrow2 wr.heap.size (some ⟨og, gk, none⟩) _ _ (out.drop gk) (by rfl) (E2.out w2 hw2) (by simp; omega) (by simp; omega) hw2 hnew2 ?_; intro v3 w3 hrow3 hon3 hw3 hnew3 hkeep3)
                  | fail)
                all_goals
                  go_wp2_with fail
                  go_roundg (n - (t + 1))
                  case measure => omega
                  case rel =>
                    obtain ⟨out', og', cap', rfl, k1, k2, k3, k4, k5, k6, k7⟩ := fin.out v3 w3 hrow3 hnew3 hw3
                    exact ⟨t + 1, out', og', cap', by omega, by go_num, rfl, k1, k2, k3, k4.out, k5, k6, by omega⟩
    · have ht : t = n := by omega
      go_wp2_with fail
      go_ret
      exact ⟨_, out, rfl, hrow, hwr, hI.out.1, hI.out.2, by omega⟩
end Go.Proofs.YtoegfdndoeiolaaDoor
