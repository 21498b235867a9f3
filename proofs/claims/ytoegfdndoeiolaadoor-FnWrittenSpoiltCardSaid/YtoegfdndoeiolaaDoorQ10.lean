/- Walks and plain laws, one behind the other (Unm, ZUnp, Sorted, New, LawUnp); their conditions stand at each. -/
import Derived.Test.YtoegfdndoeiolaaDoorQ9
import Derived.Deep.DeepCutAuto
import Derived.Laws.CopyOwn
import Derived.Test.YtoegfdndoeiolaaDoorQ1
import Derived.Test.YtoegfdndoeiolaaDoorQ5

/- Walks: a compressed list is read from bytes: it is read where the bytes are those of a list of keys, and refused elsewhere. Conditions: the bytes are bytes; the variables of the errors hold errors. -/
namespace Go.Proofs.YtoegfdndoeiolaaDoor
open Go.RowKit

section
variable {w : World} {B n m : Nat} {k : IntKind} {xs : List Nat} {a : Addr}
theorem Nums.take (h : Nums w B k (some a) n xs) (hm : m ≤ n) : Nums w B k (some a) m (xs.take m) := by
  refine ⟨by rw [List.length_take]; have := h.1; omega, fun h0 => ?_⟩
  obtain ⟨ad, e, hb, hc⟩ := h.2 (by omega)
  refine ⟨ad, e, hb, fun j x hx => hc j x ?_⟩
  have hj : j < m := by have := (List.getElem?_eq_some_iff.1 hx).1; rw [List.length_take] at this; omega
  rwa [List.getElem?_take_of_lt hj] at hx
theorem Nums.drop (h : Nums w B k (some a) n xs) (h0 : 0 < m) : Nums w B k (some ⟨a.block, a.off + m, none⟩) (n - m) (xs.drop m) := by
  refine ⟨by rw [List.length_drop, h.1], fun hn => ?_⟩
  obtain ⟨ad, e, hb, hc⟩ := h.2 (by omega)
  injection e with e
  subst e
  refine ⟨_, rfl, hb, fun j x hx => ?_⟩
  rw [List.getElem?_drop] at hx
  have := hc _ x hx
  have hm0 : ¬ m = 0 := by omega
  rw [← add_of_add, show (a.add m) = ⟨a.block, a.off + m, none⟩ from by unfold Addr.add; rw [if_neg hm0]] at this
  exact this
theorem Nums.drewN (h : Nums w B k (some a) n xs) (q : Nat) : Nums (w.drewN q) B k (some a) n xs := h
end
/-- Four bytes at the front, read in whatever draws have been made. -/
theorem be32_quiet (a : Addr) (n c B x : Nat) (r : List Nat) (w : World) (h : Nums w B .u8 (some a) n (be32 x ++ r)) (hx : x < 4294967296) :
    ∀ q, Calls Tryd.prog 67 #[.slice (some a) 4 c] (w.drewN q) fun e w' => e = .returned (.int .u32 (x : Nat)) ∧ ∃ m, w' = w.drewN (q + m) := by
  intro q
  have h4 : 4 ≤ n := by have := h.1; rw [List.length_append, be32_len] at this; omega
  have ht : (be32 x ++ r).take 4 = be32 x := rfl
  have hN := (h.take (m := 4) h4).drewN q
  rw [ht] at hN
  have hb := be32_byte x
  have hc := beUint32_any (some a) c B _ _ _ _ (w.drewN q) hN (hb _ (by simp [be32])) (hb _ (by simp [be32])) (hb _ (by simp [be32])) (hb _ (by simp [be32]))
  rw [unbe_be x hx] at hc
  refine hc.mono fun e w' => ?_
  rintro ⟨he, m, rfl⟩
  exact ⟨he, m, by simp⟩

section
variable {P : Program} {w : World} {ops : Array Oper} {rest : List Oper} {o : Oper} {a : Act} {Q : Exit → Act → World → Prop}
/-- 'copy' over a whole row of numbers. -/
theorem run_copy_nums (dT sT ty e : TypeId) (hu : P.underlying dT = some (.slice e)) (hsz : (P.info? e).map (·.size) = some 1)
    (k : IntKind) (v : Value) (ys : List Nat) (hrow : Row w e k v ys) (B n c : Nat) (A : Option Addr) (xs : List Nat) (hx : Nums w B k A n xs) (hn : ys.length = n) :
    ∃ w', (Builtin.copy_ #[dT, sT] ty #[v, .slice A n c]).run P w = .ok (.int .i64 (n : Int)) w' ∧ Row w' e k v xs ∧ Only (fun g => v.ownBlock = some g) w w' := by
  have hxl := hx.1
  by_cases h0 : n = 0
  · have hy0 : ys = [] := List.eq_nil_of_length_eq_zero (hn.trans h0)
    have hx0 : xs = [] := List.eq_nil_of_length_eq_zero (hxl.trans h0)
    subst h0
    obtain ⟨dp, dc, hv⟩ : ∃ dp dc, v = .slice dp 0 dc := by
      rcases hrow.form with ⟨rfl, _⟩ | ⟨g, cap, rfl, _⟩
      · exact ⟨_, _, rfl⟩
      · exact ⟨_, _, by rw [hn]⟩
    exact ⟨w, by rw [hv]; exact run_copy_none (P := P) w dT sT ty e dp A 0 dc 0 c hu hsz rfl, by rw [hx0, ← hy0]; exact hrow, Only.refl _ _⟩
  · obtain ⟨ad, rfl, _, hc⟩ := hx.2 (by omega)
    rcases hrow.2 with ⟨_, hz⟩ | ⟨g, cap, cur, rfl, hb, hg, hnc, hcm, hcs, ht⟩
    · omega
    · have hcl : (xs.map fun x : Nat => Value.int k (x : Int)).length = n := by rw [List.length_map, hxl]
      have hrun := run_copy_row (P := P) w dT sT ty e g 0 ys.length cap ad n c cur e (xs.map fun x : Nat => Value.int k (x : Int)) hu hsz hg (by rw [hcl, hn]; exact (Nat.min_self n).symm) (by
        intro j u hu'
        rw [List.getElem?_map] at hu'
        cases hy : xs[j]? with
        | none => rw [hy] at hu'; cases hu'
        | some y =>
          rw [hy] at hu'
          injection hu' with hu'
          subst hu'
          exact hc j y hy) (by omega) (by
        intro u hu'
        obtain ⟨_, _, rfl⟩ := List.mem_map.1 hu'
        rfl)
      rw [hcl] at hrun
      refine ⟨_, hrun, ⟨by rw [List.length_map, Nat.mul_one], .inr ⟨g, cap, _, by rw [hxl, hn], hb, setRow_heap w g _ _ e _ hg, by omega, hcm, ?_, ?_⟩⟩, ?_⟩
      · simp only [List.take_zero, List.nil_append, Nat.zero_add, List.size_toArray, List.length_append, List.length_drop, Array.length_toList]
        rw [hcl]; omega
      · simp only [List.take_zero, List.nil_append, Nat.zero_add]
        rw [List.take_left' (by rw [hcl, hxl, Nat.mul_one])]
      · exact ⟨rfl, rfl, rfl, by simp [World.setRow], fun i hi hne => setRow_other w g i _ (fun he => hne (by rw [he]; rfl))⟩
end

theorem row_made (w : World) (e : TypeId) (k : IntKind) (n : Nat) (hn : n ≤ 9223372036854775807) : Row (w.alloc (.cells (madeCells #[.int k 0] n) e)) e k (.slice (some ⟨w.heap.size, 0, none⟩) n n) (List.replicate n 0) := by
  refine ⟨by simp, .inr ⟨w.heap.size, n, _, by simp, Nat.zero_le _, heap_alloc_new w _, by simp, by unfold maxLen; omega, by simp [size_madeCells], ?_⟩⟩
  rw [toList_madeCells_one]
  simp

/-- The numbers and the stream are those of the keys. -/
def Are (cn ls sz : Nat) (st ks : List Nat) : Prop := cn = ks.length ∧ ls = lastOr 0 ks ∧ sz = (encFrom 0 ks).length ∧ st = encFrom 0 ks
/-- What the reader of a list has done. -/
def UnmPost (p cn ls sz : Nat) (st : List Nat) (w : World) (L : Nat) (e : Ending) (w' : World) : Prop :=
  (∃ ks v', Valid p ks ∧ Are cn ls sz st ks ∧ e = .returned .nilIface ∧ CList w' L v' ks ∧ (∀ g, v'.ownBlock = some g → w.heap.size ≤ g) ∧ Only (fun b => b = L) w w') ∨
  ((∀ ks, Valid p ks → ¬ Are cn ls sz st ks) ∧ Fails e ∧ Only (fun _ => False) w w')
theorem UnmPost.bad {p cn ls sz : Nat} {st : List Nat} {w w' : World} {L : Nat} {a : Addr} (h : ∀ ks, Valid p ks → ¬ Are cn ls sz st ks) (ho : Only (fun _ => False) w w') :
    UnmPost p cn ls sz st w L (.returned (.iface 152 (.pointer (some a)))) w' := .inr ⟨h, ⟨a, rfl⟩, ho⟩

theorem unm_done {p cn ls m L : Nat} {v0 : Value} {st pre : List Nat} {w w1 : World} (hb : Blk w1 L 106 #[.int .u32 0, .int .u32 0, v0]) (hr : Row w1 5 .u8 (.slice (some ⟨w.heap.size, 0, none⟩) m m) st)
    (ho : Only (fun _ => False) w w1) (hL : L < w.heap.size) (hv : Valid p pre) (ha : Are cn ls m st pre) :
    UnmPost p cn ls m st w L (.returned .nilIface) (((w1.setCell ⟨L, 0, none⟩ (.int .u32 cn)).setCell ⟨L, 1, none⟩ (.int .u32 ls)).setCell ⟨L, 2, none⟩ (.slice (some ⟨w.heap.size, 0, none⟩) m m)) := by
  have hst := ha.2.2.2
  refine .inl ⟨pre, .slice (some ⟨w.heap.size, 0, none⟩) m m, hv, ha, rfl, ⟨?_, ?_, fun k hk => (hv.2.1 k hk).1⟩, ?_, ?_⟩
  · have h := ((hb.set_ 0 (.int .u32 cn)).set_ 1 (.int .u32 ls)).set_ 2 (.slice (some ⟨w.heap.size, 0, none⟩) m m)
    rw [← ha.1, ← ha.2.1]
    exact h
  · rw [← hst]
    exact hr.only ((((Only.refl (fun b => b = L) w1).setCell (fun _ => rfl) _).setCell (fun _ => rfl) _).setCell (fun _ => rfl) _) (fun g hg hgl => by
      have : w.heap.size = g := by simpa [Value.ownBlock] using hg
      omega)
  · intro g hg
    have : w.heap.size = g := by simpa [Value.ownBlock] using hg
    omega
  · have h0 : Only (fun b => b = L) w w1 := ho.mono (fun _ hf _ => hf.elim)
    exact ((h0.setCell (fun _ => rfl) _).setCell (fun _ => rfl) _).setCell (fun _ => rfl) _

set_option maxHeartbeats 8000000 in
set_option maxRecDepth 100000 in
theorem unmarshal_any (L : Nat) (v0 : Value) (ad : Addr) (n c p : Nat) (cn ls sz : Nat) (st : List Nat) (w : World) (hbs : Nums w w.heap.size .u8 (some ad) n (be32 cn ++ (be32 ls ++ (be32 sz ++ st)))) (h256 : ∀ b ∈ st, b < 256)
    (hcn : cn < 4294967296) (hls : ls < 4294967296) (hsz : sz < 4294967296) (hnc : n ≤ c) (hc : c ≤ 9223372036854775807) (hn : n < 1099511627776)
    (h1 : 4 ≤ p) (h2 : p ≤ 18) (hl : CList w L v0 []) (he : Errs w) :
    Calls Tryd.prog 47 #[.pointer (some ⟨L, 0, none⟩), .slice (some ad) n c, .int .u8 p] w fun e w' => UnmPost p cn ls sz st w L e w' := by
  obtain ⟨i0, hi, hz0, hz1, hz2⟩ := info_parts info_u8
  have hlen : st.length + 12 = n := by have := hbs.1; simp only [List.length_append, be32_len] at this; omega
  have i1 : (4 : Int) ≤ (n : Int) := by omega
  have i2 : (4 : Int) ≤ (c : Int) := by omega
  have i3 : (n : Int) ≤ (c : Int) := by omega
  have i4 : ¬ (n : Int) < 12 := by omega
  have hb1 := hbs.drop (m := 4) (by omega)
  rw [show (be32 cn ++ (be32 ls ++ (be32 sz ++ st))).drop 4 = be32 ls ++ (be32 sz ++ st) from rfl] at hb1
  have hb2 := hb1.drop (m := 4) (by omega)
  rw [show (be32 ls ++ (be32 sz ++ st)).drop 4 = be32 sz ++ st from rfl] at hb2
  have hb3 := hb2.drop (m := 4) (by omega)
  rw [show (be32 sz ++ st).drop 4 = st from rfl] at hb3
  have hM : n - 4 - 4 - 4 = st.length := by omega
  rw [hM] at hb3
  have B1 := Lib.hid (be32_quiet _ _ c _ _ _ w hbs hcn)
  have B2 := Lib.hid (be32_quiet _ _ (c - 4) _ _ _ w hb1 hls)
  have B3 := Lib.hid (be32_quiet _ _ (c - 4 - 4) _ _ _ w hb2 hsz)
  have HN := Lib.hid hb3
  have HL := Lib.hid hl
  obtain ⟨⟨ae, hae⟩, be, hbe⟩ := id he
  have HE := Lib.hid he
  clear hl he hbs hb1 hb2 hb3
  have HM := Lib.hid hM
  clear hM
  go_enter Tryd.func47, Tryd.ntmps47
  go_wp2_with fail
  go_quiet ((go_at_call 67; refine (B1.out _).mono ?_; rintro e w'' ⟨he, m, rfl⟩; exact ⟨he, _, rfl⟩))
  go_wp2_with fail
  go_quiet ((go_at_call 67; refine (B2.out _).mono ?_; rintro e w'' ⟨he, m, rfl⟩; exact ⟨he, _, by rw [Nat.add_assoc]⟩))
  go_upto_region 5 with fail
  go_cut [1, 9] (fun s1 s9 wc => ∃ a cc q, s1 = .slice (some a) st.length cc ∧ st.length ≤ cc ∧ cc ≤ 9223372036854775807 ∧ Nums w w.heap.size .u8 (some a) st.length st ∧ s9 = .int .u32 (sz : Nat) ∧ wc = w.drewN q)
  case first =>
    go_quiet ((go_at_call 67; refine (B3.out _).mono ?_; rintro e w'' ⟨he, m, rfl⟩; exact ⟨he, _, by rw [Nat.add_assoc]⟩))
    go_wp2_with fail
    · go_meet
      case rel =>
        have h0 : st.length = 0 := by have := HM.out; omega
        refine ⟨⟨ad.block, ad.off + 4 + 4, none⟩, 0, _, by rw [HM.out], by omega, by omega, ?_, rfl, rfl⟩
        rw [h0, List.eq_nil_of_length_eq_zero h0]
        exact Nums.nil _ _ _ _
    · go_meet
      case rel => exact ⟨_, c - 4 - 4 - 4, _, by rw [HM.out], by have := HM.out; omega, by omega, HN.out, rfl, rfl⟩
  case rest =>
    obtain ⟨a, cc, q, rfl, hcc, hcm, hna, rfl, rfl⟩ := hcut
    have hEq : Hid (Errs (w.drewN q)) := HE.out
    have HST := Lib.hid (rfl : st.length = st.length)
    have hm32 : st.length < 1099511627776 := by omega
    clear B1 B2 B3 HN hlen
    have HNA := Lib.hid hna
    clear hna HM i4 i1 i2 i3 hnc
    revert hcc HNA HST hm32
    generalize hmm : st.length = m
    intro hcc HST hm32 HNA
    have HMM := Lib.hid hmm
    clear hmm
    by_cases hms : m = sz
    · subst hms
      have HX := fun s => Lib.hid (exactLen_ok s m (w.drewN q))
      have HO : Hid (Only (fun _ => False) w (w.drewN q)) := (Only.refl _ w).drewN _
      by_cases hbig : 33554432 ≤ cn
      · have HBAD : Hid (∀ ks, Valid p ks → ¬ Are cn ls m st ks) := fun ks hv h => by have := hv.2.2; have := h.1; omega
        have hb' : decide ((33554432 : Int) ≤ (cn : Int)) = true := decide_eq_true (by omega)
        clear hbig
        go_wp2_with (go_at_call 71; refine (HX _).out.mono ?_; rintro e w' ⟨rfl, rfl⟩)
        go_ret
        exact UnmPost.bad HBAD.out HO.out
      have hb' : decide ((33554432 : Int) ≤ (cn : Int)) = false := decide_eq_false (by omega)
      have HG : Hid (¬ 33554432 ≤ cn) := hbig
      clear hbig
      by_cases hgood : (cn = 0 ∧ m = 0 ∧ ls = 0) ∨ (0 < cn ∧ cn ≤ m ∧ m ≤ 5 * cn)
      · have HGD := Lib.hid hgood
        go_upto_region 9 with (go_at_call 71; refine (HX _).out.mono ?_; rintro e w' ⟨rfl, rfl⟩)
        go_upto_if 53 with fail
        go_cut [] (fun wc => wc = w.drewN q)
        case first =>
          rcases hgood with ⟨e1, e2, e3⟩ | ⟨e1, e2, e3⟩
          · have g1 : ((cn : Int) == 0) = true := by rw [e1]; rfl
            have g2 : ((m : Int) != 0) = false := by rw [e2]; rfl
            have g3 : ((ls : Int) != 0) = false := by rw [e3]; rfl
            clear e1 e2 e3
            go_wp2_with fail
            go_meet
            case rel => rfl
          · have g1 : ((cn : Int) == 0) = false := by rw [beq_eq_false_iff_ne]; omega
            have g4 : IntKind.u32.wrap (5 * (cn : Int)) = 5 * (cn : Int) := by have := HG.out; rw [IntKind.wrap_u32']; omega
            have g7 : decide (5 * (cn : Int) < (m : Int)) = false := decide_eq_false (by omega)
            have g5 : (cn : Int) ≤ (m : Int) := by omega
            clear e1 e2 e3 HX
            go_wp2_with fail
            go_meet
            case rel => rfl
        case rest =>
          subst hcut
          clear hgood HX hb'
          have hm63 : m ≤ 9223372036854775807 := by omega
          have mk : ∀ W : World, (Instr.makeSlice 88 (.int .u32 (m : Int)) (.int .u32 (m : Int))).run Tryd.prog W = .ok (.slice (some ⟨W.heap.size, 0, none⟩) m m) (W.alloc (.cells (madeCells #[.int .u8 0] m) 5)) := fun W => by
            have h := run_make_rowN (P := Tryd.prog) 88 5 i0 (.int .u8 0) Tryd.underlying88 hi hz0 .u32 .u32 m m (Nat.le_refl _) (by rw [hz2]; omega) (by omega) W
            rw [hz1, Nat.mul_one] at h
            exact h
          have hrm := row_made (w.drewN q) 5 .u8 m hm63
          have hO1 : Only (fun _ => False) w ((w.drewN q).alloc (.cells (madeCells #[.int .u8 0] m) 5)) := HO.out.alloc _
          have hn1 : Nums ((w.drewN q).alloc (.cells (madeCells #[.int .u8 0] m) 5)) w.heap.size .u8 (some a) m st := HNA.out.only (Nat.le_refl _) hO1 (fun _ _ hf => hf)
          obtain ⟨w1, hcopy, hrow1, hon1⟩ := run_copy_nums (P := Tryd.prog) 88 31 3 5 Tryd.underlying88 (by kernel_rfl) .u8 _ _ hrm w.heap.size m cc (some a) st hn1 (by simp)
          have hcopy' : (Builtin.copy_ #[88, 31] 3 #[.slice (some ⟨w.heap.size, 0, none⟩) m m, .slice (some a) m cc]).run Tryd.prog ((w.drewN q).alloc (.cells (madeCells #[.int .u8 0] m) 5)) = .ok (.int .i64 (m : Int)) w1 := hcopy
          have HW : Hid (Only (fun _ => False) w w1) := hO1.trans hon1 (fun k hk hlt => by
            have e : w.heap.size = k := by simpa [Value.ownBlock] using hk
            have := hO1.size
            omega)
          have HR : Hid (Row w1 5 .u8 (.slice (some ⟨w.heap.size, 0, none⟩) m m) st) := hrow1
          clear hcopy hrow1 hon1 hrm hn1 hO1
          have hbnd1 : (m : Int) ≤ (cc : Int) := by omega
          go_wp2_with fail
          have hN1 : Nums w1 w1.heap.size .u8 (some ⟨w.heap.size, 0, none⟩) m st := by
            obtain ⟨A', c', hv', hc', hn', _⟩ := HR.out.nums
            injection hv' with e1 e2 e3
            subst e1
            rw [← e2] at hn'
            exact hn'
          have hB1 : Blk w1 L 106 #[.int .u32 0, .int .u32 0, v0] := HL.out.1.only HW.out (fun hf => hf)
          have hE1 : Errs w1 := HE.out.only HW.out (fun hf => hf) (fun hf => hf)
          obtain ⟨_, be1, hbe1⟩ := id hE1
          have f0 := hB1.frozen 0
          have f1 := hB1.frozen 1
          have f2 := hB1.frozen 2
          have c0 : w1.cell? ⟨L, 0, none⟩ = some (.int .u32 0) := hB1.cell 0
          have c1 : w1.cell? ⟨L, 1, none⟩ = some (.int .u32 0) := hB1.cell 1
          have c2 : w1.cell? ⟨L, 2, none⟩ = some v0 := hB1.cell 2
          have HB1 := Lib.hid hB1
          have HN1 := Lib.hid hN1
          have HE1 := Lib.hid hE1
          have H256 := Lib.hid h256
          clear hB1 hN1 hE1 h256 hcopy' mk hae hbe hEq HNA HO
          have hm28 : m ≤ 167772160 := by have := HGD.out; have := HG.out; omega
          go_loopg [12, 13, 14] m (fun g s12 s13 s14 wr => wr = w1 ∧ ∃ pre r, g + at_ pre = m ∧ s12 = .int .u32 (pre.length : Nat) ∧ s13 = .int .u32 (lastOr 0 pre : Nat) ∧ s14 = .int .i64 (at_ pre : Nat) ∧ Hid (Rising pre ∧ (∀ k ∈ pre, okKey k p) ∧ st = encFrom 0 pre ++ r))
          case atStart => exact ⟨rfl, [], st, by simp [at_nil], rfl, rfl, rfl, List.Pairwise.nil, fun k hk => (by cases hk), rfl⟩
          case round =>
            obtain ⟨rfl, pre, r, hg, rfl, rfl, rfl, hI⟩ := hrel
            have hpl : pre.length ≤ at_ pre := encFrom_ge 0 pre
            have hdrop : st.drop (at_ pre) = r := by rw [hI.out.2.2]; exact List.drop_left
            have hlast : lastOr 0 pre < 4294967296 := lastOr_lt (fun k hk => (hI.out.2.1 k hk).1)
            have HNX : Hid (∀ ks, Valid p ks → Are cn ls m st ks → (r = [] ∧ ks = pre) ∨ ∃ k, decN r = some (k - lastOr 0 pre, (varint (k - lastOr 0 pre)).length) ∧ okKey k p ∧ lastOr 0 pre ≤ k ∧ (pre ≠ [] → lastOr 0 pre < k)) := fun ks hv ha =>
              valid_next hI.out.1 hI.out.2.1 hv (by rw [← hI.out.2.2]; exact ha.2.2.2)
            have hrl : at_ pre + r.length = m := by rw [← HMM.out, hI.out.2.2, List.length_append]; rfl
            by_cases hlt : at_ pre < m
            · have hrne : r ≠ [] := by rintro rfl; simp at hrl; omega
              have HDD := decode_any (some ⟨w.heap.size, 0, none⟩) m m (at_ pre) wr.heap.size st wr HN1.out H256.out (by omega) (by omega)
              have hat : ((at_ pre : Nat) : Int) < (m : Int) := by omega
              cases hd : decN r with
              | none =>
                have HDN : Hid (Calls Tryd.prog 77 #[.slice (some ⟨w.heap.size, 0, none⟩) m m, .int .i64 (at_ pre : Nat)] wr fun e w' => ∃ x : Nat, e = .returned (.tuple #[.int .u32 (x : Nat), .int .i64 (m : Nat), .bool false]) ∧ wr = w') :=
                  HDD.mono fun e w' ⟨h1, h2⟩ => by
                    obtain ⟨x, hx⟩ := DecPost.none_ (by rw [hdrop]; exact hd) h2
                    exact ⟨x, hx, h1⟩
                have HBAD : Hid (∀ ks, Valid p ks → ¬ Are cn ls m st ks) := fun ks hv ha => by
                  rcases HNX.out ks hv ha with ⟨h, _⟩ | ⟨k, h, _⟩
                  · exact hrne h
                  · rw [hd] at h; cases h
                clear HDD hd hrne HNX hdrop hrl hpl hlast hat
                have hat : ((at_ pre : Nat) : Int) < (m : Int) := by omega
                go_wp2_with (go_at_call 77; refine HDN.out.mono ?_; rintro e w' ⟨x, rfl, rfl⟩)
                go_ret
                exact UnmPost.bad HBAD.out HW.out
              | some q' =>
                obtain ⟨x, l⟩ := q'
                have HDS : Hid (Calls Tryd.prog 77 #[.slice (some ⟨w.heap.size, 0, none⟩) m m, .int .i64 (at_ pre : Nat)] wr fun e w' => e = .returned (.tuple #[.int .u32 (x : Nat), .int .i64 ((at_ pre + l : Nat) : Int), .bool true]) ∧ wr = w') :=
                  HDD.mono fun e w' ⟨h1, h2⟩ => ⟨DecPost.some_ (by rw [hdrop]; exact hd) h2, h1⟩
                have hr256 : ∀ b ∈ r, b < 256 := fun b hb => H256.out b (by rw [hI.out.2.2]; simp [hb])
                obtain ⟨hx32, hlx, r', hr'⟩ := decN_some hr256 hd
                obtain ⟨nx, hnx⟩ : ∃ nx : Nat, nx = (lastOr 0 pre + x) % 4294967296 := ⟨_, rfl⟩
                have hw : IntKind.u32.wrap (((lastOr 0 pre : Nat) : Int) + (x : Int)) = (nx : Int) := by rw [IntKind.wrap_u32']; omega
                have hnx32 : nx < 4294967296 := by omega
                have HSTEP : Hid (∀ ks, Valid p ks → Are cn ls m st ks → nx = lastOr 0 pre + x ∧ okKey nx p ∧ (pre ≠ [] → lastOr 0 pre < nx)) := fun ks hv ha => by
                  rcases HNX.out ks hv ha with ⟨h, _⟩ | ⟨k, h, hok, hle, hlt⟩
                  · exact absurd h hrne
                  · rw [hd] at h
                    simp only [Option.some.injEq, Prod.mk.injEq] at h
                    have hk := hok.1
                    have e : nx = k := by omega
                    rw [e]
                    exact ⟨by omega, hok, hlt⟩
                have HX2 : Hid (nx = (lastOr 0 pre + x) % 4294967296 ∧ l = (varint x).length ∧ r = varint x ++ r' ∧ x < 4294967296) := ⟨hnx, hlx, hr', hx32⟩
                clear HDD hd hdrop hnx hlx hr' hr256 HNX
                by_cases hbadrise : pre ≠ [] ∧ nx ≤ lastOr 0 pre
                · have hA : (0 : Int) < (pre.length : Int) := by have := List.length_pos_iff.2 hbadrise.1; omega
                  have hB : (nx : Int) ≤ ((lastOr 0 pre : Nat) : Int) := by have := hbadrise.2; omega
                  have HBAD : Hid (∀ ks, Valid p ks → ¬ Are cn ls m st ks) := fun ks hv ha => by
                    have := (HSTEP.out ks hv ha).2.2 hbadrise.1
                    have := hbadrise.2
                    omega
                  clear hbadrise hrne hrl
                  go_wp2_with (go_at_call 77; refine HDS.out.mono ?_; rintro e w' ⟨rfl, rfl⟩)
                  go_ret
                  exact UnmPost.bad HBAD.out HW.out
                have hgood2 : nx = lastOr 0 pre + x ∧ (pre ≠ [] → lastOr 0 pre < nx) := by
                  have h1 := HX2.out.1
                  have h4 := HX2.out.2.2.2
                  by_cases hp : pre = []
                  · have : lastOr 0 pre = 0 := by rw [hp]; rfl
                    exact ⟨by omega, fun h => absurd hp h⟩
                  · have h5 : ¬ nx ≤ lastOr 0 pre := fun h => hbadrise ⟨hp, h⟩
                    exact ⟨by omega, fun _ => by omega⟩
                have HG2 := Lib.hid hgood2
                have hway : (((pre.length : Int) ≤ 0 ∧ decide ((0 : Int) < (pre.length : Int)) = false) ∨ ((0 : Int) < (pre.length : Int) ∧ ((lastOr 0 pre : Nat) : Int) < (nx : Int) ∧ decide ((nx : Int) ≤ ((lastOr 0 pre : Nat) : Int)) = false)) := by
                  by_cases hp : pre = []
                  · exact .inl ⟨by rw [hp]; simp, decide_eq_false (by rw [hp]; simp)⟩
                  · have h1 : ((lastOr 0 pre : Nat) : Int) < (nx : Int) := by have := hgood2.2 hp; omega
                    exact .inr ⟨by have := List.length_pos_iff.2 hp; omega, h1, decide_eq_false (by omega)⟩
                have hlv : l = (varint (nx - lastOr 0 pre)).length := by
                  rw [HX2.out.2.1, hgood2.1]; congr 2; omega
                have hl1 := varint_pos (nx - lastOr 0 pre)
                have hatl : at_ pre + l = at_ (pre ++ [nx]) := by rw [hlv]; exact at_snoc pre nx
                have hlm : at_ pre + l ≤ m := by
                  have h := congrArg List.length HX2.out.2.2.1
                  rw [List.length_append, ← HX2.out.2.1] at h
                  omega
                rw [hatl] at HDS hlm
                have hl0 : at_ pre < at_ (pre ++ [nx]) := by omega
                have HST2 : Hid (st = encFrom 0 (pre ++ [nx]) ++ r') := by
                  have h : nx - lastOr 0 pre = x := by have := hgood2.1; omega
                  show st = _
                  rw [hI.out.2.2, HX2.out.2.2.1, encFrom_snoc, h, List.append_assoc]
                have hm0 : m - at_ (pre ++ [nx]) < m - at_ pre := by omega
                clear hgood2 hbadrise hlv hl1 hatl hrne hrl HX2
                by_cases hok : decVal nx p ≤ 65 - p
                · have HCK := Lib.hid (checkSparseKey_ok nx p wr hnx32 h1 h2 hok)
                  have HOK := Lib.hid hok
                  clear hok
                  rcases hway with ⟨hA, hB⟩ | ⟨hA, hB, hC⟩
                  all_goals
                    go_wp2_with (first
                      | (go_at_call 77; refine HDS.out.mono ?_; rintro e w' ⟨rfl, rfl⟩)
                      | (go_at_call 69; refine HCK.out.mono ?_; rintro e w' ⟨rfl, rfl⟩))
                    go_roundg (m - at_ (pre ++ [nx]))
                    case measure => omega
                    case rel =>
                      refine ⟨rfl, pre ++ [nx], r', by omega, by rw [List.length_append]; go_num, by rw [lastOr_snoc], rfl, rising_snoc hI.out.1 HG2.out.2, ?_, HST2.out⟩
                      intro k hk
                      rcases List.mem_append.1 hk with hk | hk
                      · exact hI.out.2.1 k hk
                      · rw [List.mem_singleton] at hk; subst hk; exact ⟨hnx32, HOK.out⟩
                · have HCK := Lib.hid (checkSparseKey_bad nx p wr hnx32 h1 h2 hok HE1.out)
                  have HBAD : Hid (∀ ks, Valid p ks → ¬ Are cn ls m st ks) := fun ks hv ha => hok (HSTEP.out ks hv ha).2.1.2
                  clear hok
                  rcases hway with ⟨hA, hB⟩ | ⟨hA, hB, hC⟩
                  all_goals
                    go_wp2_with (first
                      | (go_at_call 77; refine HDS.out.mono ?_; rintro e w' ⟨rfl, rfl⟩)
                      | (go_at_call 69; refine HCK.out.mono ?_; rintro e w' ⟨⟨aa, rfl⟩, rfl⟩))
                    go_ret
                    exact UnmPost.bad HBAD.out HW.out
            · have hr0 : r = [] := by apply List.eq_nil_of_length_eq_zero; omega
              subst hr0
              have hatm : at_ pre = m := by omega
              have HPK : Hid (∀ ks, Valid p ks → Are cn ls m st ks → ks = pre) := fun ks hv ha => by
                rcases HNX.out ks hv ha with ⟨_, h⟩ | ⟨k, h, _⟩
                · exact h
                · cases h
              by_cases hcnt : cn = pre.length
              · by_cases hls' : ls = lastOr 0 pre
                · have hC : ((ls : Int) != ((lastOr 0 pre : Nat) : Int)) = false := by rw [bne_eq_false_iff_eq]; omega
                  have hB : ((cn : Int) != ((pre.length : Nat) : Int)) = false := by rw [bne_eq_false_iff_eq]; omega
                  have HC := Lib.hid hcnt
                  have HL' := Lib.hid hls'
                  have HLEN : Hid (pre.length < 33554432) := by have := HG.out; show pre.length < 33554432; omega
                  have HAM := Lib.hid hatm
                  clear hcnt hls' hatm
                  go_wp2_with fail
                  go_ret
                  have hst : st = encFrom 0 pre := by have := hI.out.2.2; rwa [List.append_nil] at this
                  exact unm_done HB1.out HR.out HW.out HL.out.1.lt ⟨hI.out.1, hI.out.2.1, HLEN.out⟩ ⟨HC.out, HL'.out, HAM.out.symm, hst⟩
                · have hC : ((ls : Int) != ((lastOr 0 pre : Nat) : Int)) = true := by rw [bne_iff_ne]; omega
                  have hB : ((cn : Int) != ((pre.length : Nat) : Int)) = false := by rw [bne_eq_false_iff_eq]; omega
                  have HBAD : Hid (∀ ks, Valid p ks → ¬ Are cn ls m st ks) := fun ks hv ha => hls' (by rw [ha.2.1, HPK.out ks hv ha])
                  clear hcnt hls'
                  go_wp2_with fail
                  go_ret
                  exact UnmPost.bad HBAD.out HW.out
              · have hB : ((cn : Int) != ((pre.length : Nat) : Int)) = true := by rw [bne_iff_ne]; omega
                have HBAD : Hid (∀ ks, Valid p ks → ¬ Are cn ls m st ks) := fun ks hv ha => hcnt (by rw [ha.1, HPK.out ks hv ha])
                clear hcnt
                go_wp2_with fail
                go_ret
                exact UnmPost.bad HBAD.out HW.out
      · have HBAD : Hid (∀ ks, Valid p ks → ¬ Are cn ls m st ks) := fun ks hv h => by
          apply hgood
          have h3 := h.2.2.1
          have hle := encFrom_le 0 ks (fun k hk => (hv.2.1 k hk).1)
          have hge := encFrom_ge 0 ks
          have h0 := h.1
          rcases Nat.eq_zero_or_pos ks.length with hz | hz
          · have hks := List.eq_nil_of_length_eq_zero hz
            subst hks
            exact .inl ⟨h.1, h.2.2.1, h.2.1⟩
          · exact .inr (by omega)
        by_cases e1 : cn = 0
        · have g1 : ((cn : Int) == 0) = true := by rw [e1]; rfl
          by_cases e2 : m = 0
          · have g2 : ((m : Int) != 0) = false := by rw [e2]; rfl
            have g3 : ((ls : Int) != 0) = true := by rw [bne_iff_ne]; omega
            clear e1 e2 hgood
            go_wp2_with (go_at_call 71; refine (HX _).out.mono ?_; rintro e w' ⟨rfl, rfl⟩)
            go_ret
            exact UnmPost.bad HBAD.out HO.out
          · have g2 : ((m : Int) != 0) = true := by rw [bne_iff_ne]; omega
            clear e1 e2 hgood
            go_wp2_with (go_at_call 71; refine (HX _).out.mono ?_; rintro e w' ⟨rfl, rfl⟩)
            go_ret
            exact UnmPost.bad HBAD.out HO.out
        · have g1 : ((cn : Int) == 0) = false := by rw [beq_eq_false_iff_ne]; omega
          have g4 : (cn : Int) < 33554432 := by have := HG.out; omega
          by_cases e2 : m < cn
          · clear hgood
            go_wp2_with (go_at_call 71; refine (HX _).out.mono ?_; rintro e w' ⟨rfl, rfl⟩)
            go_ret
            exact UnmPost.bad HBAD.out HO.out
          · have e3 : 5 * (cn : Int) < (m : Int) := by omega
            clear hgood
            go_wp2_with (go_at_call 71; refine (HX _).out.mono ?_; rintro e w' ⟨rfl, rfl⟩)
            go_ret
            exact UnmPost.bad HBAD.out HO.out
    · have HX := fun s => Lib.hid (exactLen_bad s m sz (w.drewN q) hms hEq.out)
      have hbad : ∀ ks, Valid p ks → ¬ Are cn ls sz st ks := fun ks _ h => hms (by rw [← HMM.out, h.2.2.1, h.2.2.2])
      have HBAD := Lib.hid hbad
      clear hbad
      go_wp2_with (go_at_call 71; refine (HX _).out.mono ?_; rintro e w' ⟨⟨aa, rfl⟩, rfl⟩)
      go_ret
      exact UnmPost.bad HBAD.out ((Only.refl _ w).drewN _)
end Go.Proofs.YtoegfdndoeiolaaDoor

/- Walks: keys are unpacked from bytes, and packed and unpacked by the thin function. Conditions: the keys rise and may be a sketch's; the variables of the errors hold errors. -/
namespace Go.Proofs.YtoegfdndoeiolaaDoor
open Go.RowKit

theorem info_u32 : (Tryd.prog.info? 26).map (fun i => (i.zero, i.size, i.bytes)) = some (some (.int .u32 0), 1, 4) := by kernel_rfl
theorem Row.row_ne {w : World} {e e' : TypeId} {k k' : IntKind} {v v' : Value} {xs xs' : List Nat} (h : Row w e k v xs) (h' : Row w e' k' v' xs') (hne : e ≠ e') : ∀ g, v.ownBlock = some g → v'.ownBlock ≠ some g := by
  intro g hg hg'
  rcases h.2 with ⟨rfl, _⟩ | ⟨g1, cap, cur, rfl, _, hh, _⟩
  · simp [Value.ownBlock] at hg
  · rcases h'.2 with ⟨rfl, _⟩ | ⟨g2, cap2, cur2, rfl, _, hh2, _⟩
    · simp [Value.ownBlock] at hg'
    · simp [Value.ownBlock] at hg hg'
      subst hg
      subst hg'
      rw [hh] at hh2
      injection hh2 with hh2
      injection hh2 with _ ht
      exact hne ht
theorem valid_inj {p : Nat} {ks ks' : List Nat} (h : Valid p ks) (h' : Valid p ks') (he : encFrom 0 ks = encFrom 0 ks') : ks' = ks := by
  obtain ⟨rest, rfl, hr⟩ := valid_prefix h.1 h.2.1 h' (r := []) (by rw [List.append_nil, he])
  cases rest with
  | nil => simp
  | cons k rest =>
    have h1 := congrArg List.length hr
    have := varint_pos (k - lastOr 0 ks)
    simp only [encFrom, List.length_append, List.length_nil] at h1
    omega

/-- A list that is read from its own bytes. -/
theorem unmarshal_own (L : Nat) (v0 : Value) (ad : Addr) (n c p : Nat) (ks : List Nat) (w : World) (hbs : Nums w w.heap.size .u8 (some ad) n (listBytes ks)) (hnc : n ≤ c) (hc : c ≤ 9223372036854775807)
    (h1 : 4 ≤ p) (h2 : p ≤ 18) (hl : CList w L v0 []) (he : Errs w) (hv : Valid p ks) :
    Calls Tryd.prog 47 #[.pointer (some ⟨L, 0, none⟩), .slice (some ad) n c, .int .u8 p] w fun e w' =>
      e = .returned .nilIface ∧ ∃ v', CList w' L v' ks ∧ (∀ g, v'.ownBlock = some g → w.heap.size ≤ g) ∧ Only (fun b => b = L) w w' := by
  have h32 : ∀ k ∈ ks, k < 4294967296 := fun k hk => (hv.2.1 k hk).1
  have hle := encFrom_le 0 ks h32
  have hlen := hv.2.2
  have hn : n < 1099511627776 := by
    have := hbs.1
    simp only [listBytes, List.length_append, be32_len] at this
    omega
  refine (unmarshal_any L v0 ad n c p ks.length (lastOr 0 ks) (encFrom 0 ks).length (encFrom 0 ks) w hbs (encFrom_byte 0 ks) (by omega) (lastOr_lt h32) (by omega) hnc hc hn h1 h2 hl he).mono ?_
  rintro e w' (⟨ks', v', hv', ha, rfl, hcl, hnew, ho⟩ | ⟨hbad, _⟩)
  · obtain rfl := valid_inj hv hv' ha.2.2.2
    exact ⟨rfl, v', hcl, hnew, ho⟩
  · exact absurd ⟨rfl, rfl, rfl, rfl⟩ (hbad ks hv)

set_option maxHeartbeats 1000000 in
set_option maxRecDepth 100000 in
theorem ZZUnpack_any (ad : Addr) (n c p : Nat) (ks : List Nat) (w : World) (hbs : Nums w w.heap.size .u8 (some ad) n (listBytes ks)) (hnc : n ≤ c) (hc : c ≤ 9223372036854775807)
    (h1 : 4 ≤ p) (h2 : p ≤ 18) (he : Errs w) (hv : Valid p ks) :
    Calls Tryd.prog 31 #[.slice (some ad) n c, .int .u8 p] w fun e w' =>
      ∃ v', e = .returned (.tuple #[v', .nilIface]) ∧ Row w' 26 .u32 v' ks ∧ Only (fun _ => False) w w' ∧ ∀ g, v'.ownBlock = some g → w.heap.size ≤ g := by
  obtain ⟨i0, hi, hz0, hz1, hz2⟩ := info_parts info_u32
  have HB := Lib.hid hbs
  have HE := Lib.hid he
  have HV := Lib.hid hv
  have hK := Lib.hid hv.keys
  have hlk := hv.2.2
  clear hbs he hv
  go_enter Tryd.func31, Tryd.ntmps31
  go_wp2_with (first
    | (go_at_call 46; refine (newCompressedList_any 0 _ (by omega)).mono ?_; rintro e w1 ⟨L, v, rfl, hL, hvL, hcl, hon⟩)
    | (go_at_call 47; refine (unmarshal_own L v ad n c p ks _ ((HB.out.only (Nat.le_refl _) hon (fun _ _ hf => hf)).more hon.size) hnc hc h1 h2 hcl (HE.out.only hon (fun hf => hf) (fun hf => hf)) HV.out).mono ?_; rintro e w2 ⟨rfl, v2, hcl2, hnew2, hon2⟩)
    | (go_at_call 48; refine (Iter_any L _).mono ?_; rintro e w3 ⟨rfl, hon3⟩))
  have hw3 : Only (fun _ => False) w w3 := (hon.trans hon2 (fun k hk hlt => by omega)).trans hon3 (fun k hk _ => hk)
  have hcl3 : CList w3 L v2 ks := hcl2.only hon3 (fun hf => hf) (fun _ _ hf => hf)
  have hv2 : ∀ g, v2.ownBlock = some g → w.heap.size ≤ g := fun g hg => by have := hnew2 g hg; have := hon.size; omega
  have HW3 := Lib.hid hw3
  have HC3 := Lib.hid hcl3
  clear hon hon2 hon3 hcl hcl2 hnew2 hvL hw3 hcl3
  go_loopg [8, 9] ks.length (fun g s8 s9 wr => ∃ t I, g + t = ks.length ∧ s9 = .pointer (some ⟨I, 0, none⟩) ∧ w.heap.size ≤ I ∧ ItAt wr I L (ks.take t) ∧ Hid (CList wr L v2 ks) ∧ Row wr 26 .u32 s8 (ks.take t) ∧ (∀ g, s8.ownBlock = some g → w.heap.size ≤ g) ∧ Only (fun _ => False) w wr)
  case atStart =>
    refine ⟨0, w3.heap.size, by omega, rfl, HW3.out.size, ?_, ?_, Row.nil_ _ _ _, by simp [Value.ownBlock], HW3.out.alloc _⟩
    · exact Blk.new w3 _ _
    · exact HC3.out.only ((Only.refl (fun _ => False) w3).alloc _) (fun hf => hf) (fun _ _ hf => hf)
  case round =>
    obtain ⟨t, I, hg, rfl, hI, hit, hcl, hrow, hrn, hwr⟩ := hrel
    have c0 : wr.cell? ⟨I, 0, none⟩ = some (.int .i64 (at_ (ks.take t) : Nat)) := hit.cell 0
    have c1 : wr.cell? ⟨I, 1, none⟩ = some (.int .u32 (lastOr 0 (ks.take t) : Nat)) := hit.cell 1
    have c2 : wr.cell? ⟨I, 2, none⟩ = some (.pointer (some ⟨L, 0, none⟩)) := hit.cell 2
    have hIL : I ≠ L := hit.ne_ hcl.out.1 (by decide)
    by_cases hlt : t < ks.length
    · obtain ⟨k, hkd⟩ : ∃ k, ks.getD t 0 = k := ⟨_, rfl⟩
      have hsplit : ks = ks.take t ++ k :: ks.drop (t + 1) := by rw [← hkd]; exact list_split ks t hlt
      have htake : ks.take (t + 1) = ks.take t ++ [k] := by rw [← hkd]; exact list_take_succ ks t hlt
      have hcl' : CList wr L v2 (ks.take t ++ k :: ks.drop (t + 1)) := by rw [← hsplit]; exact hcl.out
      have hk' : Keys (ks.take t ++ k :: ks.drop (t + 1)) := by rw [← hsplit]; exact hK.out
      have HN := Lib.hid (HasNext_any L v2 (ks.take t) (k :: ks.drop (t + 1)) wr hcl' hk')
      have HT := Lib.hid htake
      have HCL := Lib.hid hcl'
      have HK' := Lib.hid hk'
      have HIT := Lib.hid hit
      clear hsplit htake hcl' hk' hkd
      go_wp2_with (first
        | (go_at_call 49; refine HN.out.mono ?_; rintro e w4 ⟨rfl, hon4⟩)
        | (go_at_call 50; refine (Next_any I L v2 (ks.take t) (ks.drop (t + 1)) k w4 (HIT.out.only hon4 (fun hf => hf)) (HCL.out.only hon4 (fun hf => hf) (fun _ _ hf => hf)) HK'.out).mono ?_; rintro e w5 ⟨rfl, hit5, hon5⟩)
        | (at_builtin; go_must (refine wpList_append_one rfl (.tmp 22) (.tmp 24) 24 rfl 26 i0 (.int .u32 0) 4 Tryd.underlying24 hi hz0 hz1 hz2 rfl .u32 u8 (ks.take t) rfl ?c1 k 1 26 rfl ?c4 ?c5 ?_)))
      case c1 => exact (hrow.only hon4 (fun _ _ hf => hf)).only hon5 (fun g hg hgl => hrow.blk_ne HIT.out (by decide) (by rw [hg, hgl]))
      case c4 => rw [List.length_take]; omega
      case c5 => rw [List.length_take]; omega
      intro v6 w6 hrow6 hon6 hlies6
      have hu8 : u8.ownBlock ≠ some I := hrow.blk_ne HIT.out (by decide)
      have hit6 : ItAt w6 I L (ks.take t ++ [k]) := hit5.only hon6 hu8
      have d0 : w6.cell? ⟨I, 0, none⟩ = some (.int .i64 (at_ (ks.take t ++ [k]) : Nat)) := hit6.cell 0
      have d1 : w6.cell? ⟨I, 1, none⟩ = some (.int .u32 (lastOr 0 (ks.take t ++ [k]) : Nat)) := hit6.cell 1
      have d2 : w6.cell? ⟨I, 2, none⟩ = some (.pointer (some ⟨L, 0, none⟩)) := hit6.cell 2
      have hwr6 : Only (fun _ => False) w w6 := ((hwr.trans hon4 (fun k hk _ => hk)).trans hon5 (fun k hk hlt => by omega)).trans hon6 (fun g hg hlt => by have := hrn g hg; omega)
      have hcl6 : CList w6 L v2 ks := by
        refine ((hcl.out.only hon4 (fun hf => hf) (fun _ _ hf => hf)).only hon5 (fun h => hIL h.symm) (fun g hg h => hcl.out.2.1.blk_ne HIT.out (by decide) (by rw [hg, h]))).only hon6 (hrow.blk_ne hcl.out.1 (by decide)) ?_
        intro g hg
        exact hcl.out.2.1.row_ne hrow (by decide) g hg
      have hr6 : ∀ g, v6.ownBlock = some g → w.heap.size ≤ g := by
        intro g hg
        rcases hlies6 with h | ⟨g', h, hge⟩
        · exact hrn g (by rw [← h]; exact hg)
        · rw [hg] at h; injection h with h
          have := hwr.size; have := hon4.size; have := hon5.size; omega
      have HIT6 := Lib.hid hit6
      have HCL6 := Lib.hid hcl6
      clear hit5 hit6 hcl6 hon4 hon5 hon6 hlies6 c0 c1 c2
      go_wp2
      go_roundg (ks.length - (t + 1))
      case measure => omega
      case rel =>
        refine ⟨t + 1, w6.heap.size, by omega, rfl, hwr6.size, ?_, ?_, ?_, hr6, hwr6.alloc _⟩
        · rw [HT.out]; exact Blk.new w6 _ _
        · exact HCL6.out.only ((Only.refl (fun _ => False) w6).alloc _) (fun hf => hf) (fun _ _ hf => hf)
        · rw [HT.out]; exact hrow6.only ((Only.refl (fun _ => False) w6).alloc _) (fun _ _ hf => hf)
    · have ht : t = ks.length := by omega
      subst ht
      rw [List.take_length] at hit c0 c1 hrow
      have hcl' : CList wr L v2 (ks ++ []) := by rw [List.append_nil]; exact hcl.out
      have HN := Lib.hid (HasNext_any L v2 ks [] wr hcl' (by rw [List.append_nil]; exact hK.out))
      have HR := Lib.hid hrow
      clear hcl' hrow
      go_wp2_with (first
        | (go_at_call 49; refine HN.out.mono ?_; rintro e w4 ⟨rfl, hon4⟩))
      go_ret2
      exact ⟨_, rfl, HR.out.only hon4 (fun _ _ hf => hf), hwr.trans hon4 (fun k hk _ => hk), hrn⟩

set_option maxRecDepth 100000 in
theorem implUnpacked_any (A : Option Addr) (n c p : Nat) (ks : List Nat) (w : World) (hks : Nums w w.heap.size .u32 A n ks) (h1 : 4 ≤ p) (h2 : p ≤ 18) (he : Errs w) (hv : Valid p ks) :
    Calls Tryd.prog 17 #[.slice A n c, .int .u8 p] w fun e w' =>
      ∃ v', e = .returned (.tuple #[v', .bool true]) ∧ Row w' 26 .u32 v' ks ∧ Only (fun _ => False) w w' ∧ ∀ g, v'.ownBlock = some g → w.heap.size ≤ g := by
  have hlk := hv.2.2
  have HP := Lib.hid (ZZPack_any A n c ks w hks hv.keys (by omega))
  have HE := Lib.hid he
  have HV := Lib.hid hv
  clear hks he hv
  go_enter Tryd.func17, Tryd.ntmps17
  go_wp2_with (go_at_call 32; refine HP.out.mono ?_; rintro e w1 ⟨v1, rfl, hrow1, hon1⟩)
  obtain ⟨A1, c1, rfl, hc1, hn1, hA1, _⟩ := hrow1.nums
  have hpos : 0 < (listBytes ks).length := by simp only [listBytes, List.length_append, be32_len]; omega
  obtain ⟨ad, rfl, hadb, _⟩ := hn1.2 hpos
  have hcm : c1 ≤ 9223372036854775807 := by
    rcases hrow1.2 with ⟨_, h0⟩ | ⟨g, cap, cur, hv, _, _, _, hm, _⟩
    · omega
    · injection hv with _ _ hcc
      subst hcc
      unfold maxLen at hm; omega
  have HU := Lib.hid (ZZUnpack_any ad _ c1 p ks w1 hn1 hc1 hcm h1 h2 (HE.out.only hon1 (fun hf => hf) (fun hf => hf)) HV.out)
  clear hrow1 hn1 hA1 hadb hc1 hcm
  go_wp2_with (go_at_call 31; refine HU.out.mono ?_; rintro e w2 ⟨v2, rfl, hrow2, hon2, hnew2⟩)
  go_quiet (fail)
  go_wp2
  go_ret2
  exact ⟨v2, rfl, hrow2, (hon1.trans hon2 (fun _ hf _ => hf)).drewN _, fun g hg => Nat.le_trans hon1.size (hnew2 g hg)⟩
end Go.Proofs.YtoegfdndoeiolaaDoor

/- Walks: keys are put in order, each once. Condition: there are no more than a machine holds. -/
namespace Go.Proofs.YtoegfdndoeiolaaDoor
open Go.RowKit

section
variable {P : Program} {w w0 : World} {ops : Array Oper} {o : Oper} {a : Act} {Q : Exit → Act → World → Prop}
/-- append onto a row of the call's own, at a step of a region that draws its order. -/
theorem step_append_new {K : Act → World → Prop} {E : Prop} (hgd : o.guard = none) (s x : Operand) (t : TypeId)
    (ho : o.op = .call { callee := .builtin .append, args := #[s, x], argTypes := #[t, t] })
    (e : TypeId) (i : TypeInfo) (z : Value) (bytes : Nat) (ht : P.underlying t = some (.slice e)) (hi : P.info? e = some i) (hz : i.zero = some z)
    (hsize : i.size = 1) (hby : i.bytes = bytes) (hzs : z.cells.size = 1)
    (k : IntKind) (v : Value) (xs : List Nat) (hs : a.eval s = v) (hrow : Row w e k v xs)
    (B : Nat) (A : Option Addr) (m c : Nat) (ys : List Nat) (hx : a.eval x = .slice A m c) (hys : Nums w B k A m ys)
    (hb : (xs.length + m) * bytes ≤ 140737488355328) (hb1 : xs.length + m ≤ 140737488355328)
    (hW : Only (fun _ => False) w0 w) (hnew : ∀ g, v.ownBlock = some g → w0.heap.size ≤ g)
    (h : ∀ v' w', Row w' e k v' (xs ++ ys) → Only (fun g => v.ownBlock = some g) w w' → Only (fun _ => False) w0 w' → (∀ g, v'.ownBlock = some g → w0.heap.size ≤ g) → (∀ g, w0.heap.size ≤ g → g < w.heap.size → v.ownBlock ≠ some g → v'.ownBlock ≠ some g) → K (a.put o.dst v') w') :
    if Region.wanted o (yielded ops a.tmps) = true then Oper.wp P o a w K Q else E := by
  have hw : Region.wanted o (yielded ops a.tmps) = true := by simp [Region.wanted, hgd]
  rw [if_pos hw]
  refine wp_append_nums s x t ho e i z bytes ht hi hz hsize hby hzs k v xs hs hrow B A m c ys hx hys hb hb1 fun v' w' h2 h3 h4 => ?_
  refine h v' w' h2 h3 (hW.trans h3 (fun g hg hlt => by have := hnew g hg; omega)) (fun g hg => ?_) (fun g h1 h2 hne he => ?_)
  · rcases h4 with h4 | h4 <;> rw [hg] at h4
    · exact hnew g h4.symm
    · injection h4 with h4; have := hW.size; omega
  · rcases h4 with h4 | h4 <;> rw [he] at h4
    · exact hne h4.symm
    · injection h4 with h4; omega
end

theorem own_ge {A : Addr} {len cap g B : Nat} (h : (Value.slice (some A) len cap).ownBlock = some g) (hB : B ≤ A.block) : B ≤ g := by
  have e : A.block = g := by simpa [Value.ownBlock] using h
  omega
theorem nums_of_row {e : TypeId} {k : IntKind} {og len cap m : Nat} {xs : List Nat} {w : World} (h : Row w e k (.slice (some ⟨og, 0, none⟩) len cap) xs) (_hl : len = xs.length) (hm : m ≤ xs.length) :
    Nums w w.heap.size k (some ⟨og, 0, none⟩) m (xs.take m) := by
  obtain ⟨A, c, hv, _, hn, _⟩ := h.nums
  injection hv with e1 _ _
  subst e1
  exact hn.take hm
theorem nums_drop_row {e : TypeId} {k : IntKind} {og len cap m : Nat} {xs : List Nat} {w : World} (h : Row w e k (.slice (some ⟨og, 0, none⟩) len cap) xs) (hl : len = xs.length) (hm : m ≤ xs.length) :
    Nums w w.heap.size k (some ⟨og, m, none⟩) (xs.length - m) (xs.drop m) := by
  rcases Nat.eq_zero_or_pos m with rfl | h0
  · have := nums_of_row h hl (Nat.le_refl _)
    rw [List.take_length] at this
    exact this
  · have := (nums_of_row h hl (Nat.le_refl _)).drop h0
    rw [List.take_length, Nat.zero_add] at this
    exact this

set_option maxHeartbeats 2000000 in
set_option maxRecDepth 100000 in
theorem Sorted_any (A : Option Addr) (n c : Nat) (xs : List Nat) (w : World) (hxs : Nums w w.heap.size .u32 A n xs) (hx32 : ∀ x ∈ xs, x < 4294967296) (hn : n < 1099511627776) :
    Calls Tryd.prog 16 #[.slice A n c] w fun e w' =>
      ∃ v' ks, e = .returned v' ∧ Row w' 26 .u32 v' ks ∧ Only (fun _ => False) w w' ∧ Rising ks ∧ (∀ k ∈ ks, k ∈ xs) ∧ ks.length ≤ n := by
  obtain ⟨i0, hi, hz0, hz1, hz2⟩ := info_parts info_u32
  have hxl := hxs.1
  have HX := Lib.hid hxs
  have H32 := Lib.hid hx32
  clear hxs hx32
  go_enter Tryd.func16, Tryd.ntmps16
  go_wp2_with fail
  go_loopg [3, 10] n (fun g s3 s10 wr => ∃ t out og cap, g + t = n ∧ s10 = .int .i64 (t : Nat) ∧ s3 = .slice (some ⟨og, 0, none⟩) out.length cap ∧ out.length ≤ cap ∧ cap ≤ 9223372036854775807 ∧ w.heap.size ≤ og ∧ Row wr 26 .u32 s3 out ∧ Only (fun _ => False) w wr ∧ Hid (Rising out ∧ (∀ k ∈ out, k ∈ xs)) ∧ out.length ≤ t)
  case atStart => exact ⟨0, [], w.heap.size, 0, by omega, rfl, rfl, by simp, by omega, Nat.le_refl _, row_empty w _ _, (Only.refl _ w).alloc _, ⟨List.Pairwise.nil, fun k hk => (by cases hk)⟩, by simp⟩
  case round =>
    obtain ⟨t, out, og, cap, hg, rfl, rfl, hcap, hcm, hog, hrow, hwr, hI, hot⟩ := hrel
    by_cases hlt : t < n
    · obtain ⟨x, hxd⟩ : ∃ x, xs.getD t 0 = x := ⟨_, rfl⟩
      obtain ⟨ad, rfl, hadb, hcell⟩ := (HX.out.only (Nat.le_refl _) hwr (fun _ _ hf => hf)).at_ hlt
      rw [hxd] at hcell
      have hxm : x ∈ xs := by rw [← hxd]; exact getD_mem (by omega)
      have hx32 : x < 4294967296 := H32.out x hxm
      have HXM := Lib.hid hxm
      have HROW := Lib.hid hrow
      clear hxm hxd hrow
      go_wp2_with fail
      go_loopg [6] out.length (fun g s6 wq => wq = wr ∧ g ≤ out.length ∧ s6 = .int .i64 (g : Nat) ∧ Hid (∀ j, g ≤ j → j < out.length → x < out.getD j 0))
      case atStart => exact ⟨rfl, Nat.le_refl _, rfl, fun j h1 h2 => by omega⟩
      case round =>
        obtain ⟨rfl, hgl, rfl, hhi⟩ := hrel
        have hdone : Hid ((0 < gk → out.getD (gk - 1) 0 < x) → Rising (out.take gk ++ x :: out.drop gk) ∧ ∀ k ∈ out.take gk ++ x :: out.drop gk, k ∈ xs) := fun hlo =>
          ⟨rising_insert hI.out.1 hlo hgl hhi.out, fun k hk => by
            rcases mem_insert.1 hk with h | rfl
            · exact hI.out.2 k h
            · exact HXM.out⟩
        have hlen' : Hid ((out.take gk ++ x :: out.drop gk).length = out.length + 1) := length_insert
        have hrowb : ∀ i, i < out.length → wr.cell? ⟨og, i, none⟩ = some (.int .u32 (out.getD i 0 : Nat)) := fun i hi => HROW.out.cell rfl i hi
        by_cases hz : gk = 0
        · have hA : decide ((0 : Int) < (gk : Int)) = false := decide_eq_false (by omega)
          have hA2 : (gk : Int) ≤ 0 := by omega
          have HD := Lib.hid (hdone.out (by omega))
          clear hz hdone hrowb
          go_upto_region 9 with fail
          clear hA2
          rename_i hjunk
          clear hjunk
          have hgl' : (gk : Int) ≤ (out.length : Int) := by omega
          have hgl2 : (out.length : Int) ≤ (cap : Int) := by omega
          have hgl3 : (gk : Int) ≤ (cap : Int) := by omega
          have hgl4 : (0 : Int) ≤ (gk : Int) := by omega
          have E1 : Hid (∀ W, Only (fun _ => False) wr W → Nums W wr.heap.size .u32 (some ⟨og, 0, none⟩) gk (out.take gk)) := fun W hW =>
            (nums_of_row HROW.out rfl hgl).only (Nat.le_refl _) hW (fun _ _ hf => hf)
          have E2 : Hid (∀ W, Only (fun _ => False) wr W → Nums W wr.heap.size .u32 (some ⟨og, gk, none⟩) (out.length - gk) (out.drop gk)) := fun W hW =>
            (nums_drop_row HROW.out rfl hgl).only (Nat.le_refl _) hW (fun _ _ hf => hf)
          have E3 : Hid (gk = cap → ∀ W, Nums W wr.heap.size .u32 (some ⟨og, 0, none⟩) (out.length - gk) (out.drop gk)) := fun he W => by
            rw [List.drop_eq_nil_of_le (by omega), show out.length - gk = 0 from by omega]
            exact Nums.nil _ _ _ _
          have Oa : Hid (Only (fun _ => False) wr (wr.alloc (.cells #[] 26)).drew) := ((Only.refl _ wr).alloc _).drew
          have Ob : Hid (Only (fun _ => False) wr ((wr.alloc (.cells #[] 26)).alloc (.cells #[.int .u32 x] 26)).drew) := (((Only.refl _ wr).alloc _).alloc _).drew
          have Oc : Hid (Only (fun _ => False) wr ((wr.alloc (.cells #[.int .u32 x] 26)).alloc (.cells #[] 26)).drew) := (((Only.refl _ wr).alloc _).alloc _).drew
          have Ra : Hid (Row (wr.alloc (.cells #[] 26)).drew 26 .u32 (.slice (some ⟨wr.heap.size, 0, none⟩) 0 0) []) := (row_empty wr _ .u32).only ((Only.refl (fun _ => False) _).drew) (fun _ _ hf => hf)
          have Rb : Hid (Row ((wr.alloc (.cells #[] 26)).alloc (.cells #[.int .u32 x] 26)).drew 26 .u32 (.slice (some ⟨wr.heap.size, 0, none⟩) 0 0) []) := (row_empty wr _ .u32).only (((Only.refl (fun _ => False) _).alloc _).drew) (fun _ _ hf => hf)
          have Rc : Hid (Row ((wr.alloc (.cells #[.int .u32 x] 26)).alloc (.cells #[] 26)).drew 26 .u32 (.slice (some ⟨wr.heap.size + 1, 0, none⟩) 0 0) []) := by
            have h := (row_empty (wr.alloc (.cells #[.int .u32 x] 26)) 26 .u32).only ((Only.refl (fun _ => False) _).drew) (fun _ _ hf => hf)
            rw [show (wr.alloc (.cells #[.int .u32 x] 26)).heap.size = wr.heap.size + 1 from by simp] at h
            exact h
          have Nb : Hid (Nums ((wr.alloc (.cells #[] 26)).alloc (.cells #[.int .u32 x] 26)).drew (wr.heap.size + 2) .u32 (some ⟨wr.heap.size + 1, 0, none⟩) 1 [x]) := by
            have h := nums_one (wr.alloc (.cells #[] 26)) 26 .u32 x
            rw [show (wr.alloc (.cells #[] 26)).heap.size = wr.heap.size + 1 from by simp] at h
            exact h
          have Nc : Hid (Nums ((wr.alloc (.cells #[.int .u32 x] 26)).alloc (.cells #[] 26)).drew (wr.heap.size + 1) .u32 (some ⟨wr.heap.size, 0, none⟩) 1 [x]) :=
            (nums_one wr 26 .u32 x).only (by simp) (((Only.refl (fun _ => False) _).alloc _).drew) (fun _ _ hf => hf)
          have htl : (out.take gk).length = gk := by rw [List.length_take]; omega
          have hol : out.length < 1099511627776 := by omega
          have fin : Hid (∀ v W, Row W 26 .u32 v ((([] ++ out.take gk) ++ [x]) ++ out.drop gk) → (∀ g, v.ownBlock = some g → wr.heap.size ≤ g) → Only (fun _ => False) wr W → ∃ out' og' cap', v = .slice (some ⟨og', 0, none⟩) out'.length cap' ∧ out'.length ≤ cap' ∧ cap' ≤ 9223372036854775807 ∧ w.heap.size ≤ og' ∧ Hid (Row W 26 .u32 (.slice (some ⟨og', 0, none⟩) out'.length cap') out') ∧ Only (fun _ => False) w W ∧ Hid (Rising out' ∧ (∀ k ∈ out', k ∈ xs)) ∧ out'.length = out.length + 1) := fun v W hrow hnew hW => by
            have e : (([] ++ out.take gk) ++ [x]) ++ out.drop gk = out.take gk ++ x :: out.drop gk := by simp
            rw [e] at hrow
            rcases hrow.form with ⟨_, h0⟩ | ⟨g, cp, hv, hc, hlt', hob⟩
            · have := congrArg List.length h0
              rw [hlen'.out] at this
              simp at this
            · refine ⟨_, g, cp, hv, hc, ?_, ?_, by rw [← hv]; exact hrow, hwr.trans hW (fun _ hf _ => hf), HD.out, hlen'.out⟩
              · rcases hrow.2 with ⟨h1, _⟩ | ⟨g1, cap1, cur, h1, _, _, _, hm, _⟩ <;> rw [hv] at h1
                · cases h1
                · injection h1 with _ _ h1; unfold maxLen at hm; omega
              · have := hnew g hob; have := hwr.size; omega
          by_cases hkc : gk = cap
          · have E3' := Lib.hid (E3.out hkc)
            have E3z : Hid (∀ W, Nums W wr.heap.size .u32 (some ⟨og, 0, none⟩) 0 (out.drop gk)) := fun W => by
              rw [List.drop_eq_nil_of_le (by omega)]
              exact Nums.nil _ _ _ _
            subst hkc
            clear E2 E3 HD hlen' hA hhi HX hcell hadb
            go_region_held3 (fun w' => True) (exact trivial) (first
              | (refine step_append_new (w0 := wr) (by rfl) (.tmp 40) (.tmp 43) 24 (by rfl) 26 i0 (.int .u32 0) 4 Tryd.underlying24 hi hz0 hz1 hz2 rfl .u32 _ [] (by rfl) (by first | exact Ra.out | exact Rb.out | exact Rc.out) wr.heap.size (some ⟨og, 0, none⟩) gk _ (out.take gk) (by rfl) (by first | exact E1.out _ Oa.out | exact E1.out _ Ob.out | exact E1.out _ Oc.out) (by simp; omega) (by simp; omega) (by first | exact Oa.out | exact Ob.out | exact Oc.out) (fun g hg => own_ge hg (by simp)) ?_; intro v1 w1 hrow1 hon1 hw1 hnew1 hkeep1)
              | (refine step_append_new (w0 := wr) (by rfl) (.tmp 44) (.tmp 46) 24 (by rfl) 26 i0 (.int .u32 0) 4 Tryd.underlying24 hi hz0 hz1 hz2 rfl .u32 v1 ([] ++ out.take gk) (by rfl) (by first | exact hrow1 | exact hrow1.only ((Only.refl (fun _ => False) _).alloc _) (fun _ _ hf => hf)) _ _ 1 1 [x] (by rfl) (by first | exact nums_one w1 26 .u32 x | exact Nb.out.only (by simp) hon1 (by rintro ad ⟨⟩; simp [Value.ownBlock]) | exact Nc.out.only (by simp) hon1 (by rintro ad ⟨⟩; simp [Value.ownBlock])) (by simp; omega) (by simp; omega) (by first | exact hw1 | exact hw1.alloc _) hnew1 ?_; intro v2 w2 hrow2 hon2 hw2 hnew2 hkeep2)
              | (refine step_append_new (w0 := wr) (by rfl) (.tmp 47) (.tmp 50) 24 (by rfl) 26 i0 (.int .u32 0) 4 Tryd.underlying24 hi hz0 hz1 hz2 rfl .u32 v2 (([] ++ out.take gk) ++ [x]) (by rfl) hrow2 wr.heap.size (some ⟨og, 0, none⟩) _ _ (out.drop gk) (by rfl) (E3'.out w2) (by simp; omega) (by simp; omega) hw2 hnew2 ?_; intro v3 w3 hrow3 hon3 hw3 hnew3 hkeep3)
              | (refine step_append_new (w0 := wr) (by rfl) (.tmp 47) (.tmp 50) 24 (by rfl) 26 i0 (.int .u32 0) 4 Tryd.underlying24 hi hz0 hz1 hz2 rfl .u32 v2 (([] ++ out.take gk) ++ [x]) (by rfl) hrow2 wr.heap.size (some ⟨og, 0, none⟩) _ _ (out.drop gk) (by rfl) (E3z.out w2) (by simp; omega) (by simp; omega) hw2 hnew2 ?_; intro v3 w3 hrow3 hon3 hw3 hnew3 hkeep3)
              | fail)
            all_goals
              go_wp2_with fail
              go_roundg (n - (t + 1))
              case measure => omega
              case rel =>
                obtain ⟨out', og', cap', rfl, k1, k2, k3, k4, k5, k6, k7⟩ := fin.out v3 w3 hrow3 hnew3 hw3
                exact ⟨t + 1, out', og', cap', by omega, by go_num, rfl, k1, k2, k3, k4.out, k5, k6, by omega⟩
          · have hgc : (gk : Int) < (cap : Int) := by omega
            have hne2 : ¬ cap = gk := by omega
            clear hkc E3 HD hlen' hA hhi HX hcell hadb
            go_region_held3 (fun w' => True) (exact trivial) (first
              | (refine step_append_new (w0 := wr) (by rfl) (.tmp 40) (.tmp 43) 24 (by rfl) 26 i0 (.int .u32 0) 4 Tryd.underlying24 hi hz0 hz1 hz2 rfl .u32 _ [] (by rfl) (by first | exact Ra.out | exact Rb.out | exact Rc.out) wr.heap.size (some ⟨og, 0, none⟩) gk _ (out.take gk) (by rfl) (by first | exact E1.out _ Oa.out | exact E1.out _ Ob.out | exact E1.out _ Oc.out) (by simp; omega) (by simp; omega) (by first | exact Oa.out | exact Ob.out | exact Oc.out) (fun g hg => own_ge hg (by simp)) ?_; intro v1 w1 hrow1 hon1 hw1 hnew1 hkeep1)
              | (refine step_append_new (w0 := wr) (by rfl) (.tmp 44) (.tmp 46) 24 (by rfl) 26 i0 (.int .u32 0) 4 Tryd.underlying24 hi hz0 hz1 hz2 rfl .u32 v1 ([] ++ out.take gk) (by rfl) (by first | exact hrow1 | exact hrow1.only ((Only.refl (fun _ => False) _).alloc _) (fun _ _ hf => hf)) _ _ 1 1 [x] (by rfl) (by first | exact nums_one w1 26 .u32 x | exact Nb.out.only (by simp) hon1 (by rintro ad ⟨⟩; simp [Value.ownBlock]) | exact Nc.out.only (by simp) hon1 (by rintro ad ⟨⟩; simp [Value.ownBlock])) (by simp; omega) (by simp; omega) (by first | exact hw1 | exact hw1.alloc _) hnew1 ?_; intro v2 w2 hrow2 hon2 hw2 hnew2 hkeep2)
              | (refine step_append_new (w0 := wr) (by rfl) (.tmp 47) (.tmp 50) 24 (by rfl) 26 i0 (.int .u32 0) 4 Tryd.underlying24 hi hz0 hz1 hz2 rfl .u32 v2 (([] ++ out.take gk) ++ [x]) (by rfl) hrow2 wr.heap.size (some ⟨og, gk, none⟩) _ _ (out.drop gk) (by rfl) (E2.out w2 hw2) (by simp; omega) (by simp; omega) hw2 hnew2 ?_; intro v3 w3 hrow3 hon3 hw3 hnew3 hkeep3)
              | fail)
            all_goals
              go_wp2_with fail
              go_roundg (n - (t + 1))
              case measure => omega
              case rel =>
                obtain ⟨out', og', cap', rfl, k1, k2, k3, k4, k5, k6, k7⟩ := fin.out v3 w3 hrow3 hnew3 hw3
                exact ⟨t + 1, out', og', cap', by omega, by go_num, rfl, k1, k2, k3, k4.out, k5, k6, by omega⟩
        · obtain ⟨j, hj⟩ : ∃ j, gk = j + 1 := ⟨gk - 1, by omega⟩
          have hA : (0 : Int) < (gk : Int) := by omega
          have hA3 : decide ((0 : Int) < (gk : Int)) = true := decide_eq_true hA
          have hsub : (gk : Int) - 1 = (j : Int) := by omega
          have hjl : j < out.length := by omega
          have hjl2 : (j : Int) < ((out.length : Nat) : Int) := by omega
          have hcj := hrowb j hjl
          obtain ⟨y, hy⟩ : ∃ y, out.getD j 0 = y := ⟨_, rfl⟩
          rw [hy] at hcj
          have HY := Lib.hid hy
          have HJ := Lib.hid hj
          by_cases hxy : x < y
          · clear hz hdone hrowb hj hy
            go_wp2_with fail
            go_roundg j
            case measure => have := HJ.out; omega
            case rel =>
              refine ⟨rfl, by omega, rfl, fun i h1 h2 => ?_⟩
              rcases Nat.eq_or_lt_of_le h1 with h | h
              · rw [← h, HY.out]; exact hxy
              · exact hhi.out i (by have := HJ.out; omega) h2
          · by_cases hyx : y = x
            · have hyb : ((y : Int) == (x : Int)) = true := by rw [beq_iff_eq]; omega
              have hxy2 : ¬ (x : Int) < (y : Int) := by omega
              clear hz hdone hrowb hj hy hyx
              go_wp2_with fail
              go_roundg (n - (t + 1))
              case measure => omega
              case rel => exact ⟨t + 1, out, og, cap, by omega, by go_num, rfl, hcap, hcm, hog, HROW.out, hwr, hI, by omega⟩
            · have HD := Lib.hid (hdone.out (by intro _; rw [show gk - 1 = j from by omega, hy]; omega))
              clear hz hdone hrowb hj hy
              go_upto_region 9 with fail
              clear hjl hjl2 hcj hsub hA3 hxy hyx
              rename_i hj1 hj2
              clear hj1 hj2
              have hgl' : (gk : Int) ≤ (out.length : Int) := by omega
              have hgl2 : (out.length : Int) ≤ (cap : Int) := by omega
              have hgl3 : (gk : Int) ≤ (cap : Int) := by omega
              have hgl4 : (0 : Int) ≤ (gk : Int) := by omega
              have E1 : Hid (∀ W, Only (fun _ => False) wr W → Nums W wr.heap.size .u32 (some ⟨og, 0, none⟩) gk (out.take gk)) := fun W hW =>
                (nums_of_row HROW.out rfl hgl).only (Nat.le_refl _) hW (fun _ _ hf => hf)
              have E2 : Hid (∀ W, Only (fun _ => False) wr W → Nums W wr.heap.size .u32 (some ⟨og, gk, none⟩) (out.length - gk) (out.drop gk)) := fun W hW =>
                (nums_drop_row HROW.out rfl hgl).only (Nat.le_refl _) hW (fun _ _ hf => hf)
              have E3 : Hid (gk = cap → ∀ W, Nums W wr.heap.size .u32 (some ⟨og, 0, none⟩) (out.length - gk) (out.drop gk)) := fun he W => by
                rw [List.drop_eq_nil_of_le (by omega), show out.length - gk = 0 from by omega]
                exact Nums.nil _ _ _ _
              have Oa : Hid (Only (fun _ => False) wr (wr.alloc (.cells #[] 26)).drew) := ((Only.refl _ wr).alloc _).drew
              have Ob : Hid (Only (fun _ => False) wr ((wr.alloc (.cells #[] 26)).alloc (.cells #[.int .u32 x] 26)).drew) := (((Only.refl _ wr).alloc _).alloc _).drew
              have Oc : Hid (Only (fun _ => False) wr ((wr.alloc (.cells #[.int .u32 x] 26)).alloc (.cells #[] 26)).drew) := (((Only.refl _ wr).alloc _).alloc _).drew
              have Ra : Hid (Row (wr.alloc (.cells #[] 26)).drew 26 .u32 (.slice (some ⟨wr.heap.size, 0, none⟩) 0 0) []) := (row_empty wr _ .u32).only ((Only.refl (fun _ => False) _).drew) (fun _ _ hf => hf)
              have Rb : Hid (Row ((wr.alloc (.cells #[] 26)).alloc (.cells #[.int .u32 x] 26)).drew 26 .u32 (.slice (some ⟨wr.heap.size, 0, none⟩) 0 0) []) := (row_empty wr _ .u32).only (((Only.refl (fun _ => False) _).alloc _).drew) (fun _ _ hf => hf)
              have Rc : Hid (Row ((wr.alloc (.cells #[.int .u32 x] 26)).alloc (.cells #[] 26)).drew 26 .u32 (.slice (some ⟨wr.heap.size + 1, 0, none⟩) 0 0) []) := by
                have h := (row_empty (wr.alloc (.cells #[.int .u32 x] 26)) 26 .u32).only ((Only.refl (fun _ => False) _).drew) (fun _ _ hf => hf)
                rw [show (wr.alloc (.cells #[.int .u32 x] 26)).heap.size = wr.heap.size + 1 from by simp] at h
                exact h
              have Nb : Hid (Nums ((wr.alloc (.cells #[] 26)).alloc (.cells #[.int .u32 x] 26)).drew (wr.heap.size + 2) .u32 (some ⟨wr.heap.size + 1, 0, none⟩) 1 [x]) := by
                have h := nums_one (wr.alloc (.cells #[] 26)) 26 .u32 x
                rw [show (wr.alloc (.cells #[] 26)).heap.size = wr.heap.size + 1 from by simp] at h
                exact h
              have Nc : Hid (Nums ((wr.alloc (.cells #[.int .u32 x] 26)).alloc (.cells #[] 26)).drew (wr.heap.size + 1) .u32 (some ⟨wr.heap.size, 0, none⟩) 1 [x]) :=
                (nums_one wr 26 .u32 x).only (by simp) (((Only.refl (fun _ => False) _).alloc _).drew) (fun _ _ hf => hf)
              have htl : (out.take gk).length = gk := by rw [List.length_take]; omega
              have hol : out.length < 1099511627776 := by omega
              have fin : Hid (∀ v W, Row W 26 .u32 v ((([] ++ out.take gk) ++ [x]) ++ out.drop gk) → (∀ g, v.ownBlock = some g → wr.heap.size ≤ g) → Only (fun _ => False) wr W → ∃ out' og' cap', v = .slice (some ⟨og', 0, none⟩) out'.length cap' ∧ out'.length ≤ cap' ∧ cap' ≤ 9223372036854775807 ∧ w.heap.size ≤ og' ∧ Hid (Row W 26 .u32 (.slice (some ⟨og', 0, none⟩) out'.length cap') out') ∧ Only (fun _ => False) w W ∧ Hid (Rising out' ∧ (∀ k ∈ out', k ∈ xs)) ∧ out'.length = out.length + 1) := fun v W hrow hnew hW => by
                have e : (([] ++ out.take gk) ++ [x]) ++ out.drop gk = out.take gk ++ x :: out.drop gk := by simp
                rw [e] at hrow
                rcases hrow.form with ⟨_, h0⟩ | ⟨g, cp, hv, hc, hlt', hob⟩
                · have := congrArg List.length h0
                  rw [hlen'.out] at this
                  simp at this
                · refine ⟨_, g, cp, hv, hc, ?_, ?_, by rw [← hv]; exact hrow, hwr.trans hW (fun _ hf _ => hf), HD.out, hlen'.out⟩
                  · rcases hrow.2 with ⟨h1, _⟩ | ⟨g1, cap1, cur, h1, _, _, _, hm, _⟩ <;> rw [hv] at h1
                    · cases h1
                    · injection h1 with _ _ h1; unfold maxLen at hm; omega
                  · have := hnew g hob; have := hwr.size; omega
              by_cases hkc : gk = cap
              · have E3' := Lib.hid (E3.out hkc)
                have E3z : Hid (∀ W, Nums W wr.heap.size .u32 (some ⟨og, 0, none⟩) 0 (out.drop gk)) := fun W => by
                  rw [List.drop_eq_nil_of_le (by omega)]
                  exact Nums.nil _ _ _ _
                subst hkc
                clear E2 E3 HD hlen' hhi HX hcell hadb
                go_region_held3 (fun w' => True) (exact trivial) (first
                  | (refine step_append_new (w0 := wr) (by rfl) (.tmp 40) (.tmp 43) 24 (by rfl) 26 i0 (.int .u32 0) 4 Tryd.underlying24 hi hz0 hz1 hz2 rfl .u32 _ [] (by rfl) (by first | exact Ra.out | exact Rb.out | exact Rc.out) wr.heap.size (some ⟨og, 0, none⟩) gk _ (out.take gk) (by rfl) (by first | exact E1.out _ Oa.out | exact E1.out _ Ob.out | exact E1.out _ Oc.out) (by simp; omega) (by simp; omega) (by first | exact Oa.out | exact Ob.out | exact Oc.out) (fun g hg => own_ge hg (by simp)) ?_; intro v1 w1 hrow1 hon1 hw1 hnew1 hkeep1)
                  | (refine step_append_new (w0 := wr) (by rfl) (.tmp 44) (.tmp 46) 24 (by rfl) 26 i0 (.int .u32 0) 4 Tryd.underlying24 hi hz0 hz1 hz2 rfl .u32 v1 ([] ++ out.take gk) (by rfl) (by first | exact hrow1 | exact hrow1.only ((Only.refl (fun _ => False) _).alloc _) (fun _ _ hf => hf)) _ _ 1 1 [x] (by rfl) (by first | exact nums_one w1 26 .u32 x | exact Nb.out.only (by simp) hon1 (by rintro ad ⟨⟩; simp [Value.ownBlock]) | exact Nc.out.only (by simp) hon1 (by rintro ad ⟨⟩; simp [Value.ownBlock])) (by simp; omega) (by simp; omega) (by first | exact hw1 | exact hw1.alloc _) hnew1 ?_; intro v2 w2 hrow2 hon2 hw2 hnew2 hkeep2)
                  | (refine step_append_new (w0 := wr) (by rfl) (.tmp 47) (.tmp 50) 24 (by rfl) 26 i0 (.int .u32 0) 4 Tryd.underlying24 hi hz0 hz1 hz2 rfl .u32 v2 (([] ++ out.take gk) ++ [x]) (by rfl) hrow2 wr.heap.size (some ⟨og, 0, none⟩) _ _ (out.drop gk) (by rfl) (E3'.out w2) (by simp; omega) (by simp; omega) hw2 hnew2 ?_; intro v3 w3 hrow3 hon3 hw3 hnew3 hkeep3)
                  | (refine step_append_new (w0 := wr) (by rfl) (.tmp 47) (.tmp 50) 24 (by rfl) 26 i0 (.int .u32 0) 4 Tryd.underlying24 hi hz0 hz1 hz2 rfl .u32 v2 (([] ++ out.take gk) ++ [x]) (by rfl) hrow2 wr.heap.size (some ⟨og, 0, none⟩) _ _ (out.drop gk) (by rfl) (E3z.out w2) (by simp; omega) (by simp; omega) hw2 hnew2 ?_; intro v3 w3 hrow3 hon3 hw3 hnew3 hkeep3)
                  | fail)
                all_goals
                  go_wp2_with fail
                  go_roundg (n - (t + 1))
                  case measure => omega
                  case rel =>
                    obtain ⟨out', og', cap', rfl, k1, k2, k3, k4, k5, k6, k7⟩ := fin.out v3 w3 hrow3 hnew3 hw3
                    exact ⟨t + 1, out', og', cap', by omega, by go_num, rfl, k1, k2, k3, k4.out, k5, k6, by omega⟩
              · have hgc : (gk : Int) < (cap : Int) := by omega
                have hne2 : ¬ cap = gk := by omega
                clear hkc E3 HD hlen' hhi HX hcell hadb
                go_region_held3 (fun w' => True) (exact trivial) (first
                  | (refine step_append_new (w0 := wr) (by rfl) (.tmp 40) (.tmp 43) 24 (by rfl) 26 i0 (.int .u32 0) 4 Tryd.underlying24 hi hz0 hz1 hz2 rfl .u32 _ [] (by rfl) (by first | exact Ra.out | exact Rb.out | exact Rc.out) wr.heap.size (some ⟨og, 0, none⟩) gk _ (out.take gk) (by rfl) (by first | exact E1.out _ Oa.out | exact E1.out _ Ob.out | exact E1.out _ Oc.out) (by simp; omega) (by simp; omega) (by first | exact Oa.out | exact Ob.out | exact Oc.out) (fun g hg => own_ge hg (by simp)) ?_; intro v1 w1 hrow1 hon1 hw1 hnew1 hkeep1)
                  | (refine step_append_new (w0 := wr) (by rfl) (.tmp 44) (.tmp 46) 24 (by rfl) 26 i0 (.int .u32 0) 4 Tryd.underlying24 hi hz0 hz1 hz2 rfl .u32 v1 ([] ++ out.take gk) (by rfl) (by first | exact hrow1 | exact hrow1.only ((Only.refl (fun _ => False) _).alloc _) (fun _ _ hf => hf)) _ _ 1 1 [x] (by rfl) (by first | exact nums_one w1 26 .u32 x | exact Nb.out.only (by simp) hon1 (by rintro ad ⟨⟩; simp [Value.ownBlock]) | exact Nc.out.only (by simp) hon1 (by rintro ad ⟨⟩; simp [Value.ownBlock])) (by simp; omega) (by simp; omega) (by first | exact hw1 | exact hw1.alloc _) hnew1 ?_; intro v2 w2 hrow2 hon2 hw2 hnew2 hkeep2)
                  | (refine step_append_new (w0 := wr) (by rfl) (.tmp 47) (.tmp 50) 24 (by rfl) 26 i0 (.int .u32 0) 4 Tryd.underlying24 hi hz0 hz1 hz2 rfl .u32 v2 (([] ++ out.take gk) ++ [x]) (by rfl) hrow2 wr.heap.size (some ⟨og, gk, none⟩) _ _ (out.drop gk) (by rfl) (E2.out w2 hw2) (by simp; omega) (by simp; omega) hw2 hnew2 ?_; intro v3 w3 hrow3 hon3 hw3 hnew3 hkeep3)
                  | fail)
                all_goals
                  go_wp2_with fail
                  go_roundg (n - (t + 1))
                  case measure => omega
                  case rel =>
                    obtain ⟨out', og', cap', rfl, k1, k2, k3, k4, k5, k6, k7⟩ := fin.out v3 w3 hrow3 hnew3 hw3
                    exact ⟨t + 1, out', og', cap', by omega, by go_num, rfl, k1, k2, k3, k4.out, k5, k6, by omega⟩
    · have ht : t = n := by omega
      go_wp2_with fail
      go_ret
      exact ⟨_, out, rfl, hrow, hwr, hI.out.1, hI.out.2, by omega⟩
end Go.Proofs.YtoegfdndoeiolaaDoor

/- Walks: a sketch is made. Condition: the variable of the error holds an error. -/
namespace Go.Proofs.YtoegfdndoeiolaaDoor
open Go.RowKit

/-- The variable of the error of a wrong number of bits holds an error. -/
def ErrP (w : World) : Prop := ∃ a, w.cell? ⟨4, 0, none⟩ = some (.iface 152 (.pointer (some a)))
theorem ErrP.only {S : Nat → Prop} {w w' : World} (h : ErrP w) (ho : Only S w w') (h1 : ¬ S 4) : ErrP w' := by
  obtain ⟨a, ha⟩ := h
  exact ⟨a, (ho.cell (World.block_lt_of_cell? w _ ha) h1).trans ha⟩

theorem checkPrecision_ok (p : Nat) (w : World) (h1 : 4 ≤ p) (h2 : p ≤ 18) :
    Calls Tryd.prog 54 #[.int .u8 p] w fun e w' => e = .returned .nilIface ∧ w = w' := by
  go_enter Tryd.func54, Tryd.ntmps54
  go_wp2
  go_ret
  exact ⟨rfl, rfl⟩
theorem checkPrecision_bad (p : Nat) (w : World) (h : p < 4 ∨ 18 < p) (he : ErrP w) :
    Calls Tryd.prog 54 #[.int .u8 p] w fun e w' => Fails e ∧ w = w' := by
  obtain ⟨a, ha⟩ := he
  rcases h with h | h
  · go_enter Tryd.func54, Tryd.ntmps54
    go_wp2
    go_ret
    exact ⟨⟨a, rfl⟩, rfl⟩
  · go_enter Tryd.func54, Tryd.ntmps54
    go_wp2
    go_ret
    exact ⟨⟨a, rfl⟩, rfl⟩

theorem run_float (P : Program) (op : BinOp) (h : op = .quo ∨ op = .add) (t : TypeId) (a b : Nat) (W : World) : ∃ c n, (binOp op t (.float .f64 a) (.float .f64 b)).run P W = .ok (.float .f64 c) (W.drewN n) := by
  rcases h with rfl | rfl
  · cases hr : FloatKind.f64.format.div a b with
    | some r => exact ⟨r, 0, by simp [binOp, Op.floatArith, hr]; rfl⟩
    | none =>
      simp [binOp, Op.floatArith, hr]
      split
      · exact ⟨0, 0, rfl⟩
      · exact ⟨_, 1, rfl⟩
  · cases hr : FloatKind.f64.format.add a b with
    | some r => exact ⟨r, 0, by simp [binOp, Op.floatArith, hr]; rfl⟩
    | none =>
      simp [binOp, Op.floatArith, hr]
      split
      · exact ⟨0, 0, rfl⟩
      · exact ⟨_, 1, rfl⟩

theorem alpha_any (x : Nat) (w : World) :
    Calls Tryd.prog 55 #[.float .f64 x] w fun e w' => (∃ v, e = .returned (.float .f64 v)) ∧ ∃ n, w' = w.drewN n := by
  obtain ⟨c1, n1, e1⟩ := run_float Tryd.prog .quo (.inl rfl) 68 4607538203170579677 x w
  obtain ⟨c2, n2, e2⟩ := run_float Tryd.prog .add (.inr rfl) 68 4607182418800017408 c1 (w.drewN n1)
  obtain ⟨c3, n3, e3⟩ := run_float Tryd.prog .quo (.inl rfl) 68 4604672112367721094 c2 (w.drewN (n1 + n2))
  go_enter Tryd.func55, Tryd.ntmps55
  go_wp2
  · go_ret
    exact ⟨⟨_, rfl⟩, 0, rfl⟩
  · go_ret
    exact ⟨⟨_, rfl⟩, 0, rfl⟩
  · go_ret
    exact ⟨⟨_, rfl⟩, 0, rfl⟩
  · go_ret
    exact ⟨⟨_, rfl⟩, _, rfl⟩
end Go.Proofs.YtoegfdndoeiolaaDoor

/- Walks: the law that keys are read back from their differences: it returns true. Condition: the variables of the errors hold errors. -/
namespace Go.Proofs.YtoegfdndoeiolaaDoor
open Go.RowKit

theorem run_len_slice {P : Program} (t ty e : TypeId) (ht : P.underlying t = some (.slice e)) (A : Option Addr) (n c : Nat) (W : World) :
    (Builtin.len_ #[t] ty #[.slice A n c]).run P W = .ok (.int .i64 (n : Int)) W := by
  unfold Builtin.len_
  simp [run_underlying ht, goInt]

theorem lawUnpacked_long (A : Option Addr) (n c p : Nat) (w : World) (h : 2147483647 < n) :
    Calls Tryd.prog 3 #[.slice A n c, .int .u8 p] w fun e w' => e = .returned (.bool true) ∧ Below w.heap.size w w' := by
  go_enter Tryd.func3, Tryd.ntmps3
  go_wp2
  go_ret
  exact ⟨rfl, Below.refl _ _⟩

theorem lawUnpacked_not (A : Option Addr) (n c p : Nat) (w : World) (hn : n ≤ 2147483647) (h : p < 4 ∨ 18 < p) :
    Calls Tryd.prog 3 #[.slice A n c, .int .u8 p] w fun e w' => e = .returned (.bool true) ∧ Below w.heap.size w w' := by
  have HR := Lib.hid (Right_no p w h)
  have hn' : ¬ (2147483647 : Int) < (n : Int) := by omega
  clear hn
  go_enter Tryd.func3, Tryd.ntmps3
  go_wp2_with (go_at_call 14; refine HR.out.mono ?_; rintro e w' ⟨rfl, rfl⟩)
  go_ret
  exact ⟨rfl, Below.refl _ _⟩

theorem lawUnpacked_many (A : Option Addr) (n c p : Nat) (w : World) (hn : n ≤ 2147483647) (h1 : 4 ≤ p) (h2 : p ≤ 18) (h : 33554432 ≤ n) :
    Calls Tryd.prog 3 #[.slice A n c, .int .u8 p] w fun e w' => e = .returned (.bool true) ∧ Below w.heap.size w w' := by
  have HR := Lib.hid (Right_yes p w h1 h2)
  have hn' : decide ((2147483647 : Int) < (n : Int)) = false := decide_eq_false (by omega)
  have hb : decide ((33554432 : Int) ≤ (n : Int)) = true := decide_eq_true (by omega)
  clear hn h
  go_enter Tryd.func3, Tryd.ntmps3
  go_wp2_with (go_at_call 14; refine HR.out.mono ?_; rintro e w' ⟨rfl, rfl⟩)
  go_ret
  exact ⟨rfl, Below.refl _ _⟩

set_option maxHeartbeats 1000000 in
set_option maxRecDepth 100000 in
theorem lawUnpacked_any (A : Option Addr) (n c p : Nat) (xs : List Nat) (w : World) (hxs : Nums w w.heap.size .u64 A n xs) (hx64 : ∀ x ∈ xs, x < 18446744073709551616) (hn : n < 33554432) (h1 : 4 ≤ p) (h2 : p ≤ 18) (he : Errs w) :
    Calls Tryd.prog 3 #[.slice A n c, .int .u8 p] w fun e w' => e = .returned (.bool true) ∧ Below w.heap.size w w' := by
  obtain ⟨i0, hi, hz0, hz1, hz2⟩ := info_parts info_u32
  have HR := Lib.hid (Right_yes p w h1 h2)
  have hn' : decide ((2147483647 : Int) < (n : Int)) = false := decide_eq_false (by omega)
  have hb : decide ((33554432 : Int) ≤ (n : Int)) = false := decide_eq_false (by omega)
  have HN : Hid (n < 33554432) := hn
  have hn2 : n < 1099511627776 := by omega
  have hxl := hxs.1
  have HX := Lib.hid hxs
  have H64 := Lib.hid hx64
  have HE := Lib.hid he
  clear hn hxs hx64 he
  go_enter Tryd.func3, Tryd.ntmps3
  go_wp2_with (go_at_call 14; refine HR.out.mono ?_; rintro e w' ⟨rfl, rfl⟩)
  go_loopg [5, 25] n (fun g s5 s25 wr => ∃ t, g + t = n ∧ s25 = .int .i64 (t : Nat) ∧ Row wr 26 .u32 s5 ((xs.take t).map (encN · p)) ∧ (∀ g, s5.ownBlock = some g → w.heap.size ≤ g) ∧ Only (fun _ => False) w wr)
  case atStart => exact ⟨0, by omega, rfl, row_empty w _ _, fun g hg => own_ge hg (Nat.le_refl _), (Only.refl _ w).alloc _⟩
  case round =>
    obtain ⟨t, hg, rfl, hrow, hnew, hwr⟩ := hrel
    by_cases hlt : t < n
    · obtain ⟨x, hxd⟩ : ∃ x, xs.getD t 0 = x := ⟨_, rfl⟩
      obtain ⟨ad, rfl, hadb, hcell⟩ := (HX.out.only (Nat.le_refl _) hwr (fun _ _ hf => hf)).at_ hlt
      rw [hxd] at hcell
      have hx64 : x < 18446744073709551616 := by rw [← hxd]; exact H64.out _ (getD_mem (by omega))
      have htake : (xs.take (t + 1)).map (encN · p) = (xs.take t).map (encN · p) ++ [encN x p] := by
        rw [list_take_succ xs t (by omega), hxd, List.map_append]; rfl
      have HT := Lib.hid htake
      have HC := Lib.hid (implEncodeHash_any x p wr hx64 h1 h2)
      have hel : ((xs.take t).map (encN · p)).length = t := by rw [List.length_map, List.length_take]; omega
      obtain ⟨es, hes⟩ : ∃ es, es = (xs.take t).map (encN · p) := ⟨_, rfl⟩
      rw [← hes] at hrow hel htake
      have HES := Lib.hid hes
      clear htake hxd hes
      go_wp2_with (first
        | (go_at_call 15; refine HC.out.mono ?_; rintro e w' ⟨rfl, rfl⟩)
        | (at_builtin; go_must (refine wpList_append_one rfl (.tmp 29) (.tmp 33) 24 rfl 26 i0 (.int .u32 0) 4 Tryd.underlying24 hi hz0 hz1 hz2 rfl .u32 u5 es rfl hrow (encN x p) 1 26 rfl ?c4 ?c5 ?_)))
      case c4 => omega
      case c5 => omega
      intro v' w1 hrow1 hon1 hlies1
      go_wp2
      go_roundg (n - (t + 1))
      case measure => omega
      case rel =>
        refine ⟨t + 1, by omega, by go_num, by rw [HT.out, ← HES.out]; exact hrow1, fun g hg => ?_, hwr.trans hon1 (fun g hg hlt => by have := hnew g hg; omega)⟩
        rcases hlies1 with h | ⟨g', h, hge⟩ <;> rw [hg] at h
        · exact hnew g h.symm
        · injection h with h; have := hwr.size; omega
    · have ht : t = n := by omega
      subst ht
      rw [← hxl, List.take_length] at hrow
      obtain ⟨A1, c1, rfl, hc1, hn1, hA1, _⟩ := hrow.nums
      have hml : (xs.map (encN · p)).length = t := by rw [List.length_map, hxl]
      rw [hml] at hn1 hrow
      have HS := Lib.hid (Sorted_any A1 t c1 (xs.map (encN · p)) wr hn1 (fun k hk => by
        obtain ⟨x, hx, rfl⟩ := List.mem_map.1 hk
        exact enc_lt x p (H64.out x hx)) hn2)
      have HO1 : Hid (Only (fun _ => False) w wr) := hwr
      clear hrow hn1 hc1 hA1 HR hwr
      go_wp2_with (go_at_call 16; refine HS.out.mono ?_; rintro e w2 ⟨v2, ks, rfl, hrow2, hon2, hris, hmem, hkl⟩)
      have hval : Valid p ks := ⟨hris, fun k hk => by
        obtain ⟨x, hx, rfl⟩ := List.mem_map.1 (hmem k hk)
        exact okKey_enc x p (H64.out x hx) h1 h2, by have := HN.out; omega⟩
      obtain ⟨A2, c2, rfl, hc2, hn2', _, _⟩ := hrow2.nums
      have hw2 : Only (fun _ => False) w w2 := HO1.out.trans hon2 (fun _ hf _ => hf)
      have HU := Lib.hid (implUnpacked_any A2 ks.length c2 p ks w2 hn2' h1 h2 (HE.out.only hw2 (fun hf => hf) (fun hf => hf)) hval)
      have HN2 := Lib.hid hn2'
      have HW2 := Lib.hid hw2
      have hkl2 : ks.length < 1099511627776 := by omega
      clear hrow2 hon2 hris hmem hval hn2' hc2 hw2 HS hkl
      go_wp2_with (go_at_call 17; refine HU.out.mono ?_; rintro e w3 ⟨v3, rfl, hrow3, hon3, hnew3⟩)
      obtain ⟨A3, c3, rfl, hc3, hn3, _, _⟩ := hrow3.nums
      have HN3 := Lib.hid hn3
      have HW3 : Hid (Only (fun _ => False) w w3) := HW2.out.trans hon3 (fun _ hf _ => hf)
      have HN2' : Hid (Nums w3 w2.heap.size .u32 A2 ks.length ks) := HN2.out.only (Nat.le_refl _) hon3 (fun _ _ hf => hf)
      clear hrow3 hnew3 hn3 hc3 HU hon3 HN2
      clear hg hlt hml hxl
      go_wp2_with fail
      go_simp
      go_wp2_with fail
      go_loopg [55] ks.length (fun g s55 wr => ∃ i, g + i = ks.length ∧ s55 = .int .i64 (i : Nat) ∧ ∃ q, wr = w3.drewN q)
      case atStart => exact ⟨0, by omega, rfl, 0, rfl⟩
      case round =>
        obtain ⟨i, hgi, rfl, q, rfl⟩ := hrel
        by_cases hlt : i < ks.length
        · obtain ⟨a3, rfl, _, hcell3⟩ := HN3.out.at_ hlt
          obtain ⟨a2, rfl, _, hcell2⟩ := HN2'.out.at_ hlt
          obtain ⟨x, hx⟩ : ∃ x, ks.getD i 0 = x := ⟨_, rfl⟩
          rw [hx] at hcell3 hcell2
          have hli : (i : Int) < ((ks.length : Nat) : Int) := by omega
          have hl0 : (0 : Int) ≤ (i : Int) := by omega
          clear hx HN3 HN2' HX
          go_wp2_with fail
          go_quiet (fail)
          go_wp2_with fail
          go_roundg (ks.length - (i + 1))
          case measure => omega
          case rel => exact ⟨i + 1, by omega, by go_num, _, rfl⟩
        · have hP : Calls Tryd.prog 18 #[.int .u32 1] (w3.drewN q) fun e w' => (∃ A4 c4, e = .returned (.slice A4 1 c4)) ∧ Only (fun _ => False) w w' := by
            refine (PutVarint_any 1 (w3.drewN q) (by omega)).mono ?_
            rintro e w4 ⟨v4, rfl, hrow4, hon4⟩
            obtain ⟨A4, c4, rfl, _⟩ := hrow4.nums
            have h1 : (varint 1).length = 1 := by rw [varint_small (by omega)]; rfl
            exact ⟨⟨A4, c4, by rw [h1]⟩, (HW3.out.drewN q).trans hon4 (fun _ hf _ => hf)⟩
          have HP := Lib.hid hP
          clear HN3 HN2' HX hP
          go_wp2_with (go_at_call 18; refine HP.out.mono ?_; rintro e w4 ⟨⟨A4, c4, rfl⟩, hon4⟩)
          go_ret
          exact ⟨rfl, hon4.new⟩
end Go.Proofs.YtoegfdndoeiolaaDoor
