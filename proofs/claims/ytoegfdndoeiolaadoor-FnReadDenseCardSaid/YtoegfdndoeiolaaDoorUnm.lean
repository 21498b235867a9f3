/- Walks: a compressed list is read from bytes: it is read where the bytes are those of a list of keys, and refused elsewhere. Conditions: the bytes are bytes; the variables of the errors hold errors. -/
import Derived.Test.YtoegfdndoeiolaaDoorPlainList
import Derived.Test.YtoegfdndoeiolaaDoorZPack
import Derived.Deep.DeepCutAuto
import Derived.Laws.CopyOwn
namespace Go.Proofs.YtoegfdndoeiolaaDoor
open Go.RowKit

section
variable {w : World} {B n m : Nat} {k : IntKind} {xs : List Nat} {a : Addr}
theorem Nums.take (h : Nums w B k (some a) n xs) (hm : m ≤ n) : Nums w B k (some a) m (xs.take m) := by
  refine ⟨by rw [List.length_take]; have := h.1; omega, fun h0 => ?_⟩
  obtain ⟨ad, e, hb, hc⟩ := h.2 (by omega)
  refine ⟨ad, e, hb, fun j x hx => hc j x ?_⟩
  have hj : j < m := by have := (List.getElem?_eq_some_iff.1 hx).1; rw [List.length_take] at this; omega
  rwa [List.getElem?_take_of_lt hj] at hx
theorem Nums.drop (h : Nums w B k (some a) n xs) (h0 : 0 < m) : Nums w B k (some ⟨a.block, a.off + m, none⟩) (n - m) (xs.drop m) := by
  refine ⟨by rw [List.length_drop, h.1], fun hn => ?_⟩
  obtain ⟨ad, e, hb, hc⟩ := h.2 (by omega)
  injection e with e
  subst e
  refine ⟨_, rfl, hb, fun j x hx => ?_⟩
  rw [List.getElem?_drop] at hx
  have := hc _ x hx
  have hm0 : ¬ m = 0 := by omega
  rw [← add_of_add, show (a.add m) = ⟨a.block, a.off + m, none⟩ from by unfold Addr.add; rw [if_neg hm0]] at this
  exact this
theorem Nums.drewN (h : Nums w B k (some a) n xs) (q : Nat) : Nums (w.drewN q) B k (some a) n xs := h
end
/-- Four bytes at the front, read in whatever draws have been made. -/
theorem be32_quiet (a : Addr) (n c B x : Nat) (r : List Nat) (w : World) (h : Nums w B .u8 (some a) n (be32 x ++ r)) (hx : x < 4294967296) :
    ∀ q, Calls Tryd.prog 67 #[.slice (some a) 4 c] (w.drewN q) fun e w' => e = .returned (.int .u32 (x : Nat)) ∧ ∃ m, w' = w.drewN (q + m) := by
  intro q
  have h4 : 4 ≤ n := by have := h.1; rw [List.length_append, be32_len] at this; omega
  have ht : (be32 x ++ r).take 4 = be32 x := rfl
  have hN := (h.take (m := 4) h4).drewN q
  rw [ht] at hN
  have hb := be32_byte x
  have hc := beUint32_any (some a) c B _ _ _ _ (w.drewN q) hN (hb _ (by simp [be32])) (hb _ (by simp [be32])) (hb _ (by simp [be32])) (hb _ (by simp [be32]))
  rw [unbe_be x hx] at hc
  refine hc.mono fun e w' => ?_
  rintro ⟨he, m, rfl⟩
  exact ⟨he, m, by simp⟩

section
variable {P : Program} {w : World} {ops : Array Oper} {rest : List Oper} {o : Oper} {a : Act} {Q : Exit → Act → World → Prop}
/-- 'copy' over a whole row of numbers. -/
theorem run_copy_nums (dT sT ty e : TypeId) (hu : P.underlying dT = some (.slice e)) (hsz : (P.info? e).map (·.size) = some 1)
    (k : IntKind) (v : Value) (ys : List Nat) (hrow : Row w e k v ys) (B n c : Nat) (A : Option Addr) (xs : List Nat) (hx : Nums w B k A n xs) (hn : ys.length = n) :
    ∃ w', (Builtin.copy_ #[dT, sT] ty #[v, .slice A n c]).run P w = .ok (.int .i64 (n : Int)) w' ∧ Row w' e k v xs ∧ Only (fun g => v.ownBlock = some g) w w' := by
  have hxl := hx.1
  by_cases h0 : n = 0
  · have hy0 : ys = [] := List.eq_nil_of_length_eq_zero (hn.trans h0)
    have hx0 : xs = [] := List.eq_nil_of_length_eq_zero (hxl.trans h0)
    subst h0
    obtain ⟨dp, dc, hv⟩ : ∃ dp dc, v = .slice dp 0 dc := by
      rcases hrow.form with ⟨rfl, _⟩ | ⟨g, cap, rfl, _⟩
      · exact ⟨_, _, rfl⟩
      · exact ⟨_, _, by rw [hn]⟩
    exact ⟨w, by rw [hv]; exact run_copy_none (P := P) w dT sT ty e dp A 0 dc 0 c hu hsz rfl, by rw [hx0, ← hy0]; exact hrow, Only.refl _ _⟩
  · obtain ⟨ad, rfl, _, hc⟩ := hx.2 (by omega)
    rcases hrow.2 with ⟨_, hz⟩ | ⟨g, cap, cur, rfl, hb, hg, hnc, hcm, hcs, ht⟩
    · omega
    · have hcl : (xs.map fun x : Nat => Value.int k (x : Int)).length = n := by rw [List.length_map, hxl]
      have hrun := run_copy_row (P := P) w dT sT ty e g 0 ys.length cap ad n c cur e (xs.map fun x : Nat => Value.int k (x : Int)) hu hsz hg (by rw [hcl, hn]; exact (Nat.min_self n).symm) (by
        intro j u hu'
        rw [List.getElem?_map] at hu'
        cases hy : xs[j]? with
        | none => rw [hy] at hu'; cases hu'
        | some y =>
          rw [hy] at hu'
          injection hu' with hu'
          subst hu'
          exact hc j y hy) (by omega) (by
        intro u hu'
        obtain ⟨_, _, rfl⟩ := List.mem_map.1 hu'
        rfl)
      rw [hcl] at hrun
      refine ⟨_, hrun, ⟨by rw [List.length_map, Nat.mul_one], .inr ⟨g, cap, _, by rw [hxl, hn], hb, setRow_heap w g _ _ e _ hg, by omega, hcm, ?_, ?_⟩⟩, ?_⟩
      · simp only [List.take_zero, List.nil_append, Nat.zero_add, List.size_toArray, List.length_append, List.length_drop, Array.length_toList]
        rw [hcl]; omega
      · simp only [List.take_zero, List.nil_append, Nat.zero_add]
        rw [List.take_left' (by rw [hcl, hxl, Nat.mul_one])]
      · exact ⟨rfl, rfl, rfl, by simp [World.setRow], fun i hi hne => setRow_other w g i _ (fun he => hne (by rw [he]; rfl))⟩
end

theorem row_made (w : World) (e : TypeId) (k : IntKind) (n : Nat) (hn : n ≤ 9223372036854775807) : Row (w.alloc (.cells (madeCells #[.int k 0] n) e)) e k (.slice (some ⟨w.heap.size, 0, none⟩) n n) (List.replicate n 0) := by
  refine ⟨by simp, .inr ⟨w.heap.size, n, _, by simp, Nat.zero_le _, heap_alloc_new w _, by simp, by unfold maxLen; omega, by simp [size_madeCells], ?_⟩⟩
  rw [toList_madeCells_one]
  simp

/-- The numbers and the stream are those of the keys. -/
def Are (cn ls sz : Nat) (st ks : List Nat) : Prop := cn = ks.length ∧ ls = lastOr 0 ks ∧ sz = (encFrom 0 ks).length ∧ st = encFrom 0 ks
/-- What the reader of a list has done. -/
def UnmPost (p cn ls sz : Nat) (st : List Nat) (w : World) (L : Nat) (e : Ending) (w' : World) : Prop :=
  (∃ ks v', Valid p ks ∧ Are cn ls sz st ks ∧ e = .returned .nilIface ∧ CList w' L v' ks ∧ (∀ g, v'.ownBlock = some g → w.heap.size ≤ g) ∧ Only (fun b => b = L) w w') ∨
  ((∀ ks, Valid p ks → ¬ Are cn ls sz st ks) ∧ Fails e ∧ Only (fun _ => False) w w')
theorem UnmPost.bad {p cn ls sz : Nat} {st : List Nat} {w w' : World} {L : Nat} {a : Addr} (h : ∀ ks, Valid p ks → ¬ Are cn ls sz st ks) (ho : Only (fun _ => False) w w') :
    UnmPost p cn ls sz st w L (.returned (.iface 152 (.pointer (some a)))) w' := .inr ⟨h, ⟨a, rfl⟩, ho⟩

theorem unm_done {p cn ls m L : Nat} {v0 : Value} {st pre : List Nat} {w w1 : World} (hb : Blk w1 L 106 #[.int .u32 0, .int .u32 0, v0]) (hr : Row w1 5 .u8 (.slice (some ⟨w.heap.size, 0, none⟩) m m) st)
    (ho : Only (fun _ => False) w w1) (hL : L < w.heap.size) (hv : Valid p pre) (ha : Are cn ls m st pre) :
    UnmPost p cn ls m st w L (.returned .nilIface) (((w1.setCell ⟨L, 0, none⟩ (.int .u32 cn)).setCell ⟨L, 1, none⟩ (.int .u32 ls)).setCell ⟨L, 2, none⟩ (.slice (some ⟨w.heap.size, 0, none⟩) m m)) := by
  have hst := ha.2.2.2
  refine .inl ⟨pre, .slice (some ⟨w.heap.size, 0, none⟩) m m, hv, ha, rfl, ⟨?_, ?_, fun k hk => (hv.2.1 k hk).1⟩, ?_, ?_⟩
  · have h := ((hb.set_ 0 (.int .u32 cn)).set_ 1 (.int .u32 ls)).set_ 2 (.slice (some ⟨w.heap.size, 0, none⟩) m m)
    rw [← ha.1, ← ha.2.1]
    exact h
  · rw [← hst]
    exact hr.only ((((Only.refl (fun b => b = L) w1).setCell (fun _ => rfl) _).setCell (fun _ => rfl) _).setCell (fun _ => rfl) _) (fun g hg hgl => by
      have : w.heap.size = g := by simpa [Value.ownBlock] using hg
      omega)
  · intro g hg
    have : w.heap.size = g := by simpa [Value.ownBlock] using hg
    omega
  · have h0 : Only (fun b => b = L) w w1 := ho.mono (fun _ hf _ => hf.elim)
    exact ((h0.setCell (fun _ => rfl) _).setCell (fun _ => rfl) _).setCell (fun _ => rfl) _

set_option maxHeartbeats 8000000 in
set_option maxRecDepth 100000 in
theorem unmarshal_any (L : Nat) (v0 : Value) (ad : Addr) (n c p : Nat) (cn ls sz : Nat) (st : List Nat) (w : World) (hbs : Nums w w.heap.size .u8 (some ad) n (be32 cn ++ (be32 ls ++ (be32 sz ++ st)))) (h256 : ∀ b ∈ st, b < 256)
    (hcn : cn < 4294967296) (hls : ls < 4294967296) (hsz : sz < 4294967296) (hnc : n ≤ c) (hc : c ≤ 9223372036854775807) (hn : n < 1099511627776)
    (h1 : 4 ≤ p) (h2 : p ≤ 18) (hl : CList w L v0 []) (he : Errs w) :
    Calls Tryd.prog 47 #[.pointer (some ⟨L, 0, none⟩), .slice (some ad) n c, .int .u8 p] w fun e w' => UnmPost p cn ls sz st w L e w' := by
  obtain ⟨i0, hi, hz0, hz1, hz2⟩ := info_parts info_u8
  have hlen : st.length + 12 = n := by have := hbs.1; simp only [List.length_append, be32_len] at this; omega
  have i1 : (4 : Int) ≤ (n : Int) := by omega
  have i2 : (4 : Int) ≤ (c : Int) := by omega
  have i3 : (n : Int) ≤ (c : Int) := by omega
  have i4 : ¬ (n : Int) < 12 := by omega
  have hb1 := hbs.drop (m := 4) (by omega)
  rw [show (be32 cn ++ (be32 ls ++ (be32 sz ++ st))).drop 4 = be32 ls ++ (be32 sz ++ st) from rfl] at hb1
  have hb2 := hb1.drop (m := 4) (by omega)
  rw [show (be32 ls ++ (be32 sz ++ st)).drop 4 = be32 sz ++ st from rfl] at hb2
  have hb3 := hb2.drop (m := 4) (by omega)
  rw [show (be32 sz ++ st).drop 4 = st from rfl] at hb3
  have hM : n - 4 - 4 - 4 = st.length := by omega
  rw [hM] at hb3
  have B1 := Lib.hid (be32_quiet _ _ c _ _ _ w hbs hcn)
  have B2 := Lib.hid (be32_quiet _ _ (c - 4) _ _ _ w hb1 hls)
  have B3 := Lib.hid (be32_quiet _ _ (c - 4 - 4) _ _ _ w hb2 hsz)
  have HN := Lib.hid hb3
  have HL := Lib.hid hl
  obtain ⟨⟨ae, hae⟩, be, hbe⟩ := id he
  have HE := Lib.hid he
  clear hl he hbs hb1 hb2 hb3
  have HM := Lib.hid hM
  clear hM
  go_enter Tryd.func47, Tryd.ntmps47
  go_wp2_with fail
  go_quiet ((go_at_call 67; refine (B1.out _).mono ?_; rintro e w'' ⟨he, m, rfl⟩; exact ⟨he, _, rfl⟩))
  go_wp2_with fail
  go_quiet ((go_at_call 67; refine (B2.out _).mono ?_; rintro e w'' ⟨he, m, rfl⟩; exact ⟨he, _, by rw [Nat.add_assoc]⟩))
  go_upto_region 5 with fail
  go_cut [1, 9] (fun s1 s9 wc => ∃ a cc q, s1 = .slice (some a) st.length cc ∧ st.length ≤ cc ∧ cc ≤ 9223372036854775807 ∧ Nums w w.heap.size .u8 (some a) st.length st ∧ s9 = .int .u32 (sz : Nat) ∧ wc = w.drewN q)
  case first =>
    go_quiet ((go_at_call 67; refine (B3.out _).mono ?_; rintro e w'' ⟨he, m, rfl⟩; exact ⟨he, _, by rw [Nat.add_assoc]⟩))
    go_wp2_with fail
    · go_meet
      case rel =>
        have h0 : st.length = 0 := by have := HM.out; omega
        refine ⟨⟨ad.block, ad.off + 4 + 4, none⟩, 0, _, by rw [HM.out], by omega, by omega, ?_, rfl, rfl⟩
        rw [h0, List.eq_nil_of_length_eq_zero h0]
        exact Nums.nil _ _ _ _
    · go_meet
      case rel => exact ⟨_, c - 4 - 4 - 4, _, by rw [HM.out], by have := HM.out; omega, by omega, HN.out, rfl, rfl⟩
  case rest =>
    obtain ⟨a, cc, q, rfl, hcc, hcm, hna, rfl, rfl⟩ := hcut
    have hEq : Hid (Errs (w.drewN q)) := HE.out
    have HST := Lib.hid (rfl : st.length = st.length)
    have hm32 : st.length < 1099511627776 := by omega
    clear B1 B2 B3 HN hlen
    have HNA := Lib.hid hna
    clear hna HM i4 i1 i2 i3 hnc
    revert hcc HNA HST hm32
    generalize hmm : st.length = m
    intro hcc HST hm32 HNA
    have HMM := Lib.hid hmm
    clear hmm
    by_cases hms : m = sz
    · subst hms
      have HX := fun s => Lib.hid (exactLen_ok s m (w.drewN q))
      have HO : Hid (Only (fun _ => False) w (w.drewN q)) := (Only.refl _ w).drewN _
      by_cases hbig : 33554432 ≤ cn
      · have HBAD : Hid (∀ ks, Valid p ks → ¬ Are cn ls m st ks) := fun ks hv h => by have := hv.2.2; have := h.1; omega
        have hb' : decide ((33554432 : Int) ≤ (cn : Int)) = true := decide_eq_true (by omega)
        clear hbig
        go_wp2_with (go_at_call 71; refine (HX _).out.mono ?_; rintro e w' ⟨rfl, rfl⟩)
        go_ret
        exact UnmPost.bad HBAD.out HO.out
      have hb' : decide ((33554432 : Int) ≤ (cn : Int)) = false := decide_eq_false (by omega)
      have HG : Hid (¬ 33554432 ≤ cn) := hbig
      clear hbig
      by_cases hgood : (cn = 0 ∧ m = 0 ∧ ls = 0) ∨ (0 < cn ∧ cn ≤ m ∧ m ≤ 5 * cn)
      · have HGD := Lib.hid hgood
        go_upto_region 9 with (go_at_call 71; refine (HX _).out.mono ?_; rintro e w' ⟨rfl, rfl⟩)
        go_upto_if 53 with fail
        go_cut [] (fun wc => wc = w.drewN q)
        case first =>
          rcases hgood with ⟨e1, e2, e3⟩ | ⟨e1, e2, e3⟩
          · have g1 : ((cn : Int) == 0) = true := by rw [e1]; rfl
            have g2 : ((m : Int) != 0) = false := by rw [e2]; rfl
            have g3 : ((ls : Int) != 0) = false := by rw [e3]; rfl
            clear e1 e2 e3
            go_wp2_with fail
            go_meet
            case rel => rfl
          · have g1 : ((cn : Int) == 0) = false := by rw [beq_eq_false_iff_ne]; omega
            have g4 : IntKind.u32.wrap (5 * (cn : Int)) = 5 * (cn : Int) := by have := HG.out; rw [IntKind.wrap_u32']; omega
            have g7 : decide (5 * (cn : Int) < (m : Int)) = false := decide_eq_false (by omega)
            have g5 : (cn : Int) ≤ (m : Int) := by omega
            clear e1 e2 e3 HX
            go_wp2_with fail
            go_meet
            case rel => rfl
        case rest =>
          subst hcut
          clear hgood HX hb'
          have hm63 : m ≤ 9223372036854775807 := by omega
          have mk : ∀ W : World, (Instr.makeSlice 88 (.int .u32 (m : Int)) (.int .u32 (m : Int))).run Tryd.prog W = .ok (.slice (some ⟨W.heap.size, 0, none⟩) m m) (W.alloc (.cells (madeCells #[.int .u8 0] m) 5)) := fun W => by
            have h := run_make_rowN (P := Tryd.prog) 88 5 i0 (.int .u8 0) Tryd.underlying88 hi hz0 .u32 .u32 m m (Nat.le_refl _) (by rw [hz2]; omega) (by omega) W
            rw [hz1, Nat.mul_one] at h
            exact h
          have hrm := row_made (w.drewN q) 5 .u8 m hm63
          have hO1 : Only (fun _ => False) w ((w.drewN q).alloc (.cells (madeCells #[.int .u8 0] m) 5)) := HO.out.alloc _
          have hn1 : Nums ((w.drewN q).alloc (.cells (madeCells #[.int .u8 0] m) 5)) w.heap.size .u8 (some a) m st := HNA.out.only (Nat.le_refl _) hO1 (fun _ _ hf => hf)
          obtain ⟨w1, hcopy, hrow1, hon1⟩ := run_copy_nums (P := Tryd.prog) 88 31 3 5 Tryd.underlying88 (by kernel_rfl) .u8 _ _ hrm w.heap.size m cc (some a) st hn1 (by simp)
          have hcopy' : (Builtin.copy_ #[88, 31] 3 #[.slice (some ⟨w.heap.size, 0, none⟩) m m, .slice (some a) m cc]).run Tryd.prog ((w.drewN q).alloc (.cells (madeCells #[.int .u8 0] m) 5)) = .ok (.int .i64 (m : Int)) w1 := hcopy
          have HW : Hid (Only (fun _ => False) w w1) := hO1.trans hon1 (fun k hk hlt => by
            have e : w.heap.size = k := by simpa [Value.ownBlock] using hk
            have := hO1.size
            omega)
          have HR : Hid (Row w1 5 .u8 (.slice (some ⟨w.heap.size, 0, none⟩) m m) st) := hrow1
          clear hcopy hrow1 hon1 hrm hn1 hO1
          have hbnd1 : (m : Int) ≤ (cc : Int) := by omega
          go_wp2_with fail
          have hN1 : Nums w1 w1.heap.size .u8 (some ⟨w.heap.size, 0, none⟩) m st := by
            obtain ⟨A', c', hv', hc', hn', _⟩ := HR.out.nums
            injection hv' with e1 e2 e3
            subst e1
            rw [← e2] at hn'
            exact hn'
          have hB1 : Blk w1 L 106 #[.int .u32 0, .int .u32 0, v0] := HL.out.1.only HW.out (fun hf => hf)
          have hE1 : Errs w1 := HE.out.only HW.out (fun hf => hf) (fun hf => hf)
          obtain ⟨_, be1, hbe1⟩ := id hE1
          have f0 := hB1.frozen 0
          have f1 := hB1.frozen 1
          have f2 := hB1.frozen 2
          have c0 : w1.cell? ⟨L, 0, none⟩ = some (.int .u32 0) := hB1.cell 0
          have c1 : w1.cell? ⟨L, 1, none⟩ = some (.int .u32 0) := hB1.cell 1
          have c2 : w1.cell? ⟨L, 2, none⟩ = some v0 := hB1.cell 2
          have HB1 := Lib.hid hB1
          have HN1 := Lib.hid hN1
          have HE1 := Lib.hid hE1
          have H256 := Lib.hid h256
          clear hB1 hN1 hE1 h256 hcopy' mk hae hbe hEq HNA HO
          have hm28 : m ≤ 167772160 := by have := HGD.out; have := HG.out; omega
          go_loopg [12, 13, 14] m (fun g s12 s13 s14 wr => wr = w1 ∧ ∃ pre r, g + at_ pre = m ∧ s12 = .int .u32 (pre.length : Nat) ∧ s13 = .int .u32 (lastOr 0 pre : Nat) ∧ s14 = .int .i64 (at_ pre : Nat) ∧ Hid (Rising pre ∧ (∀ k ∈ pre, okKey k p) ∧ st = encFrom 0 pre ++ r))
          case atStart => exact ⟨rfl, [], st, by simp [at_nil], rfl, rfl, rfl, List.Pairwise.nil, fun k hk => (by cases hk), rfl⟩
          case round =>
            obtain ⟨rfl, pre, r, hg, rfl, rfl, rfl, hI⟩ := hrel
            have hpl : pre.length ≤ at_ pre := encFrom_ge 0 pre
            have hdrop : st.drop (at_ pre) = r := by rw [hI.out.2.2]; exact List.drop_left
            have hlast : lastOr 0 pre < 4294967296 := lastOr_lt (fun k hk => (hI.out.2.1 k hk).1)
            have HNX : Hid (∀ ks, Valid p ks → Are cn ls m st ks → (r = [] ∧ ks = pre) ∨ ∃ k, decN r = some (k - lastOr 0 pre, (varint (k - lastOr 0 pre)).length) ∧ okKey k p ∧ lastOr 0 pre ≤ k ∧ (pre ≠ [] → lastOr 0 pre < k)) := fun ks hv ha =>
              valid_next hI.out.1 hI.out.2.1 hv (by rw [← hI.out.2.2]; exact ha.2.2.2)
            have hrl : at_ pre + r.length = m := by rw [← HMM.out, hI.out.2.2, List.length_append]; rfl
            by_cases hlt : at_ pre < m
            · have hrne : r ≠ [] := by rintro rfl; simp at hrl; omega
              have HDD := decode_any (some ⟨w.heap.size, 0, none⟩) m m (at_ pre) wr.heap.size st wr HN1.out H256.out (by omega) (by omega)
              have hat : ((at_ pre : Nat) : Int) < (m : Int) := by omega
              cases hd : decN r with
              | none =>
                have HDN : Hid (Calls Tryd.prog 77 #[.slice (some ⟨w.heap.size, 0, none⟩) m m, .int .i64 (at_ pre : Nat)] wr fun e w' => ∃ x : Nat, e = .returned (.tuple #[.int .u32 (x : Nat), .int .i64 (m : Nat), .bool false]) ∧ wr = w') :=
                  HDD.mono fun e w' ⟨h1, h2⟩ => by
                    obtain ⟨x, hx⟩ := DecPost.none_ (by rw [hdrop]; exact hd) h2
                    exact ⟨x, hx, h1⟩
                have HBAD : Hid (∀ ks, Valid p ks → ¬ Are cn ls m st ks) := fun ks hv ha => by
                  rcases HNX.out ks hv ha with ⟨h, _⟩ | ⟨k, h, _⟩
                  · exact hrne h
                  · rw [hd] at h; cases h
                clear HDD hd hrne HNX hdrop hrl hpl hlast hat
                have hat : ((at_ pre : Nat) : Int) < (m : Int) := by omega
                go_wp2_with (go_at_call 77; refine HDN.out.mono ?_; rintro e w' ⟨x, rfl, rfl⟩)
                go_ret
                exact UnmPost.bad HBAD.out HW.out
              | some q' =>
                obtain ⟨x, l⟩ := q'
                have HDS : Hid (Calls Tryd.prog 77 #[.slice (some ⟨w.heap.size, 0, none⟩) m m, .int .i64 (at_ pre : Nat)] wr fun e w' => e = .returned (.tuple #[.int .u32 (x : Nat), .int .i64 ((at_ pre + l : Nat) : Int), .bool true]) ∧ wr = w') :=
                  HDD.mono fun e w' ⟨h1, h2⟩ => ⟨DecPost.some_ (by rw [hdrop]; exact hd) h2, h1⟩
                have hr256 : ∀ b ∈ r, b < 256 := fun b hb => H256.out b (by rw [hI.out.2.2]; simp [hb])
                obtain ⟨hx32, hlx, r', hr'⟩ := decN_some hr256 hd
                obtain ⟨nx, hnx⟩ : ∃ nx : Nat, nx = (lastOr 0 pre + x) % 4294967296 := ⟨_, rfl⟩
                have hw : IntKind.u32.wrap (((lastOr 0 pre : Nat) : Int) + (x : Int)) = (nx : Int) := by rw [IntKind.wrap_u32']; omega
                have hnx32 : nx < 4294967296 := by omega
                have HSTEP : Hid (∀ ks, Valid p ks → Are cn ls m st ks → nx = lastOr 0 pre + x ∧ okKey nx p ∧ (pre ≠ [] → lastOr 0 pre < nx)) := fun ks hv ha => by
                  rcases HNX.out ks hv ha with ⟨h, _⟩ | ⟨k, h, hok, hle, hlt⟩
                  · exact absurd h hrne
                  · rw [hd] at h
                    simp only [Option.some.injEq, Prod.mk.injEq] at h
                    have hk := hok.1
                    have e : nx = k := by omega
                    rw [e]
                    exact ⟨by omega, hok, hlt⟩
                have HX2 : Hid (nx = (lastOr 0 pre + x) % 4294967296 ∧ l = (varint x).length ∧ r = varint x ++ r' ∧ x < 4294967296) := ⟨hnx, hlx, hr', hx32⟩
                clear HDD hd hdrop hnx hlx hr' hr256 HNX
                by_cases hbadrise : pre ≠ [] ∧ nx ≤ lastOr 0 pre
                · have hA : (0 : Int) < (pre.length : Int) := by have := List.length_pos_iff.2 hbadrise.1; omega
                  have hB : (nx : Int) ≤ ((lastOr 0 pre : Nat) : Int) := by have := hbadrise.2; omega
                  have HBAD : Hid (∀ ks, Valid p ks → ¬ Are cn ls m st ks) := fun ks hv ha => by
                    have := (HSTEP.out ks hv ha).2.2 hbadrise.1
                    have := hbadrise.2
                    omega
                  clear hbadrise hrne hrl
                  go_wp2_with (go_at_call 77; refine HDS.out.mono ?_; rintro e w' ⟨rfl, rfl⟩)
                  go_ret
                  exact UnmPost.bad HBAD.out HW.out
                have hgood2 : nx = lastOr 0 pre + x ∧ (pre ≠ [] → lastOr 0 pre < nx) := by
                  have h1 := HX2.out.1
                  have h4 := HX2.out.2.2.2
                  by_cases hp : pre = []
                  · have : lastOr 0 pre = 0 := by rw [hp]; rfl
                    exact ⟨by omega, fun h => absurd hp h⟩
                  · have h5 : ¬ nx ≤ lastOr 0 pre := fun h => hbadrise ⟨hp, h⟩
                    exact ⟨by omega, fun _ => by omega⟩
                have HG2 := Lib.hid hgood2
                have hway : (((pre.length : Int) ≤ 0 ∧ decide ((0 : Int) < (pre.length : Int)) = false) ∨ ((0 : Int) < (pre.length : Int) ∧ ((lastOr 0 pre : Nat) : Int) < (nx : Int) ∧ decide ((nx : Int) ≤ ((lastOr 0 pre : Nat) : Int)) = false)) := by
                  by_cases hp : pre = []
                  · exact .inl ⟨by rw [hp]; simp, decide_eq_false (by rw [hp]; simp)⟩
                  · have h1 : ((lastOr 0 pre : Nat) : Int) < (nx : Int) := by have := hgood2.2 hp; omega
                    exact .inr ⟨by have := List.length_pos_iff.2 hp; omega, h1, decide_eq_false (by omega)⟩
                have hlv : l = (varint (nx - lastOr 0 pre)).length := by
                  rw [HX2.out.2.1, hgood2.1]; congr 2; omega
                have hl1 := varint_pos (nx - lastOr 0 pre)
                have hatl : at_ pre + l = at_ (pre ++ [nx]) := by rw [hlv]; exact at_snoc pre nx
                have hlm : at_ pre + l ≤ m := by
                  have h := congrArg List.length HX2.out.2.2.1
                  rw [List.length_append, ← HX2.out.2.1] at h
                  omega
                rw [hatl] at HDS hlm
                have hl0 : at_ pre < at_ (pre ++ [nx]) := by omega
                have HST2 : Hid (st = encFrom 0 (pre ++ [nx]) ++ r') := by
                  have h : nx - lastOr 0 pre = x := by have := hgood2.1; omega
                  show st = _
                  rw [hI.out.2.2, HX2.out.2.2.1, encFrom_snoc, h, List.append_assoc]
                have hm0 : m - at_ (pre ++ [nx]) < m - at_ pre := by omega
                clear hgood2 hbadrise hlv hl1 hatl hrne hrl HX2
                by_cases hok : decVal nx p ≤ 65 - p
                · have HCK := Lib.hid (checkSparseKey_ok nx p wr hnx32 h1 h2 hok)
                  have HOK := Lib.hid hok
                  clear hok
                  rcases hway with ⟨hA, hB⟩ | ⟨hA, hB, hC⟩
                  all_goals
                    go_wp2_with (first
                      | (go_at_call 77; refine HDS.out.mono ?_; rintro e w' ⟨rfl, rfl⟩)
                      | (go_at_call 69; refine HCK.out.mono ?_; rintro e w' ⟨rfl, rfl⟩))
                    go_roundg (m - at_ (pre ++ [nx]))
                    case measure => omega
                    case rel =>
                      refine ⟨rfl, pre ++ [nx], r', by omega, by rw [List.length_append]; go_num, by rw [lastOr_snoc], rfl, rising_snoc hI.out.1 HG2.out.2, ?_, HST2.out⟩
                      intro k hk
                      rcases List.mem_append.1 hk with hk | hk
                      · exact hI.out.2.1 k hk
                      · rw [List.mem_singleton] at hk; subst hk; exact ⟨hnx32, HOK.out⟩
                · have HCK := Lib.hid (checkSparseKey_bad nx p wr hnx32 h1 h2 hok HE1.out)
                  have HBAD : Hid (∀ ks, Valid p ks → ¬ Are cn ls m st ks) := fun ks hv ha => hok (HSTEP.out ks hv ha).2.1.2
                  clear hok
                  rcases hway with ⟨hA, hB⟩ | ⟨hA, hB, hC⟩
                  all_goals
                    go_wp2_with (first
                      | (go_at_call 77; refine HDS.out.mono ?_; rintro e w' ⟨rfl, rfl⟩)
                      | (go_at_call 69; refine HCK.out.mono ?_; rintro e w' ⟨⟨aa, rfl⟩, rfl⟩))
                    go_ret
                    exact UnmPost.bad HBAD.out HW.out
            · have hr0 : r = [] := by apply List.eq_nil_of_length_eq_zero; omega
              subst hr0
              have hatm : at_ pre = m := by omega
              have HPK : Hid (∀ ks, Valid p ks → Are cn ls m st ks → ks = pre) := fun ks hv ha => by
                rcases HNX.out ks hv ha with ⟨_, h⟩ | ⟨k, h, _⟩
                · exact h
                · cases h
              by_cases hcnt : cn = pre.length
              · by_cases hls' : ls = lastOr 0 pre
                · have hC : ((ls : Int) != ((lastOr 0 pre : Nat) : Int)) = false := by rw [bne_eq_false_iff_eq]; omega
                  have hB : ((cn : Int) != ((pre.length : Nat) : Int)) = false := by rw [bne_eq_false_iff_eq]; omega
                  have HC := Lib.hid hcnt
                  have HL' := Lib.hid hls'
                  have HLEN : Hid (pre.length < 33554432) := by have := HG.out; show pre.length < 33554432; omega
                  have HAM := Lib.hid hatm
                  clear hcnt hls' hatm
                  go_wp2_with fail
                  go_ret
                  have hst : st = encFrom 0 pre := by have := hI.out.2.2; rwa [List.append_nil] at this
                  exact unm_done HB1.out HR.out HW.out HL.out.1.lt ⟨hI.out.1, hI.out.2.1, HLEN.out⟩ ⟨HC.out, HL'.out, HAM.out.symm, hst⟩
                · have hC : ((ls : Int) != ((lastOr 0 pre : Nat) : Int)) = true := by rw [bne_iff_ne]; omega
                  have hB : ((cn : Int) != ((pre.length : Nat) : Int)) = false := by rw [bne_eq_false_iff_eq]; omega
                  have HBAD : Hid (∀ ks, Valid p ks → ¬ Are cn ls m st ks) := fun ks hv ha => hls' (by rw [ha.2.1, HPK.out ks hv ha])
                  clear hcnt hls'
                  go_wp2_with fail
                  go_ret
                  exact UnmPost.bad HBAD.out HW.out
              · have hB : ((cn : Int) != ((pre.length : Nat) : Int)) = true := by rw [bne_iff_ne]; omega
                have HBAD : Hid (∀ ks, Valid p ks → ¬ Are cn ls m st ks) := fun ks hv ha => hcnt (by rw [ha.1, HPK.out ks hv ha])
                clear hcnt
                go_wp2_with fail
                go_ret
                exact UnmPost.bad HBAD.out HW.out
      · have HBAD : Hid (∀ ks, Valid p ks → ¬ Are cn ls m st ks) := fun ks hv h => by
          apply hgood
          have h3 := h.2.2.1
          have hle := encFrom_le 0 ks (fun k hk => (hv.2.1 k hk).1)
          have hge := encFrom_ge 0 ks
          have h0 := h.1
          rcases Nat.eq_zero_or_pos ks.length with hz | hz
          · have hks := List.eq_nil_of_length_eq_zero hz
            subst hks
            exact .inl ⟨h.1, h.2.2.1, h.2.1⟩
          · exact .inr (by omega)
        by_cases e1 : cn = 0
        · have g1 : ((cn : Int) == 0) = true := by rw [e1]; rfl
          by_cases e2 : m = 0
          · have g2 : ((m : Int) != 0) = false := by rw [e2]; rfl
            have g3 : ((ls : Int) != 0) = true := by rw [bne_iff_ne]; omega
            clear e1 e2 hgood
            go_wp2_with (go_at_call 71; refine (HX _).out.mono ?_; rintro e w' ⟨rfl, rfl⟩)
            go_ret
            exact UnmPost.bad HBAD.out HO.out
          · have g2 : ((m : Int) != 0) = true := by rw [bne_iff_ne]; omega
            clear e1 e2 hgood
            go_wp2_with (go_at_call 71; refine (HX _).out.mono ?_; rintro e w' ⟨rfl, rfl⟩)
            go_ret
            exact UnmPost.bad HBAD.out HO.out
        · have g1 : ((cn : Int) == 0) = false := by rw [beq_eq_false_iff_ne]; omega
          have g4 : (cn : Int) < 33554432 := by have := HG.out; omega
          by_cases e2 : m < cn
          · clear hgood
            go_wp2_with (go_at_call 71; refine (HX _).out.mono ?_; rintro e w' ⟨rfl, rfl⟩)
            go_ret
            exact UnmPost.bad HBAD.out HO.out
          · have e3 : 5 * (cn : Int) < (m : Int) := by omega
            clear hgood
            go_wp2_with (go_at_call 71; refine (HX _).out.mono ?_; rintro e w' ⟨rfl, rfl⟩)
            go_ret
            exact UnmPost.bad HBAD.out HO.out
    · have HX := fun s => Lib.hid (exactLen_bad s m sz (w.drewN q) hms hEq.out)
      have hbad : ∀ ks, Valid p ks → ¬ Are cn ls sz st ks := fun ks _ h => hms (by rw [← HMM.out, h.2.2.1, h.2.2.2])
      have HBAD := Lib.hid hbad
      clear hbad
      go_wp2_with (go_at_call 71; refine (HX _).out.mono ?_; rintro e w' ⟨⟨aa, rfl⟩, rfl⟩)
      go_ret
      exact UnmPost.bad HBAD.out ((Only.refl _ w).drewN _)
end Go.Proofs.YtoegfdndoeiolaaDoor
