/- Walks and plain laws, one behind the other (SpecRegs, LawRegs, LawSet, Clone, CloneSk, LawCopied); their conditions stand at each. -/
import Derived.Test.YtoegfdndoeiolaaDoorQ25
import Derived.Test.YtoegfdndoeiolaaDoorQ11

/- Walks: the specification's registers, one by one; lists of hashes joined and turned. Conditions: 4 to 18 bits; the lists are no longer than a machine holds. -/
namespace Go.Proofs.YtoegfdndoeiolaaDoor
open Go.RowKit

theorem info_u64 : (Tryd.prog.info? 25).map (fun i => (i.zero, i.size, i.bytes)) = some (some (.int .u64 0), 1, 8) := by kernel_rfl
theorem shl_word {p N : Nat} (h1 : 4 ≤ p) (h2 : p ≤ 18) (hN : N = 2 ^ p) : wrap64 ((2 : Int) ^ p) = (N : Int) := by
  have hb := pow_bounds h1 h2
  have e : (2 : Int) ^ p = ((2 ^ p : Nat) : Int) := by simp
  rw [e, ← hN]
  rw [← hN] at hb
  unfold wrap64
  omega

theorem hv_byte {p : Nat} {xs : List Nat} : ∀ v ∈ table p (xs.map (hv p)), v < 256 := by
  intro v hv'
  have h := mem_table (p := p) (P := xs.map (hv p)) (b := 255) (fun q hq => by
    obtain ⟨x, _, rfl⟩ := List.mem_map.1 hq
    have := val_le x p
    show valN x p ≤ 255
    omega) v hv'
  omega

set_option maxHeartbeats 1000000 in
set_option maxRecDepth 100000 in
theorem specRegs_any (A : Option Addr) (n c B p : Nat) (xs : List Nat) (w : World) (hxs : Nums w B .u64 A n xs) (hB : B ≤ w.heap.size) (hx : ∀ x ∈ xs, x < 18446744073709551616) (hn : n < 1099511627776) (h1 : 4 ≤ p) (h2 : p ≤ 18) :
    Calls Tryd.prog 23 #[.int .u8 p, .slice A n c] w fun e w' =>
      ∃ v', e = .returned v' ∧ Row w' 5 .u8 v' (table p (xs.map (hv p))) ∧ (∀ g, v'.ownBlock = some g → w.heap.size ≤ g) ∧ Only (fun _ => False) w w' := by
  have hpb := pow_bounds h1 h2
  obtain ⟨N, hN⟩ : ∃ N, N = 2 ^ p := ⟨_, rfl⟩
  have hwr := shl_word h1 h2 hN
  rw [← hN] at hpb
  have mk := mk_u8 N (by omega) .i64
  have hlen := hxs.1
  have HX := Lib.hid hxs
  have HX64 := Lib.hid hx
  have HNp := Lib.hid hN
  have hr0 : Row (w.alloc (.cells (madeCells #[.int .u8 0] N) 5)) 5 .u8 (.slice (some ⟨w.heap.size, 0, none⟩) N N) (table p (([] : List Nat).map (hv p))) := by
    rw [List.map_nil, table_nil, ← hN]
    exact row_made w 5 .u8 N (by omega)
  have HR0 := Lib.hid hr0
  clear hxs hx hN hr0
  go_enter Tryd.func23, Tryd.ntmps23
  go_wp2_with fail
  simp only [hwr]
  go_loopg [14] n (fun g s14 wr => ∃ i, g + i = n ∧ s14 = .int .i64 (i : Nat) ∧ Hid (Row wr 5 .u8 (.slice (some ⟨w.heap.size, 0, none⟩) N N) (table p ((xs.take i).map (hv p)))) ∧ Hid (Only (fun _ => False) w wr))
  case atStart => exact ⟨0, by omega, rfl, by rw [List.take_zero]; exact HR0.out, (Only.refl _ w).alloc _⟩
  case round =>
    obtain ⟨i, hg, rfl, HR, HO⟩ := hrel
    by_cases hi : i < n
    · obtain ⟨ad, rfl, _, hc⟩ := (HX.out.only hB HO.out (fun _ _ hf => hf)).at_ hi
      obtain ⟨x, hxx⟩ : ∃ x, xs.getD i 0 = x := ⟨_, rfl⟩
      rw [hxx] at hc
      have hx64 : x < 18446744073709551616 := by rw [← hxx]; exact getD_lt HX64.out (by omega) _
      have hpos : posN x p < N := by rw [HNp.out]; exact pos_lt x p hx64 h2
      obtain ⟨P, hP⟩ : ∃ P, posN x p = P := ⟨_, rfl⟩
      obtain ⟨V, hV⟩ : ∃ V, valN x p = V := ⟨_, rfl⟩
      have hPos : ∀ W, Calls Tryd.prog 39 #[.int .u64 x, .int .u8 p] W fun e w' => e = .returned (.int .i64 (P : Nat)) ∧ W = w' := fun W => by rw [← hP]; exact Pos_any x p W hx64 h2
      have hVal : ∀ W, Calls Tryd.prog 40 #[.int .u64 x, .int .u8 p] W fun e w' => e = .returned (.int .u8 (V : Nat)) ∧ W = w' := fun W => by rw [← hV]; exact Val_any x p W hx64 h1 h2
      have hV256 : V < 256 := by rw [← hV]; have := val_le x p; omega
      rw [hP] at hpos
      have htl : (table p ((xs.take i).map (hv p))).length = N := by rw [table_length, HNp.out]
      have cy := HR.out.cell rfl P (by rw [htl]; exact hpos)
      have fy := HR.out.frozen rfl P
      obtain ⟨y, hy⟩ : ∃ y, (table p ((xs.take i).map (hv p))).getD P 0 = y := ⟨_, rfl⟩
      have hy256 : y < 256 := by rw [← hy]; exact getD_lt hv_byte (by omega) _
      rw [hy] at cy
      have hset : Row ((wr.setCell ⟨w.heap.size, P, none⟩ (.int .u8 (max (y : Int) (V : Int)))).drew) 5 .u8 (.slice (some ⟨w.heap.size, 0, none⟩) N N) (table p ((xs.take (i + 1)).map (hv p))) := by
        have h := HR.out.set_ htl.symm P (max V y)
        have hup : (table p ((xs.take i).map (hv p))).set P (max V y) = table p ((xs.take (i + 1)).map (hv p)) := by
          have e : table p ((xs.take (i + 1)).map (hv p)) = up (table p ((xs.take i).map (hv p))) P V := by rw [list_take_succ xs i (by omega), List.map_append, hxx, up_table]; simp [hv, hP, hV]
          rw [e]
          unfold up
          rw [hy]
        rw [hup] at h
        rw [show (max (y : Int) (V : Int)) = ((max V y : Nat) : Int) from by omega]
        exact h.only ((Only.refl (fun _ => False) _).drew) (fun _ _ hf => hf)
      have hon : Only (fun _ => False) w ((wr.setCell ⟨w.heap.size, P, none⟩ (.int .u8 (max (y : Int) (V : Int)))).drew) := (HO.out.setCell (p := ⟨w.heap.size, P, none⟩) (fun h => absurd h (Nat.lt_irrefl _)) _).drew
      have HS := Lib.hid hset
      have HON := Lib.hid hon
      have HP := Lib.hid hPos
      have HVL := Lib.hid hVal
      clear hset hon hPos hVal htl hP hV
      go_wp2_with fail
      refine (HP.out _).mono ?_
      rintro e w2 ⟨rfl, rfl⟩
      go_wp2_with fail
      go_region_with (first | (go_at_call 40; refine (HVL.out _).mono ?_; rintro e wx ⟨rfl, rfl⟩))
      all_goals
        go_wp2_with fail
        go_roundg (n - (i + 1))
        case measure => omega
        case rel => exact ⟨i + 1, by omega, by go_num, HS.out, HON.out⟩
    · have hin : i = n := by omega
      have HRn : Hid (Row wr 5 .u8 (.slice (some ⟨w.heap.size, 0, none⟩) N N) (table p (xs.map (hv p)))) := by
        have := HR.out
        rw [List.take_of_length_le (by omega)] at this
        exact this
      go_wp2_with fail
      go_ret
      exact ⟨_, rfl, HRn.out, fun g hg => own_ge hg (Nat.le_refl _), HO.out⟩

set_option maxRecDepth 100000 in
theorem Both_any (A A2 : Option Addr) (n n2 c c2 B : Nat) (xs ys : List Nat) (w : World) (hxs : Nums w B .u64 A n xs) (hys : Nums w B .u64 A2 n2 ys) (hB : B ≤ w.heap.size) (hn : n < 1099511627776) (hn2 : n2 < 1099511627776) :
    Calls Tryd.prog 25 #[.slice A n c, .slice A2 n2 c2] w fun e w' =>
      ∃ v', e = .returned v' ∧ Row w' 25 .u64 v' (xs ++ ys) ∧ (∀ g, v'.ownBlock = some g → w.heap.size ≤ g) ∧ Only (fun _ => False) w w' := by
  obtain ⟨i0, hi, hz0, hz1, hz2⟩ := info_parts info_u64
  have hr0 := row_empty w 25 .u64
  have hA : Only (fun _ => False) w (w.alloc (.cells #[] 25)) := (Only.refl _ w).alloc _
  have hx0 := hxs.only hB hA (fun _ _ hf => hf)
  have hlx := hxs.1
  have hly := hys.1
  have HYS := Lib.hid hys
  have HA := Lib.hid hA
  clear hxs hys hA
  go_enter Tryd.func25, Tryd.ntmps25
  go_wp2_with (at_builtin; go_must (refine wpList_append_nums rfl (.tmp 5) (.tmp 6) 22 rfl 25 i0 (.int .u64 0) 8 Tryd.underlying22 hi hz0 hz1 hz2 rfl .u64 _ [] rfl hr0 B A n c xs rfl hx0 ?c4 ?c5 ?_))
  case c4 => simp; omega
  case c5 => simp; omega
  intro v1 w1 hrow1 hon1 hl1
  have ho1 : Only (fun _ => False) w w1 := HA.out.trans hon1 (fun g hg hlt => by have h2 : w.heap.size ≤ g := own_ge hg (Nat.le_refl _); omega)
  have hn1 : ∀ g, v1.ownBlock = some g → w.heap.size ≤ g := by
    intro g hg
    rcases hl1 with h | h <;> rw [hg] at h
    · exact own_ge h.symm (Nat.le_refl _)
    · injection h with h
      have e : (w.alloc (.cells #[] 25)).heap.size = w.heap.size + 1 := by simp
      omega
  have hy1 := HYS.out.only hB ho1 (fun _ _ hf => hf)
  have HO1 := Lib.hid ho1
  have HN1 := Lib.hid hn1
  clear hon1 hl1 ho1 hn1 hr0 hx0
  go_wp2_with (at_builtin; go_must (refine wpList_append_nums rfl (.tmp 7) (.tmp 8) 22 rfl 25 i0 (.int .u64 0) 8 Tryd.underlying22 hi hz0 hz1 hz2 rfl .u64 v1 xs rfl hrow1 B A2 n2 c2 ys rfl hy1 ?c4 ?c5 ?_))
  case c4 => omega
  case c5 => omega
  intro v2 w2 hrow2 hon2 hl2
  have hs1 := HO1.out.size
  go_wp2
  go_ret
  refine ⟨v2, rfl, hrow2, fun g hg => ?_, HO1.out.trans hon2 (fun g hg hlt => by have := HN1.out g hg; omega)⟩
  rcases hl2 with h | h <;> rw [hg] at h
  · exact HN1.out g h.symm
  · injection h with h; omega

/-- The hashes the other way round, each with one more of them behind it. -/
def trn (xs : List Nat) : Nat → List Nat
  | 0 => []
  | c + 1 => trn xs c ++ [xs.getD (xs.length - 1 - c) 0, xs.getD ((xs.length - 1 - c) / 2) 0]
theorem trn_length (xs : List Nat) (c : Nat) : (trn xs c).length = 2 * c := by
  induction c with
  | zero => rfl
  | succ c ih => simp only [trn, List.length_append, ih, List.length_cons, List.length_nil]; omega
theorem mem_getD {xs : List Nat} {i : Nat} (h : i < xs.length) : xs.getD i 0 ∈ xs := by
  rw [List.getD_eq_getElem?_getD, List.getElem?_eq_getElem h]
  exact List.getElem_mem h
theorem trn_mem {xs : List Nat} : ∀ {c : Nat}, c ≤ xs.length → ∀ q ∈ trn xs c, q ∈ xs
  | 0, _, q, hq => by cases hq
  | c + 1, hc, q, hq => by
    simp only [trn, List.mem_append, List.mem_cons, List.not_mem_nil, or_false] at hq
    rcases hq with h | rfl | rfl
    · exact trn_mem (by omega) q h
    · exact mem_getD (by omega)
    · exact mem_getD (by omega)
theorem trn_has {xs : List Nat} : ∀ {c : Nat}, c ≤ xs.length → ∀ i, xs.length - c ≤ i → i < xs.length → xs.getD i 0 ∈ trn xs c
  | 0, _, i, h1, h2 => by omega
  | c + 1, hc, i, h1, h2 => by
    simp only [trn, List.mem_append, List.mem_cons, List.not_mem_nil, or_false]
    by_cases h : xs.length - c ≤ i
    · exact .inl (trn_has (by omega) i h h2)
    · exact .inr (.inl (by rw [show xs.length - 1 - c = i from by omega]))
theorem trn_table (p : Nat) (xs : List Nat) : table p ((trn xs xs.length).map (hv p)) = table p (xs.map (hv p)) := by
  refine table_congr fun q => ?_
  rw [List.mem_map, List.mem_map]
  constructor
  · rintro ⟨x, hx, rfl⟩
    exact ⟨x, trn_mem (Nat.le_refl _) x hx, rfl⟩
  · rintro ⟨x, hx, rfl⟩
    obtain ⟨i, hi, rfl⟩ := List.getElem_of_mem hx
    refine ⟨_, ?_, rfl⟩
    have := trn_has (Nat.le_refl xs.length) i (by omega) hi
    rwa [List.getD_eq_getElem?_getD, List.getElem?_eq_getElem hi] at this

theorem two_cells64 (x y : Nat) : (#[.int .u64 (x : Int), .int .u64 (y : Int)] : Array Value) = (([x, y]).map fun y : Nat => Value.int .u64 (y : Int)).toArray := rfl
set_option maxHeartbeats 1000000 in
set_option maxRecDepth 100000 in
theorem Turned_any (A : Option Addr) (n c B : Nat) (xs : List Nat) (w : World) (hxs : Nums w B .u64 A n xs) (hB : B ≤ w.heap.size) (hn : n < 1099511627776) :
    Calls Tryd.prog 20 #[.slice A n c] w fun e w' =>
      ∃ v', e = .returned v' ∧ Row w' 25 .u64 v' (trn xs n) ∧ (∀ g, v'.ownBlock = some g → w.heap.size ≤ g) ∧ Only (fun _ => False) w w' := by
  obtain ⟨i0, hi, hz0, hz1, hz2⟩ := info_parts info_u64
  have hr0 := row_empty w 25 .u64
  have HR0 := Lib.hid hr0
  have hlx := hxs.1
  have HX := Lib.hid hxs
  clear hxs hr0
  go_enter Tryd.func20, Tryd.ntmps20
  go_wp2_with fail
  go_loopg [3, 4] n (fun g s3 s4 wr => ∃ k, g + k = n ∧ s4 = .int .i64 ((n : Int) - 1 - (k : Int)) ∧ Hid (Row wr 25 .u64 s3 (trn xs k)) ∧ Hid (∀ g, s3.ownBlock = some g → w.heap.size ≤ g) ∧ Hid (Only (fun _ => False) w wr))
  case atStart => exact ⟨0, by omega, by simp, HR0.out, (fun g hg => own_ge hg (Nat.le_refl _)), (Only.refl _ w).alloc _⟩
  case round =>
    obtain ⟨k, hg, rfl, HR, HN, HO⟩ := hrel
    by_cases hk : k < n
    · obtain ⟨j, hj⟩ : ∃ j, j = n - 1 - k := ⟨_, rfl⟩
      obtain ⟨h, hh⟩ : ∃ h, h = j / 2 := ⟨_, rfl⟩
      have hji : (n : Int) - 1 - (k : Int) = (j : Int) := by omega
      have hq : (j : Int) / 2 = (h : Int) := by omega
      have hjn : j < n := by omega
      have hhn : h < n := by omega
      have hwh : IntKind.i64.wrap (h : Int) = (h : Int) := by rw [IntKind.wrap_i64]; omega
      have hE : ∀ W, Only (fun _ => False) w W → ∃ ad, A = some ad ∧ W.cell? (ad.add j) = some (.int .u64 (xs.getD j 0 : Nat)) ∧ W.cell? (ad.add h) = some (.int .u64 (xs.getD h 0 : Nat)) := fun W hW => by
        have hx := HX.out.only hB hW (fun _ _ hf => hf)
        obtain ⟨ad, rfl, _, h1⟩ := hx.at_ hjn
        obtain ⟨ad2, e, _, h2⟩ := hx.at_ hhn
        injection e with e
        subst e
        exact ⟨ad, rfl, h1, h2⟩
      obtain ⟨ad, rfl, c1, c2⟩ := hE wr HO.out
      obtain ⟨x, hx⟩ : ∃ x, xs.getD j 0 = x := ⟨_, rfl⟩
      obtain ⟨y, hy⟩ : ∃ y, xs.getD h 0 = y := ⟨_, rfl⟩
      have HE : Hid (∀ W, Only (fun _ => False) w W → W.cell? (ad.add j) = some (.int .u64 (x : Nat)) ∧ W.cell? (ad.add h) = some (.int .u64 (y : Nat))) := fun W hW => by
        obtain ⟨ad2, e, h1, h2⟩ := hE W hW
        injection e with e
        subst e
        rw [← hx, ← hy]
        exact ⟨h1, h2⟩
      have htn : trn xs (k + 1) = trn xs k ++ [x, y] := by
        rw [trn, hlx, ← hj, ← hh, hx, hy]
      have HTN := Lib.hid htn
      have hlen := trn_length xs k
      rw [hx] at c1
      rw [hy] at c2
      rw [hji]
      obtain ⟨es, hes⟩ : ∃ es, es = trn xs k := ⟨_, rfl⟩
      rw [← hes] at HR hlen HTN
      have HJ : Hid ((j : Int) - 1 = (n : Int) - 1 - ((k + 1 : Nat) : Int)) := by show _ = _; omega
      clear hx hy htn hE hes hh hj hji
      go_wp2_with fail
      go_region_held3 (fun w' => w'.cell? (ad.add j) = some (.int .u64 (x : Nat)) ∧ w'.cell? (ad.add h) = some (.int .u64 (y : Nat))) (first | go_keep | exact hkeep)
        (first
          | (refine step_append_lits (by rfl) (.tmp 13) (.tmp 23) 22 (by rfl) 25 i0 (.int .u64 0) 8 Tryd.underlying22 hi hz0 hz1 hz2 rfl .u64 u3 es (by rfl) (HR.out.only ((Only.refl (fun _ => False) wr).drew) (fun _ _ hf => hf)) [x, y] 2 2 rfl 25 _ (two_cells64 x y) (by rfl) (by omega) (by omega) ?_
             intro v1 w1 hrow1 hon1 hlies1
             have HROW := Lib.hid hrow1
             have HON := Lib.hid (HO.out.drew.trans hon1 (fun g hg hlt => by have := HN.out g hg; omega))
             have HLI := Lib.hid hlies1
             have hkeep := HE.out w1 HON.out
             clear hrow1 hon1 hlies1)
          | fail)
      go_wp2_with fail
      go_roundg (n - (k + 1))
      case measure => omega
      case rel =>
        refine ⟨k + 1, by omega, by rw [← HJ.out], by rw [HTN.out]; exact HROW.out, fun g hg => ?_, HON.out⟩
        rcases HLI.out with e | ⟨g', e, hge⟩
        · exact HN.out g (by rw [← e]; exact hg)
        · rw [hg] at e; injection e with e
          have := HO.out.size
          have e2 : wr.drew.heap.size = wr.heap.size := rfl
          omega
    · have hkn : k = n := by omega
      subst hkn
      have hji : (k : Int) - 1 - (k : Int) = -1 := by omega
      rw [hji]
      go_wp2_with fail
      go_ret
      exact ⟨_, rfl, HR.out, HN.out, HO.out⟩
end Go.Proofs.YtoegfdndoeiolaaDoor

/- Walks: the laws of a sketch's registers: FnExactRegs, FnSetAlone, FnCompacted, and the thin functions under them. Conditions: the hashes are 64-bit numbers; the variable of the error holds an error. -/
namespace Go.Proofs.YtoegfdndoeiolaaDoor
open Go.RowKit

/-- A sketch is made. -/
theorem NewSketch_any (p : Nat) (b : Bool) (w : World) (h1 : 4 ≤ p) (h2 : p ≤ 18) :
    Calls Tryd.prog 34 #[.int .u8 p, .bool b] w fun e w' =>
      ∃ S F, e = .returned (.tuple #[.pointer (some ⟨S, 0, none⟩), .nilIface]) ∧ Sk w' S p (table p []) True F ∧ (∀ b, F b → w.heap.size ≤ b) ∧ Only (fun _ => False) w w' := by
  have hz : ∀ v ∈ table p [], v ≤ 65 - p := mem_table (fun q hq => by cases hq)
  cases b with
  | false =>
    refine (NewSketch_dense p w h1 h2).mono ?_
    rintro e w' ⟨S, al, rv, rfl, hd, hS, hrv, ho⟩
    rw [← table_nil] at hd
    refine ⟨S, fun b => b = S ∨ rv.ownBlock = some b, rfl, ⟨.inl rfl, ?_, h1, h2, .inl ⟨al, rv, hd, hz, fun g hg => .inr hg⟩⟩, ?_, ho⟩
    · rintro b (rfl | hb)
      · exact Blk.lt hd.blk
      · exact hd.row.lt b hb
    · rintro b (rfl | hb)
      · exact hS
      · exact hrv b hb
  | true =>
    refine (NewSketch_sparse p w h1 h2).mono ?_
    rintro e w' ⟨S, al, T, M, v, L, u, rfl, hs, hS, hT, hM, hL, hv, hu, ho⟩
    refine ⟨S, fun b => b = S ∨ b = T ∨ b = M ∨ b = L ∨ v.ownBlock = some b ∨ u.ownBlock = some b, rfl, ⟨.inl rfl, ?_, h1, h2, .inr ⟨al, T, M, v, [], L, u, [], hs, ?_, rfl, .inr (.inl rfl), .inr (.inr (.inl rfl)), .inr (.inr (.inr (.inl rfl))), fun g hg => .inr (.inr (.inr (.inr (.inl hg)))), fun g hg => .inr (.inr (.inr (.inr (.inr hg))))⟩⟩, ?_, ho⟩
    · rintro b (rfl | rfl | rfl | rfl | hb | hb)
      · exact Blk.lt hs.blk
      · exact hs.set.blk.lt
      · exact hs.set.map.lt
      · exact hs.list.1.lt
      · exact hs.set.row.lt b hb
      · exact hs.list.2.1.lt b hb
    · exact ⟨fun k hk => (List.not_mem_nil hk).elim, Nat.zero_le _, Valid.nil p, fun _ => ⟨Nat.zero_le _, Nat.zero_le _⟩⟩
    · rintro b (rfl | rfl | rfl | rfl | hb | hb)
      · exact hS
      · exact hT
      · exact hM
      · exact hL
      · exact hv b hb
      · exact hu b hb

/-- A sketch made and filled. -/
theorem ups_made (p : Nat) (xs : List Nat) : ups p (table p []) xs = table p (xs.map (hv p)) := by rw [ups_table, List.nil_append]

set_option maxRecDepth 100000 in
theorem implRegs_any (A : Option Addr) (n c B p : Nat) (b : Bool) (xs : List Nat) (w : World) (hxs : Nums w B .u64 A n xs) (hB : B ≤ w.heap.size) (hx : ∀ x ∈ xs, x < 18446744073709551616) (hn : n < 1099511627776) (h1 : 4 ≤ p) (h2 : p ≤ 18) :
    Calls Tryd.prog 19 #[.int .u8 p, .bool b, .slice A n c] w fun e w' =>
      ∃ v', e = .returned (.tuple #[v', .bool true]) ∧ Row w' 5 .u8 v' (table p (xs.map (hv p))) ∧ (∀ g, v'.ownBlock = some g → w.heap.size ≤ g) ∧ Only (fun _ => False) w w' := by
  have HN := Lib.hid (NewSketch_any p b w h1 h2)
  have HX := Lib.hid hxs
  have HX64 := Lib.hid hx
  have hAB : Hid (∀ ad, A = some ad → 0 < n → ad.block < B) := fun ad ha h0 => by
    obtain ⟨ad2, e, hb, _⟩ := hxs.2 h0
    rw [ha] at e; injection e with e; rw [e]; exact hb
  clear hxs hx
  go_enter Tryd.func19, Tryd.ntmps19
  go_wp2_with fail
  refine HN.out.mono ?_
  rintro e w1 ⟨S, F, rfl, hsk, hF, ho1⟩
  have hs1 := ho1.size
  have HFI := Lib.hid (fill_any S p _ w1 F A n c B xs hsk (HX.out.only hB ho1 (fun _ _ hf => hf)) (by omega) HX64.out hn)
  have HF := Lib.hid hF
  have HO1 := Lib.hid ho1
  clear hsk hF ho1
  go_wp2_with fail
  refine (HFI.out (fun h0 ad ha hf => by have := hAB.out ad ha h0; have := HF.out _ hf; omega)).mono ?_
  rintro e w2 ⟨rfl, F2, hsk2, ho2, hF2⟩
  rw [ups_made] at hsk2
  have HR := Lib.hid (regs_any S p _ True F2 w2 hsk2)
  have HO2 := Lib.hid (HO1.out.trans ho2 (fun b hb hlt => by have := HF.out b hb; omega))
  have HF2 : Hid (∀ b, F2 b → w.heap.size ≤ b) := fun b hb => (hF2 b hb).elim (HF.out b) (fun h => by omega)
  clear hsk2 ho2 hF2
  go_wp2_with fail
  refine HR.out.mono ?_
  rintro e w3 ⟨v', rfl, hr, hn', ho3⟩
  go_wp2_with fail
  go_ret2
  exact ⟨v', rfl, hr, fun g hg => by have := hn' g hg; have := HO2.out.size; omega, HO2.out.trans ho3 (fun b hb hlt => by have := HF2.out b hb; omega)⟩

theorem implRegs_bad (v : Value) (p : Nat) (b : Bool) (w : World) (h : p < 4 ∨ 18 < p) (he : ErrP w) :
    Calls Tryd.prog 19 #[.int .u8 p, .bool b, v] w fun e w' => e = .returned (.tuple #[.slice none 0 0, .bool false]) ∧ w = w' := by
  have HN := Lib.hid (NewSketch_bad p b w h he)
  clear h he
  go_enter Tryd.func19, Tryd.ntmps19
  go_wp2_with fail
  refine HN.out.mono ?_
  rintro e w1 ⟨⟨a, rfl⟩, rfl⟩
  go_wp2_with fail
  go_ret2
  exact ⟨rfl, rfl⟩

theorem ZZCompact_sk (S p : Nat) (t : List Nat) (w : World) (F : Nat → Prop) (h : SkS w S p t True F) (hk : Sk w S p t True F) :
    Calls Tryd.prog 38 #[.pointer (some ⟨S, 0, none⟩)] w fun e w' => e = .returned (.tuple #[]) ∧ Turns w S p t False F w' := by
  have h1 := hk.lo
  have h2 := hk.hi
  have hpb := pow_bounds h1 h2
  obtain ⟨al, T, M, v, K, L, u, ks, hs, hfit, rfl, hFT, hFM, hFL, hFv, hFu⟩ := h
  have hlv := hfit.live trivial
  have hkl : ks.length ≤ 262144 := by have := enc_length_le ks 0; omega
  have HM : Hid (Calls Tryd.prog 62 #[.pointer (some ⟨S, 0, none⟩)] w fun e w' => e = .returned (.tuple #[]) ∧ Turns w S p (table p ((K ++ ks).map (kv p))) False F w') := by
    refine (mergeSparse_any S p al T M L v u K ks w hs hfit.valid.keys (by omega)).mono ?_
    rintro e w' ⟨rfl, M', v', L', u', hsp, hon, hM', hv', hL', hu'⟩
    have hml := mrg_length ks (srt K)
    rw [srt_length] at hml
    have hqv : Valid p (mrg ks (srt K)) := mrg_valid hfit.okK hs.set.nodup hfit.valid (by omega)
    have htab : table p ((K ++ ks).map (kv p)) = table p (([] ++ mrg ks (srt K)).map (kv p)) := by rw [List.nil_append, mrg_table]
    have hsz := hon.size
    refine ⟨rfl, Grown F w w', ⟨⟨Blk.lt hsp.blk, .inl hk.own⟩, fun b hb => hb.1, h1, h2, .inr ⟨al, T, M', v', [], L', u', _, hsp, ⟨fun k hk => (List.not_mem_nil hk).elim, Nat.zero_le _, hqv, fun hf => hf.elim⟩, htab, ⟨hsp.set.blk.lt, .inl hFT⟩, ⟨hsp.set.map.lt, ?_⟩, ⟨hsp.list.1.lt, ?_⟩, fun g hg => ⟨hsp.set.row.lt g hg, ?_⟩, fun g hg => ⟨hsp.list.2.1.lt g hg, ?_⟩⟩⟩, hon.mono (fun b hb _ => hb.elim (fun e => e ▸ hk.own) (fun e => e ▸ hFT)), fun b hb => hb.2⟩
    · exact hM'.elim (fun e => e ▸ .inl hFM) .inr
    · exact hL'.elim (fun e => e ▸ .inl hFL) .inr
    · exact .inl (hFv g (by rw [← hv']; exact hg))
    · exact (hu' g hg).elim (fun e => .inl (hFu g e)) .inr
  clear hs hfit hFT hFM hFL hFv hFu hk hlv
  go_enter Tryd.func38, Tryd.ntmps38
  go_wp2_with fail
  refine HM.out.mono ?_
  rintro e w1 ⟨rfl, hT⟩
  go_wp2_with fail
  go_end0
  exact ⟨rfl, hT⟩

set_option maxRecDepth 100000 in
theorem implCompacted_any (A : Option Addr) (n c B p : Nat) (b : Bool) (xs : List Nat) (w : World) (hxs : Nums w B .u64 A n xs) (hB : B ≤ w.heap.size) (hx : ∀ x ∈ xs, x < 18446744073709551616) (hn : n < 1099511627776) (h1 : 4 ≤ p) (h2 : p ≤ 18) :
    Calls Tryd.prog 22 #[.int .u8 p, .bool b, .slice A n c] w fun e w' =>
      ∃ v', e = .returned (.tuple #[v', .bool true]) ∧ Row w' 5 .u8 v' (table p (xs.map (hv p))) ∧ (∀ g, v'.ownBlock = some g → w.heap.size ≤ g) ∧ Only (fun _ => False) w w' := by
  have hpb := pow_bounds h1 h2
  have HN := Lib.hid (NewSketch_any p b w h1 h2)
  have HX := Lib.hid hxs
  have HX64 := Lib.hid hx
  have hAB : Hid (∀ ad, A = some ad → 0 < n → ad.block < B) := fun ad ha h0 => by
    obtain ⟨ad2, e, hb, _⟩ := hxs.2 h0
    rw [ha] at e; injection e with e; rw [e]; exact hb
  clear hxs hx
  go_enter Tryd.func22, Tryd.ntmps22
  go_wp2_with fail
  refine HN.out.mono ?_
  rintro e w1 ⟨S, F, rfl, hsk, hF, ho1⟩
  have hs1 := ho1.size
  have HFI := Lib.hid (fill_any S p _ w1 F A n c B xs hsk (HX.out.only hB ho1 (fun _ _ hf => hf)) (by omega) HX64.out hn)
  have HF := Lib.hid hF
  have HO1 := Lib.hid ho1
  clear hsk hF ho1
  go_wp2_with fail
  refine (HFI.out (fun h0 ad ha hf => by have := hAB.out ad ha h0; have := HF.out _ hf; omega)).mono ?_
  rintro e w2 ⟨rfl, F2, hsk2, ho2, hF2⟩
  rw [ups_made] at hsk2
  have HSK := Lib.hid hsk2
  have HO2 := Lib.hid (HO1.out.trans ho2 (fun b hb hlt => by have := HF.out b hb; omega))
  have HF2 : Hid (∀ b, F2 b → w.heap.size ≤ b) := fun b hb => (hF2 b hb).elim (HF.out b) (fun h => by omega)
  clear ho2 hF2
  rcases hsk2.is with ⟨al, rv, hd, _, _⟩ | hS
  · have HZ := Lib.hid (ZZState_dense S p al rv _ w2 hd (by rw [table_length]; omega))
    clear hsk2 hd
    go_wp2_with fail
    refine HZ.out.mono ?_
    rintro e w3 ⟨v3, rfl, _, _, ho3⟩
    have HR := Lib.hid (regs_any S p _ True F2 w3 (HSK.out.same ho3))
    have HO3 := Lib.hid (HO2.out.trans ho3 (fun _ hf _ => hf))
    clear ho3
    go_wp2_with fail
    refine HR.out.mono ?_
    rintro e w4 ⟨v', rfl, hr, hn', ho4⟩
    go_wp2_with fail
    go_ret2
    exact ⟨v', rfl, hr, fun g hg => by have := hn' g hg; have := HO3.out.size; omega, HO3.out.trans ho4 (fun b hb hlt => by have := HF2.out b hb; omega)⟩
  · have HS := Lib.hid hS
    obtain ⟨al, T, M, v, K, L, u, ks, hs, hfit, _⟩ := hS
    have HZ := Lib.hid (ZZState_sparse S p al T M L v u K ks w2 hs hfit.valid.keys (by have := hfit.lenK; omega))
    clear hs hfit hsk2
    go_wp2_with fail
    refine HZ.out.mono ?_
    rintro e w3 ⟨v1, v2, v3, rfl, ho3⟩
    have HC := Lib.hid (ZZCompact_sk S p _ w3 F2 (HS.out.only ho3 (fun hf => hf) (fun _ _ hf => hf)) (HSK.out.same ho3))
    have HO3 := Lib.hid (HO2.out.trans ho3 (fun _ hf _ => hf))
    clear ho3
    go_wp2_with fail
    refine HC.out.mono ?_
    rintro e w4 ⟨rfl, F4, hsk4, ho4, hF4⟩
    have HR := Lib.hid (regs_any S p _ False F4 w4 hsk4)
    have HO4 := Lib.hid (HO3.out.trans ho4 (fun b hb hlt => by have := HF2.out b hb; omega))
    have HF4 : Hid (∀ b, F4 b → w.heap.size ≤ b) := fun b hb => (hF4 b hb).elim (HF2.out b) (fun h => by have := HO3.out.size; omega)
    clear hsk4 ho4 hF4
    go_wp2_with fail
    refine HR.out.mono ?_
    rintro e w5 ⟨v', rfl, hr, hn', ho5⟩
    go_wp2_with fail
    go_ret2
    exact ⟨v', rfl, hr, fun g hg => by have := hn' g hg; have := HO4.out.size; omega, HO4.out.trans ho5 (fun b hb hlt => by have := HF4.out b hb; omega)⟩

/-- A number that is written in one byte. -/
theorem Put1_any (w : World) :
    Calls Tryd.prog 18 #[.int .u32 1] w fun e w' => (∃ A4 c4, e = .returned (.slice A4 1 c4)) ∧ Only (fun _ => False) w w' := by
  refine (PutVarint_any 1 w (by omega)).mono ?_
  rintro e w4 ⟨v4, rfl, hrow4, hon4⟩
  obtain ⟨A4, c4, rfl, _⟩ := hrow4.nums
  have h1 : (varint 1).length = 1 := by rw [varint_small (by omega)]; rfl
  exact ⟨⟨A4, c4, by rw [h1]⟩, hon4⟩

/-- Two rows of registers are the same. -/
theorem same_rows {v1 v2 : Value} {xs : List Nat} {w W : World} (h1 : Row w 5 .u8 v1 xs) (h2 : Row W 5 .u8 v2 xs) (ho : Only (fun _ => False) w W) (hl : xs.length < 1099511627776) (q : Nat) :
    Calls Tryd.prog 21 #[v1, v2] (W.drewN q) fun e w' => e = .returned (.bool true) ∧ ∃ q, w' = W.drewN q := by
  obtain ⟨A1, c1, rfl, _, hn1, _, _⟩ := h1.nums
  obtain ⟨A2, c2, rfl, _, hn2, _, _⟩ := h2.nums
  have h3 := (hn1.only (Nat.le_refl _) ho (fun _ _ hf => hf)).more ho.size
  refine (Same_any A1 A2 _ _ c1 c2 W.heap.size xs xs (W.drewN q) h3 hn2 hl hl).mono ?_
  rintro e w' ⟨rfl, q', rfl⟩
  exact ⟨by simp, q + q', by simp⟩

theorem lawRegs_long (A : Option Addr) (n c p : Nat) (b : Bool) (w : World) (h : 2147483647 < n) :
    Calls Tryd.prog 6 #[.int .u8 p, .bool b, .slice A n c] w fun e w' => e = .returned (.bool true) ∧ Below w.heap.size w w' := by
  go_enter Tryd.func6, Tryd.ntmps6
  go_wp2
  go_ret
  exact ⟨rfl, Below.refl _ _⟩

set_option maxRecDepth 100000 in
theorem lawRegs_bad (A : Option Addr) (n c p : Nat) (b : Bool) (w : World) (hn : n ≤ 2147483647) (h : p < 4 ∨ 18 < p) (he : ErrP w) :
    Calls Tryd.prog 6 #[.int .u8 p, .bool b, .slice A n c] w fun e w' => e = .returned (.bool true) ∧ Below w.heap.size w w' := by
  have hn' : ¬ (2147483647 : Int) < (n : Int) := by omega
  have HR := Lib.hid (implRegs_bad (.slice A n c) p b w h he)
  have HRT := Lib.hid (fun W => Right_no p W h)
  clear hn h he
  go_enter Tryd.func6, Tryd.ntmps6
  go_wp2_with fail
  refine HR.out.mono ?_
  rintro e w1 ⟨rfl, rfl⟩
  go_wp2_with fail
  refine (HRT.out _).mono ?_
  rintro e w1 ⟨rfl, rfl⟩
  go_wp2_with fail
  refine (Put1_any _).mono ?_
  rintro e w2 ⟨⟨A4, c4, rfl⟩, ho2⟩
  go_wp2_with fail
  go_ret
  exact ⟨rfl, ho2.new⟩

set_option maxRecDepth 100000 in
theorem lawRegs_any (A : Option Addr) (n c p : Nat) (b : Bool) (xs : List Nat) (w : World) (hxs : Nums w w.heap.size .u64 A n xs) (hx : ∀ x ∈ xs, x < 18446744073709551616) (hn : n ≤ 2147483647) (h1 : 4 ≤ p) (h2 : p ≤ 18) :
    Calls Tryd.prog 6 #[.int .u8 p, .bool b, .slice A n c] w fun e w' => e = .returned (.bool true) ∧ Below w.heap.size w w' := by
  have hpb := pow_bounds h1 h2
  have hn' : ¬ (2147483647 : Int) < (n : Int) := by omega
  have HR := Lib.hid (implRegs_any A n c _ p b xs w hxs (Nat.le_refl _) hx (by omega) h1 h2)
  have HS : Hid (∀ W, Only (fun _ => False) w W → Calls Tryd.prog 23 #[.int .u8 p, .slice A n c] W fun e w' =>
      ∃ v', e = .returned v' ∧ Row w' 5 .u8 v' (table p (xs.map (hv p))) ∧ (∀ g, v'.ownBlock = some g → W.heap.size ≤ g) ∧ Only (fun _ => False) W w') := fun W hW =>
    specRegs_any A n c w.heap.size p xs W (hxs.only (Nat.le_refl _) hW (fun _ _ hf => hf)) hW.size hx (by omega) h1 h2
  clear hn hxs hx
  go_enter Tryd.func6, Tryd.ntmps6
  go_wp2_with fail
  refine HR.out.mono ?_
  rintro e w1 ⟨v1, rfl, hr1, _, ho1⟩
  have HR1 := Lib.hid hr1
  have HO1 := Lib.hid ho1
  clear hr1 ho1
  go_wp2_with fail
  refine (Right_yes p _ h1 h2).mono ?_
  rintro e w2 ⟨rfl, rfl⟩
  go_wp2_with fail
  refine (HS.out _ HO1.out).mono ?_
  rintro e w2 ⟨v2, rfl, hr2, _, ho2⟩
  have HSM := Lib.hid (same_rows HR1.out hr2 ho2 (by rw [table_length]; omega) 0)
  have HO2 := Lib.hid (HO1.out.trans ho2 (fun _ hf _ => hf))
  clear hr2 ho2
  go_wp2_with fail
  refine HSM.out.mono ?_
  rintro e w3 ⟨rfl, q, rfl⟩
  go_wp2_with fail
  go_ret
  exact ⟨rfl, (HO2.out.drewN q).new⟩
end Go.Proofs.YtoegfdndoeiolaaDoor

/- Walks: the laws FnSetAlone and FnCompacted. Conditions: the hashes are 64-bit numbers. -/
namespace Go.Proofs.YtoegfdndoeiolaaDoor
open Go.RowKit

theorem lawCompacted_long (A : Option Addr) (n c p : Nat) (b : Bool) (w : World) (h : 2147483647 < n) :
    Calls Tryd.prog 5 #[.int .u8 p, .bool b, .slice A n c] w fun e w' => e = .returned (.bool true) ∧ Below w.heap.size w w' := by
  go_enter Tryd.func5, Tryd.ntmps5
  go_wp2
  go_ret
  exact ⟨rfl, Below.refl _ _⟩
theorem lawCompacted_bad (A : Option Addr) (n c p : Nat) (b : Bool) (w : World) (hn : n ≤ 2147483647) (h : p < 4 ∨ 18 < p) :
    Calls Tryd.prog 5 #[.int .u8 p, .bool b, .slice A n c] w fun e w' => e = .returned (.bool true) ∧ Below w.heap.size w w' := by
  have hn' : ¬ (2147483647 : Int) < (n : Int) := by omega
  have HRT := Lib.hid (fun W => Right_no p W h)
  clear hn h
  go_enter Tryd.func5, Tryd.ntmps5
  go_wp2_with fail
  refine (HRT.out _).mono ?_
  rintro e w1 ⟨rfl, rfl⟩
  go_wp2_with fail
  go_ret
  exact ⟨rfl, Below.refl _ _⟩
set_option maxRecDepth 100000 in
theorem lawCompacted_any (A : Option Addr) (n c p : Nat) (b : Bool) (xs : List Nat) (w : World) (hxs : Nums w w.heap.size .u64 A n xs) (hx : ∀ x ∈ xs, x < 18446744073709551616) (hn : n ≤ 2147483647) (h1 : 4 ≤ p) (h2 : p ≤ 18) :
    Calls Tryd.prog 5 #[.int .u8 p, .bool b, .slice A n c] w fun e w' => e = .returned (.bool true) ∧ Below w.heap.size w w' := by
  have hpb := pow_bounds h1 h2
  have hn' : ¬ (2147483647 : Int) < (n : Int) := by omega
  have HR := Lib.hid (implCompacted_any A n c _ p b xs w hxs (Nat.le_refl _) hx (by omega) h1 h2)
  have HS : Hid (∀ W, Only (fun _ => False) w W → Calls Tryd.prog 23 #[.int .u8 p, .slice A n c] W fun e w' =>
      ∃ v', e = .returned v' ∧ Row w' 5 .u8 v' (table p (xs.map (hv p))) ∧ (∀ g, v'.ownBlock = some g → W.heap.size ≤ g) ∧ Only (fun _ => False) W w') := fun W hW =>
    specRegs_any A n c w.heap.size p xs W (hxs.only (Nat.le_refl _) hW (fun _ _ hf => hf)) hW.size hx (by omega) h1 h2
  clear hn hxs hx
  go_enter Tryd.func5, Tryd.ntmps5
  go_wp2_with fail
  refine (Right_yes p _ h1 h2).mono ?_
  rintro e w2 ⟨rfl, rfl⟩
  go_wp2_with fail
  refine HR.out.mono ?_
  rintro e w1 ⟨v1, rfl, hr1, _, ho1⟩
  have HR1 := Lib.hid hr1
  have HO1 := Lib.hid ho1
  clear hr1 ho1
  go_wp2_with fail
  refine (HS.out _ HO1.out).mono ?_
  rintro e w2 ⟨v2, rfl, hr2, _, ho2⟩
  have HSM := Lib.hid (same_rows HR1.out hr2 ho2 (by rw [table_length]; omega) 0)
  have HO2 := Lib.hid (HO1.out.trans ho2 (fun _ hf _ => hf))
  clear hr2 ho2
  go_wp2_with fail
  refine HSM.out.mono ?_
  rintro e w3 ⟨rfl, q, rfl⟩
  go_wp2_with fail
  go_ret
  exact ⟨rfl, (HO2.out.drewN q).new⟩

theorem lawSet_long (A : Option Addr) (n c p : Nat) (w : World) (h : 2147483647 < n) :
    Calls Tryd.prog 4 #[.int .u8 p, .slice A n c] w fun e w' => e = .returned (.bool true) ∧ Below w.heap.size w w' := by
  go_enter Tryd.func4, Tryd.ntmps4
  go_wp2
  go_ret
  exact ⟨rfl, Below.refl _ _⟩
theorem lawSet_bad (A : Option Addr) (n c p : Nat) (w : World) (hn : n ≤ 2147483647) (h : p < 4 ∨ 18 < p) :
    Calls Tryd.prog 4 #[.int .u8 p, .slice A n c] w fun e w' => e = .returned (.bool true) ∧ Below w.heap.size w w' := by
  have hn' : ¬ (2147483647 : Int) < (n : Int) := by omega
  have HRT := Lib.hid (fun W => Right_no p W h)
  clear hn h
  go_enter Tryd.func4, Tryd.ntmps4
  go_wp2_with fail
  refine (HRT.out _).mono ?_
  rintro e w1 ⟨rfl, rfl⟩
  go_wp2_with fail
  go_ret
  exact ⟨rfl, Below.refl _ _⟩
set_option maxRecDepth 100000 in
theorem lawSet_any (A : Option Addr) (n c p : Nat) (xs : List Nat) (w : World) (hxs : Nums w w.heap.size .u64 A n xs) (hx : ∀ x ∈ xs, x < 18446744073709551616) (hn : n ≤ 2147483647) (h1 : 4 ≤ p) (h2 : p ≤ 18) :
    Calls Tryd.prog 4 #[.int .u8 p, .slice A n c] w fun e w' => e = .returned (.bool true) ∧ Below w.heap.size w w' := by
  have hpb := pow_bounds h1 h2
  have hn' : ¬ (2147483647 : Int) < (n : Int) := by omega
  have hlx := hxs.1
  have HR := Lib.hid (implRegs_any A n c _ p true xs w hxs (Nat.le_refl _) hx (by omega) h1 h2)
  have HT : Hid (∀ W, Only (fun _ => False) w W → Calls Tryd.prog 20 #[.slice A n c] W fun e w' =>
      ∃ v', e = .returned v' ∧ Row w' 25 .u64 v' (trn xs n) ∧ (∀ g, v'.ownBlock = some g → W.heap.size ≤ g) ∧ Only (fun _ => False) W w') := fun W hW =>
    Turned_any A n c w.heap.size xs W (hxs.only (Nat.le_refl _) hW (fun _ _ hf => hf)) hW.size (by omega)
  have HG : Hid (∀ W v b, Row W 25 .u64 v (trn xs n) → Calls Tryd.prog 19 #[.int .u8 p, .bool b, v] W fun e w' =>
      ∃ v', e = .returned (.tuple #[v', .bool true]) ∧ Row w' 5 .u8 v' (table p (xs.map (hv p))) ∧ (∀ g, v'.ownBlock = some g → W.heap.size ≤ g) ∧ Only (fun _ => False) W w') := fun W v b hr => by
    obtain ⟨A2, c2, rfl, _, hn2, _, _⟩ := hr.nums
    have h := implRegs_any A2 _ c2 W.heap.size p b _ W hn2 (Nat.le_refl _) (fun x hxm => hx x (trn_mem (by omega) x hxm)) (by rw [trn_length]; omega) h1 h2
    have e : table p ((trn xs n).map (hv p)) = table p (xs.map (hv p)) := by rw [← hlx]; exact trn_table p xs
    rw [e] at h
    exact h
  clear hn hxs hx
  go_enter Tryd.func4, Tryd.ntmps4
  go_wp2_with fail
  refine (Right_yes p _ h1 h2).mono ?_
  rintro e w0 ⟨rfl, rfl⟩
  go_wp2_with fail
  refine HR.out.mono ?_
  rintro e w1 ⟨v1, rfl, hr1, _, ho1⟩
  have HR1 := Lib.hid hr1
  have HO1 := Lib.hid ho1
  clear hr1 ho1
  go_wp2_with fail
  refine (HT.out _ HO1.out).mono ?_
  rintro e w2 ⟨v2, rfl, hr2, _, ho2⟩
  have HG2 := Lib.hid (HG.out w2 v2 false hr2)
  have HO2 := Lib.hid (HO1.out.trans ho2 (fun _ hf _ => hf))
  have HP2 := Lib.hid ho2
  clear hr2 ho2
  go_wp2_with fail
  refine HG2.out.mono ?_
  rintro e w3 ⟨v3, rfl, hr3, _, ho3⟩
  have HR3 := Lib.hid hr3
  have HO3 := Lib.hid (HO2.out.trans ho3 (fun _ hf _ => hf))
  have HP3 := Lib.hid (HP2.out.trans ho3 (fun _ hf _ => hf))
  clear hr3 ho3
  go_wp2_with fail
  refine (HT.out _ HO3.out).mono ?_
  rintro e w4 ⟨v4, rfl, hr4, _, ho4⟩
  have HG4 := Lib.hid (HG.out w4 v4 true hr4)
  have HO4 := Lib.hid (HO3.out.trans ho4 (fun _ hf _ => hf))
  have HP4 := Lib.hid ho4
  clear hr4 ho4
  go_wp2_with fail
  refine HG4.out.mono ?_
  rintro e w5 ⟨v5, rfl, hr5, _, ho5⟩
  have HO5 := Lib.hid (HO4.out.trans ho5 (fun _ hf _ => hf))
  have h34 := HP4.out.trans ho5 (fun _ hf _ => hf)
  have h3 := HR3.out.only h34 (fun _ _ hf => hf)
  have HSA := Lib.hid (same_rows HR1.out h3 (HP3.out.trans h34 (fun _ hf _ => hf)) (by rw [table_length]; omega) 0)
  have HSB := Lib.hid (same_rows HR1.out hr5 (HP3.out.trans h34 (fun _ hf _ => hf)) (by rw [table_length]; omega))
  clear hr5 ho5 h34 h3
  go_wp2_with fail
  refine HSA.out.mono ?_
  rintro e w6 ⟨rfl, q, rfl⟩
  go_wp2_with fail
  refine (HSB.out q).mono ?_
  rintro e w7 ⟨rfl, q2, rfl⟩
  go_wp2_with fail
  go_ret
  exact ⟨rfl, (HO5.out.drewN q2).new⟩
end Go.Proofs.YtoegfdndoeiolaaDoor

/- Walks: a list, a set, a sketch are copied. Conditions: the list's keys rise and are below 2^32; the set has fewer than 2^40 keys. -/
namespace Go.Proofs.YtoegfdndoeiolaaDoor
open Go.RowKit

theorem mk_vl (m : Nat) (h : m ≤ 1099511627776) (k : IntKind) : ∀ W : World, (Instr.makeSlice 88 (.int k (m : Int)) (.int k (m : Int))).run Tryd.prog W = .ok (.slice (some ⟨W.heap.size, 0, none⟩) m m) (W.alloc (.cells (madeCells #[.int .u8 0] m) 5)) := fun W => by
  obtain ⟨i0, hi, hz0, hz1, hz2⟩ := info_parts info_u8
  have h := run_make_rowN (P := Tryd.prog) 88 5 i0 (.int .u8 0) Tryd.underlying88 hi hz0 k k m m (Nat.le_refl _) (by rw [hz2]; omega) (by omega) W
  rw [hz1, Nat.mul_one] at h
  exact h

theorem listClone_nil (w : World) :
    Calls Tryd.prog 64 #[.pointer none] w fun e w' => e = .returned (.pointer none) ∧ w = w' := by
  go_enter Tryd.func64, Tryd.ntmps64
  go_wp2
  go_ret
  exact ⟨rfl, rfl⟩

set_option maxHeartbeats 1000000 in
set_option maxRecDepth 100000 in
theorem listClone_any (L : Nat) (u : Value) (ks : List Nat) (w : World) (h : CList w L u ks) (hk : Keys ks) :
    Calls Tryd.prog 64 #[.pointer (some ⟨L, 0, none⟩)] w fun e w' =>
      ∃ L' u', e = .returned (.pointer (some ⟨L', 0, none⟩)) ∧ CList w' L' u' ks ∧ w.heap.size ≤ L' ∧ (∀ g, u'.ownBlock = some g → w.heap.size ≤ g) ∧ Only (fun _ => False) w w' := by
  obtain ⟨m, hm⟩ : ∃ m, (encFrom 0 ks).length = m := ⟨_, rfl⟩
  have hm1 : m ≤ 1099511627776 := by rw [← hm]; exact Nat.le_of_lt hk.len
  have mk := mk_vl m hm1 .i64
  obtain ⟨A, c, rfl, hc, hn, hA, hAn⟩ := h.2.1.nums
  rw [hm] at hn hc h
  have c0 : w.cell? ⟨L, 0, none⟩ = some (.int .u32 (ks.length : Nat)) := h.1.cell 0
  have c1 : w.cell? ⟨L, 1, none⟩ = some (.int .u32 (lastOr 0 ks : Nat)) := h.1.cell 1
  have c2 : w.cell? ⟨L, 2, none⟩ = some (.slice A m c) := h.1.cell 2
  have H := Lib.hid h
  have HN := Lib.hid hn
  have HM := Lib.hid hm
  have hLlt : L < w.heap.size := h.1.lt
  clear h hn hk hm hA hAn
  go_enter Tryd.func64, Tryd.ntmps64
  go_wp2_with fail
  go_region
  all_goals
    go_wp2_with fail
    obtain ⟨x, hx⟩ : ∃ x, x = (w.alloc (.cells #[.int .u32 (ks.length : Int), .int .u32 (lastOr 0 ks : Int), .slice (some ⟨w.heap.size + 1, 0, none⟩) m m] 106)).alloc (.cells (madeCells #[.int .u8 0] m) 5) := ⟨_, rfl⟩
    rw [← hx]
    have hox : Only (fun _ => False) w x := by rw [hx]; exact ((Only.refl _ w).alloc _).alloc _
    have hbx : Blk x w.heap.size 106 #[.int .u32 (ks.length : Int), .int .u32 (lastOr 0 ks : Int), .slice (some ⟨w.heap.size + 1, 0, none⟩) m m] := by rw [hx]; exact (Blk.new w _ _).alloc _
    have hrx : Row x 5 .u8 (.slice (some ⟨w.heap.size + 1, 0, none⟩) m m) (List.replicate m 0) := by
      have h := row_made (w.alloc (.cells #[.int .u32 (ks.length : Int), .int .u32 (lastOr 0 ks : Int), .slice (some ⟨w.heap.size + 1, 0, none⟩) m m] 106)) 5 .u8 m (by omega)
      rw [show (w.alloc (.cells #[.int .u32 (ks.length : Int), .int .u32 (lastOr 0 ks : Int), .slice (some ⟨w.heap.size + 1, 0, none⟩) m m] 106)).heap.size = w.heap.size + 1 from by simp] at h
      rw [hx]; exact h
    have hd := (Only.refl (fun _ => False) x).drew.drew
    obtain ⟨w1, hcopy, hrow1, hon1⟩ := run_copy_nums (P := Tryd.prog) (w := x.drew.drew) 88 88 3 5 Tryd.underlying88 (by kernel_rfl) .u8 _ _ (hrx.only hd (fun _ _ hf => hf)) w.heap.size m c A (encFrom 0 ks) (HN.out.only (Nat.le_refl _) (hox.trans hd (fun _ hf _ => hf)) (fun _ _ hf => hf)) (by simp)
    have d2 : x.cell? ⟨w.heap.size, 2, none⟩ = some (.slice (some ⟨w.heap.size + 1, 0, none⟩) m m) := hbx.cell 2
    have e2 : x.cell? ⟨L, 2, none⟩ = some (.slice A m c) := (H.out.only hox (fun hf => hf) (fun _ _ hf => hf)).1.cell 2
    have HX := Lib.hid hox
    have HB := Lib.hid hbx
    have HR1 := Lib.hid hrow1
    have HO1 := Lib.hid hon1
    clear hx hox hbx hrx hd hrow1 hon1
    go_region
    all_goals
      go_wp2_with fail
      go_ret
      have hw1 : Only (fun _ => False) w w1 := (HX.out.drew.drew).trans HO1.out (fun b hb hlt => by
        have e : w.heap.size + 1 = b := by simpa [Value.ownBlock] using hb
        omega)
      have hb1 : Blk w1 w.heap.size 106 #[.int .u32 (ks.length : Int), .int .u32 (lastOr 0 ks : Int), .slice (some ⟨w.heap.size + 1, 0, none⟩) m m] := by
        refine (HB.out.drew.drew).only HO1.out (fun hb => ?_)
        simp [Value.ownBlock] at hb
      refine ⟨w.heap.size, _, rfl, ⟨hb1, HR1.out, H.out.2.2⟩, Nat.le_refl _, fun g hg => ?_, hw1⟩
      have e : w.heap.size + 1 = g := by simpa [Value.ownBlock] using hg
      omega

/-- A key is put into the copy. -/
theorem cloneStep_any (T2 M2 x k : Nat) (v : Value) (K : List Nat) (w : World) (hx : w.cell? ⟨x, 0, none⟩ = some (.pointer (some ⟨T2, 0, none⟩))) (h : USet w T2 v M2 K) (hk : k < 4294967296) (hn : k ∉ K) (hl : K.length < 1099511627776) :
    Calls Tryd.prog 96 #[.int .u32 (k : Nat), .pointer (some ⟨x, 0, none⟩)] w fun e w' => e = .returned (.bool true) ∧ ∃ v', USet w' T2 v' M2 (K ++ [k]) ∧ Only (fun b => b = T2 ∨ b = M2 ∨ v.ownBlock = some b) w w' ∧ Lies w v v' := by
  have HA := Lib.hid (Add_any T2 M2 k v K w h hk hl)
  clear h
  go_enter Tryd.func96, Tryd.ntmps96
  go_wp2_with fail
  refine HA.out.mono ?_
  rintro e w1 (⟨hin, _⟩ | ⟨_, rfl, v', hs, ho, hl⟩)
  · exact absurd hin hn
  go_wp2_with fail
  go_ret
  exact ⟨rfl, v', hs, ho, hl⟩

/-- The keys of a set, put into a new one. -/
theorem cloneAll_any (T M T2 M2 x : Nat) (v : Value) (K : List Nat) (w : World) (B : Nat) (h : USet w T v M K) (h2 : USet w T2 (.slice none 0 0) M2 []) (hx : Blk w x 69 #[.pointer (some ⟨T2, 0, none⟩)]) (hl : K.length < 1099511627776)
    (hB : B ≤ T2) (hBM : B ≤ M2) (hT : T < B) (hM : M < B) (hv : ∀ g, v.ownBlock = some g → g < B) (hBw : B ≤ w.heap.size) :
    Calls Tryd.prog 87 #[.pointer (some ⟨T, 0, none⟩), .func (.func 96) #[] #[.pointer (some ⟨x, 0, none⟩)]] w fun e w' => e = .returned (.tuple #[]) ∧
      ∃ v', USet w' T2 v' M2 K ∧ Only (fun b => B ≤ b) w w' ∧ (∀ g, v'.ownBlock = some g → B ≤ g) ∧ Blk w' x 69 #[.pointer (some ⟨T2, 0, none⟩)] := by
  refine (ForEachClone_any T M v K w _ (fun i W => ∃ v', USet W T2 v' M2 (K.take i) ∧ Only (fun b => B ≤ b) w W ∧ (∀ g, v'.ownBlock = some g → B ≤ g) ∧ Blk W x 69 #[.pointer (some ⟨T2, 0, none⟩)]) h ⟨_, by rw [List.take_zero]; exact h2, Only.refl _ _, by simp [Value.ownBlock], hx⟩ hl ?_ ?_).mono ?_
  · rintro i W ⟨v', _, ho, _⟩ _
    exact h.only ho (by omega) (fun g hg e => by have := hv g hg; omega) (by omega)
  · rintro i W hi ⟨v', hs, ho, hn, hb⟩
    have hki : K.getD i 0 ∈ K := mem_getD hi
    have hnot : K.getD i 0 ∉ K.take i := by
      intro hmem
      have hnd := h.nodup
      rw [list_split K i hi, List.nodup_append] at hnd
      exact hnd.2.2 _ hmem _ (by simp) rfl
    refine (cloneStep_any T2 M2 x (K.getD i 0) v' (K.take i) W (hb.cell 0) hs (h.lt _ hki) hnot (by rw [List.length_take]; omega)).mono ?_
    rintro e w' ⟨rfl, v2, hs2, ho2, hl2⟩
    refine ⟨rfl, v2, by rw [list_take_succ K i hi]; exact hs2, ho.trans ho2 ?_, ?_, hb.only ho2 ?_⟩
    · rintro b (rfl | rfl | e) _
      · exact hB
      · exact hBM
      · exact hn b e
    · intro g hg
      rcases hl2 with e | ⟨g', e, hge⟩
      · exact hn g (by rw [← e]; exact hg)
      · rw [hg] at e; injection e with e; have := ho.size; omega
    · rintro (e | e | e)
      · exact hs.blk.ne_ hb (by decide) e.symm
      · exact hs.map.ne hb e.symm
      · exact hs.row.blk_ne hb (by decide) e
  · rintro e w' ⟨rfl, v', hs, ho, hn, hb⟩
    rw [List.take_length] at hs
    exact ⟨rfl, v', hs, ho, hn, hb⟩

theorem sClone_nil (w : World) :
    Calls Tryd.prog 63 #[.agg #[.pointer none]] w fun e w' => e = .returned (.agg #[.pointer none]) ∧ Only (fun _ => False) w w' := by
  go_enter Tryd.func63, Tryd.ntmps63
  have hbr : ((w.alloc (.cells #[.pointer none] 71)).alloc (.cells #[.pointer none] 71)).cell? ⟨w.heap.size + 1, 0, none⟩ = some (.pointer none) := by
    have h := Blk.new (w.alloc (.cells #[.pointer none] 71)) 71 #[.pointer none]
    rw [show (w.alloc (.cells #[.pointer none] 71)).heap.size = w.heap.size + 1 from by simp] at h
    exact h.cell 0
  go_wp2_with fail
  refine bodyPost_ret (v := .agg #[.pointer none]) (by simp [results, Tryd.results63, go_sem, hbr]) rfl ⟨rfl, ((Only.refl _ w).alloc _).alloc _⟩

set_option maxHeartbeats 1000000 in
set_option maxRecDepth 100000 in
theorem sClone_any (T M : Nat) (v : Value) (K : List Nat) (w : World) (h : USet w T v M K) (hl : K.length < 1099511627776) :
    Calls Tryd.prog 63 #[.agg #[.pointer (some ⟨T, 0, none⟩)]] w fun e w' =>
      ∃ T' M' v', e = .returned (.agg #[.pointer (some ⟨T', 0, none⟩)]) ∧ USet w' T' v' M' K ∧ w.heap.size ≤ T' ∧ w.heap.size ≤ M' ∧ (∀ g, v'.ownBlock = some g → w.heap.size ≤ g) ∧ Only (fun _ => False) w w' := by
  have hmf := hmf
  have hTl : T < w.heap.size := h.blk.lt
  have hMl : M < w.heap.size := h.map.lt
  have hvl : Hid (∀ g, v.ownBlock = some g → g < w.heap.size) := h.row.lt
  have HS : Hid (∀ W, Only (fun _ => False) w W → USet W T v M K) := fun W hW => h.only hW (fun hf => hf) (fun _ _ hf => hf) (fun hf => hf)
  have HL : Hid (∀ W, Only (fun _ => False) w W → Calls Tryd.prog 95 #[.pointer (some ⟨T, 0, none⟩)] W fun e w' => e = .returned (.int .i64 (K.length : Nat)) ∧ W = w') := fun W hW => setLen_any T M v K W (HS.out W hW)
  obtain ⟨n, hn⟩ : ∃ n, K.length = n := ⟨_, rfl⟩
  rw [hn] at HL
  have HN := Lib.hid hn
  clear h hn
  go_enter Tryd.func63, Tryd.ntmps63
  have ho0 : Only (fun _ => False) w ((w.alloc (.cells #[.pointer (some ⟨T, 0, none⟩)] 71)).alloc (.cells #[.pointer none] 71)) := ((Only.refl _ w).alloc _).alloc _
  have hbb := (Blk.new w 71 #[.pointer (some ⟨T, 0, none⟩)]).alloc (.cells #[.pointer none] 71)
  have hbr : Blk ((w.alloc (.cells #[.pointer (some ⟨T, 0, none⟩)] 71)).alloc (.cells #[.pointer none] 71)) (w.heap.size + 1) 71 #[.pointer none] := by
    have h := Blk.new (w.alloc (.cells #[.pointer (some ⟨T, 0, none⟩)] 71)) 71 #[.pointer none]
    rw [show (w.alloc (.cells #[.pointer (some ⟨T, 0, none⟩)] 71)).heap.size = w.heap.size + 1 from by simp] at h
    exact h
  have hsz : ((w.alloc (.cells #[.pointer (some ⟨T, 0, none⟩)] 71)).alloc (.cells #[.pointer none] 71)).heap.size = w.heap.size + 2 := by simp
  obtain ⟨w0, hw0⟩ : ∃ w0, w0 = (w.alloc (.cells #[.pointer (some ⟨T, 0, none⟩)] 71)).alloc (.cells #[.pointer none] 71) := ⟨_, rfl⟩
  go_wp2_with fail
  rw [← hw0] at ho0 hbb hbr hsz ⊢
  have HO0 := Lib.hid ho0
  have HBB := Lib.hid hbb
  have HBR := Lib.hid hbr
  have hL0 := HL.out w0 ho0
  clear ho0 hbb hbr hw0
  refine hL0.mono ?_
  rintro e w1 ⟨rfl, rfl⟩
  go_wp2_with fail
  refine (newU32Set_any n w0).mono ?_
  rintro e w1 ⟨T2, M2, rfl, hT2, hM2, hs2, ho1⟩
  have HS2 := Lib.hid hs2
  have HO1 := Lib.hid (HO0.out.trans ho1 (fun _ hf _ => hf))
  have HBB1 := Lib.hid (HBB.out.only ho1 (fun hf => hf))
  have HBR1 := Lib.hid (HBR.out.only ho1 (fun hf => hf))
  have b0 : w1.cell? ⟨w.heap.size, 0, none⟩ = some (.pointer (some ⟨T, 0, none⟩)) := HBB1.out.cell 0
  have hs1 := ho1.size
  have hxa : Only (fun _ => False) w1 (w1.alloc (.cells #[.pointer (some ⟨T2, 0, none⟩)] 69)) := (Only.refl _ w1).alloc _
  have b1 : (w1.alloc (.cells #[.pointer (some ⟨T2, 0, none⟩)] 69)).cell? ⟨w.heap.size, 0, none⟩ = some (.pointer (some ⟨T, 0, none⟩)) := (HBB1.out.only hxa (fun hf => hf)).cell 0
  have hoA : Only (fun _ => False) w (w1.alloc (.cells #[.pointer (some ⟨T2, 0, none⟩)] 69)) := HO1.out.trans hxa (fun _ hf _ => hf)
  have HCA := Lib.hid (cloneAll_any T M T2 M2 w1.heap.size v K _ w0.heap.size (HS.out _ hoA) (hs2.only hxa (fun hf => hf) (fun _ _ hf => hf) (fun hf => hf)) (Blk.new w1 _ _) hl hT2 hM2 (by omega) (by omega) (fun g hg => by have := hvl.out g hg; omega) (by have := hxa.size; omega))
  have HBR2 := Lib.hid (HBR1.out.only hxa (fun hf => hf))
  have HOA := Lib.hid hoA
  have hne : ¬ w0.heap.size ≤ w.heap.size + 1 := by omega
  clear hs2 ho1 hxa hoA b0
  go_wp2_with fail
  refine HCA.out.mono ?_
  rintro e w3 ⟨rfl, v', hs3, ho3, hn3, hb3⟩
  have x0 := hb3.cell 0
  have hbr3 := HBR2.out.only ho3 hne
  have r0 := hbr3.cell 0
  have f0 := hbr3.frozen 0
  have hbr4 := hbr3.set_ 0 (.pointer (some ⟨T2, 0, none⟩))
  have r4 : (w3.setCell ⟨w.heap.size + 1, 0, none⟩ (.pointer (some ⟨T2, 0, none⟩))).cell? ⟨w.heap.size + 1, 0, none⟩ = some (.pointer (some ⟨T2, 0, none⟩)) := hbr4.cell 0
  have HS3 := Lib.hid hs3
  have HO3 := Lib.hid ((HOA.out.mono (T := fun b => w0.heap.size ≤ b) (fun _ hf _ => hf.elim)).trans ho3 (fun b hb _ => hb))
  clear hs3 ho3 hb3 hbr3 hbr4
  go_wp2_with fail
  have hO4 : Only (fun b => b = w.heap.size + 1) w3 (w3.setCell ⟨w.heap.size + 1, 0, none⟩ (.pointer (some ⟨T2, 0, none⟩))) := (Only.refl (fun b => b = w.heap.size + 1) w3).setCell (fun _ => rfl) _
  refine bodyPost_ret (v := .agg #[.pointer (some ⟨T2, 0, none⟩)]) (by simp [results, Tryd.results63, go_sem, r4]) rfl ⟨T2, M2, v', rfl, HS3.out.only hO4 (by omega) (fun g hg e => by have := hn3 g hg; omega) (by omega), by omega, by omega, fun g hg => by have := hn3 g hg; omega, ?_⟩
  exact (HO3.out.mono (T := fun b => w.heap.size ≤ b) (fun b (hb : w0.heap.size ≤ b) _ => show w.heap.size ≤ b by omega)).trans hO4 (fun b e hlt => by omega) |>.mono (fun b (hb : w.heap.size ≤ b) hlt => by omega)
end Go.Proofs.YtoegfdndoeiolaaDoor

/- Walks: a sketch is copied. No condition beyond the sketch's own. -/
namespace Go.Proofs.YtoegfdndoeiolaaDoor
open Go.RowKit

set_option maxHeartbeats 1000000 in
set_option maxRecDepth 100000 in
theorem CloneD_any (S p : Nat) (t : List Nat) (q : Prop) (F : Nat → Prop) (w : World) (h : SkD w S p t F) (h1 : 4 ≤ p) (h2 : p ≤ 18) :
    Calls Tryd.prog 41 #[.pointer (some ⟨S, 0, none⟩)] w fun e w' =>
      ∃ C F', e = .returned (.pointer (some ⟨C, 0, none⟩)) ∧ Sk w' C p t q F' ∧ (∀ b, F' b → w.heap.size ≤ b) ∧ Only (fun _ => False) w w' := by
  obtain ⟨i0, hi, hz0, hz1, hz2⟩ := info_parts info_u8
  have hpb := pow_bounds h1 h2
  have hst := fun (W : World) (a : Addr) (x : Nat) => run_store Tryd.prog W a (.float .f64 x) .plain rfl
  obtain ⟨al, rv, hd, hle, hF⟩ := h
  obtain ⟨N, hN⟩ : ∃ N, N = 2 ^ p := ⟨_, rfl⟩
  obtain ⟨A, c, rfl, hc, hn, _, _⟩ := hd.row.nums
  have htl : t.length = N := by rw [hd.len, hN]
  rw [htl] at hd hn hc
  have hb : Blk w S 74 #[.int .u8 (p : Int), .int .u32 (N : Int), .float .f64 al, .pointer none, .pointer none, .slice A N c] := by rw [hN]; rw [hN] at hd; exact hd.blk
  obtain ⟨c0, c1, c2, c3, c4, c5⟩ := blk_cells hb
  have hSlt := hb.lt
  rw [← hN] at hpb
  have hba := hb.alloc (.cells #[.int .u8 (p : Int), .int .u32 (N : Int), .float .f64 al, .pointer none, .pointer none, .slice A N c] 74)
  have a5 : (w.alloc (.cells #[.int .u8 (p : Int), .int .u32 (N : Int), .float .f64 al, .pointer none, .pointer none, .slice A N c] 74)).cell? ⟨S, 5, none⟩ = some (.slice A N c) := hba.cell 5
  have hca := Blk.new w 74 #[.int .u8 (p : Int), .int .u32 (N : Int), .float .f64 al, .pointer none, .pointer none, .slice A N c]
  have hoa : Only (fun _ => False) w (w.alloc (.cells #[.int .u8 (p : Int), .int .u32 (N : Int), .float .f64 al, .pointer none, .pointer none, .slice A N c] 74)) := (Only.refl _ w).alloc _
  have hna := hn.only (Nat.le_refl _) hoa (fun _ _ hf => hf)
  have HNA := Lib.hid hna
  have HBA := Lib.hid hba
  have HCA := Lib.hid hca
  have HOA := Lib.hid hoa
  have HLE := Lib.hid hle
  have HTL := Lib.hid htl
  have HNp := Lib.hid hN
  clear hd hn hb hba hca hoa hna hle hF htl hN
  go_enter Tryd.func41, Tryd.ntmps41
  go_wp2_with (at_builtin; go_must (refine wpList_append_nums rfl (.const (.slice none 0 0)) (.tmp 10) 31 rfl 5 i0 (.int .u8 0) 1 Tryd.underlying31 hi hz0 hz1 hz2 rfl .u8 (.slice none 0 0) [] rfl (Row.nil_ _ _ _) w.heap.size A N c t rfl HNA.out ?c4 ?c5 ?_))
  case c4 => simp; omega
  case c5 => simp; omega
  intro v1 w1 hrow1 hon1 hl1
  obtain ⟨A1, k1, hv1, _⟩ := hrow1.nums
  rw [HTL.out] at hv1
  subst hv1
  have hon1' : Only (fun _ => False) (w.alloc (.cells #[.int .u8 (p : Int), .int .u32 (N : Int), .float .f64 al, .pointer none, .pointer none, .slice A N c] 74)) w1 := hon1.mono (fun b hb _ => by simp [Value.ownBlock] at hb)
  have hnew : ∀ g, (Value.slice A1 N k1).ownBlock = some g → w.heap.size < g := by
    intro g hg
    rcases hl1 with e | e
    · rw [hg] at e; simp [Value.ownBlock] at e
    · rw [hg] at e; injection e with e; rw [e]; simp
  have hb1 := HBA.out.only hon1' (fun hf => hf)
  have hc1 := HCA.out.only hon1' (fun hf => hf)
  have f5 := hc1.frozen 5
  have d5 : w1.cell? ⟨w.heap.size, 5, none⟩ = some (.slice A N c) := hc1.cell 5
  have hc2 : Blk (w1.setCell ⟨w.heap.size, 5, none⟩ (.slice A1 N k1)) w.heap.size 74 #[.int .u8 (p : Int), .int .u32 (N : Int), .float .f64 al, .pointer none, .pointer none, .slice A1 N k1] := hc1.set_ 5 (.slice A1 N k1)
  have hb2 := hb1.far (p := ⟨w.heap.size, 5, none⟩) (show S ≠ w.heap.size by omega) (.slice A1 N k1)
  have s3 : (w1.setCell ⟨w.heap.size, 5, none⟩ (.slice A1 N k1)).cell? ⟨S, 3, none⟩ = some (.pointer none) := hb2.cell 3
  have HR1 := Lib.hid hrow1
  have HO1 := Lib.hid (HOA.out.trans hon1' (fun _ hf _ => hf))
  have HB2 := Lib.hid hb2
  have HC2 := Lib.hid hc2
  have HNW := Lib.hid hnew
  clear hrow1 hon1 hon1' hl1 hb1 hc1 hc2 hb2 hnew
  go_wp2_with fail
  refine (sClone_nil _).mono ?_
  rintro e w2 ⟨rfl, ho2⟩
  have hc3 := HC2.out.only ho2 (fun hf => hf)
  have hb3 := HB2.out.only ho2 (fun hf => hf)
  have f3 := hc3.frozen 3
  have g3 : w2.cell? ⟨w.heap.size, 3, none⟩ = some (.pointer none) := hc3.cell 3
  have hc4 : Blk (w2.setCell ⟨w.heap.size, 3, none⟩ (.pointer none)) w.heap.size 74 #[.int .u8 (p : Int), .int .u32 (N : Int), .float .f64 al, .pointer none, .pointer none, .slice A1 N k1] := hc3.set_ 3 (.pointer none)
  have hb4 := hb3.far (p := ⟨w.heap.size, 3, none⟩) (show S ≠ w.heap.size by omega) (.pointer none)
  have s4 : (w2.setCell ⟨w.heap.size, 3, none⟩ (.pointer none)).cell? ⟨S, 4, none⟩ = some (.pointer none) := hb4.cell 4
  have f4 := hc4.frozen 4
  have g4 : (w2.setCell ⟨w.heap.size, 3, none⟩ (.pointer none)).cell? ⟨w.heap.size, 4, none⟩ = some (.pointer none) := hc4.cell 4
  have hc5 : SkB ((w2.setCell ⟨w.heap.size, 3, none⟩ (.pointer none)).setCell ⟨w.heap.size, 4, none⟩ (.pointer none)) w.heap.size p al (.pointer none) (.pointer none) (.slice A1 N k1) := by
    have h := hc4.set_ 4 (.pointer none)
    unfold SkB
    rw [← HNp.out]
    exact h
  have HC5 := Lib.hid hc5
  have HO2 := Lib.hid ho2
  clear hc3 hb3 hc4 hb4 hc5 ho2
  go_wp2_with fail
  refine (listClone_nil _).mono ?_
  rintro e w3 ⟨rfl, rfl⟩
  go_wp2_with fail
  go_ret
  have hO5 : Only (fun b => b = w.heap.size) w1 (w1.setCell ⟨w.heap.size, 5, none⟩ (.slice A1 N k1)) := (Only.refl (fun b => b = w.heap.size) w1).setCell (fun _ => rfl) _
  have hO34 : Only (fun b => b = w.heap.size) w2 ((w2.setCell ⟨w.heap.size, 3, none⟩ (.pointer none)).setCell ⟨w.heap.size, 4, none⟩ (.pointer none)) := ((Only.refl (fun b => b = w.heap.size) w2).setCell (fun _ => rfl) _).setCell (fun _ => rfl) _
  have hne : ∀ g, (Value.slice A1 N k1).ownBlock = some g → ¬ g = w.heap.size := fun g hg e => by have := HNW.out g hg; omega
  have hr5 : Row ((w2.setCell ⟨w.heap.size, 3, none⟩ (.pointer none)).setCell ⟨w.heap.size, 4, none⟩ (.pointer none)) 5 .u8 (.slice A1 N k1) t := ((HR1.out.only hO5 hne).only HO2.out (fun _ _ hf => hf)).only hO34 hne
  have hD : SkD ((w2.setCell ⟨w.heap.size, 3, none⟩ (.pointer none)).setCell ⟨w.heap.size, 4, none⟩ (.pointer none)) w.heap.size p t (fun b => b = w.heap.size ∨ (Value.slice A1 N k1).ownBlock = some b) :=
    ⟨al, _, ⟨HC5.out, hr5, by rw [HTL.out, HNp.out]⟩, HLE.out, fun g hg => .inr hg⟩
  refine ⟨w.heap.size, fun b => b = w.heap.size ∨ (Value.slice A1 N k1).ownBlock = some b, rfl, ⟨.inl rfl, ?_, h1, h2, .inl hD⟩, ?_, ?_⟩
  · rintro b (rfl | hb)
    · exact Blk.lt HC5.out
    · exact hr5.lt b hb
  · rintro b (rfl | hb)
    · exact Nat.le_refl _
    · have := HNW.out b hb; omega
  · exact ((HO1.out.trans hO5 (fun b hb hlt => by omega)).trans HO2.out (fun _ hf _ => hf)).trans hO34 (fun b hb hlt => by omega)

theorem append_nils (W : World) : (Builtin.append_ #[31, 31] 31 #[.slice none 0 0, .slice none 0 0]).run Tryd.prog W = .ok (.slice none 0 0) W := by
  obtain ⟨i0, hi, hz0, hz1, hz2⟩ := info_parts info_u8
  simp [Builtin.append_, run_underlying Tryd.underlying31, sizeOf, typeInfo, hi, Builtin.lenOf, Builtin.firstCells]

set_option maxHeartbeats 1000000 in
set_option maxRecDepth 100000 in
theorem CloneS_any (S p : Nat) (t : List Nat) (q : Prop) (F : Nat → Prop) (w : World) (h : SkS w S p t q F) (h1 : 4 ≤ p) (h2 : p ≤ 18) :
    Calls Tryd.prog 41 #[.pointer (some ⟨S, 0, none⟩)] w fun e w' =>
      ∃ C F', e = .returned (.pointer (some ⟨C, 0, none⟩)) ∧ Sk w' C p t q F' ∧ (∀ b, F' b → w.heap.size ≤ b) ∧ Only (fun _ => False) w w' := by
  have hpb := pow_bounds h1 h2
  have hap := append_nils
  have hst := fun (W : World) (a : Addr) (x : Nat) => run_store Tryd.prog W a (.float .f64 x) .plain rfl
  obtain ⟨al, T, M, v, K, L, u, ks, hs, hfit, rfl, _⟩ := h
  obtain ⟨t0, ht0⟩ : ∃ t0, t0 = table p ((K ++ ks).map (kv p)) := ⟨_, rfl⟩
  rw [← ht0]
  obtain ⟨N, hN⟩ : ∃ N, N = 2 ^ p := ⟨_, rfl⟩
  have hb : Blk w S 74 #[.int .u8 (p : Int), .int .u32 (N : Int), .float .f64 al, .pointer (some ⟨T, 0, none⟩), .pointer (some ⟨L, 0, none⟩), .slice none 0 0] := by rw [hN]; exact hs.blk
  obtain ⟨c0, c1, c2, c3, c4, c5⟩ := blk_cells hb
  have hSlt := hb.lt
  have hKl : K.length < 1099511627776 := by have := hfit.lenK; omega
  have hba := hb.alloc (.cells #[.int .u8 (p : Int), .int .u32 (N : Int), .float .f64 al, .pointer (some ⟨T, 0, none⟩), .pointer (some ⟨L, 0, none⟩), .slice none 0 0] 74)
  have a5 : (w.alloc (.cells #[.int .u8 (p : Int), .int .u32 (N : Int), .float .f64 al, .pointer (some ⟨T, 0, none⟩), .pointer (some ⟨L, 0, none⟩), .slice none 0 0] 74)).cell? ⟨S, 5, none⟩ = some (.slice none 0 0) := hba.cell 5
  have a3 : (w.alloc (.cells #[.int .u8 (p : Int), .int .u32 (N : Int), .float .f64 al, .pointer (some ⟨T, 0, none⟩), .pointer (some ⟨L, 0, none⟩), .slice none 0 0] 74)).cell? ⟨S, 3, none⟩ = some (.pointer (some ⟨T, 0, none⟩)) := hba.cell 3
  have hca := Blk.new w 74 #[.int .u8 (p : Int), .int .u32 (N : Int), .float .f64 al, .pointer (some ⟨T, 0, none⟩), .pointer (some ⟨L, 0, none⟩), .slice none 0 0]
  have hoa : Only (fun _ => False) w (w.alloc (.cells #[.int .u8 (p : Int), .int .u32 (N : Int), .float .f64 al, .pointer (some ⟨T, 0, none⟩), .pointer (some ⟨L, 0, none⟩), .slice none 0 0] 74)) := (Only.refl _ w).alloc _
  have hV : ∀ W, Only (fun _ => False) w W → Sparse W S p al T M v K L u ks := fun W hW => hs.only hW (fun hf => hf) (fun hf => hf) (fun hf => hf) (fun _ _ hf => hf) (fun hf => hf) (fun _ _ hf => hf)
  have HV := Lib.hid hV
  have HFIT := Lib.hid hfit
  have HT0 := Lib.hid ht0
  have HNp := Lib.hid hN
  obtain ⟨wa, hwa⟩ : ∃ wa, wa = w.alloc (.cells #[.int .u8 (p : Int), .int .u32 (N : Int), .float .f64 al, .pointer (some ⟨T, 0, none⟩), .pointer (some ⟨L, 0, none⟩), .slice none 0 0] 74) := ⟨_, rfl⟩
  clear hs hfit ht0 hN hV
  go_enter Tryd.func41, Tryd.ntmps41
  go_wp2_with fail
  rw [← hwa] at hba a5 a3 hca hoa ⊢
  have HBA := Lib.hid hba
  have HCA := Lib.hid hca
  have HOA := Lib.hid hoa
  have HSC := Lib.hid (sClone_any T M v K wa (HV.out wa hoa).set hKl)
  have hwsz : w.heap.size < wa.heap.size := by rw [hwa]; simp
  clear hba hca hoa hwa
  refine HSC.out.mono ?_
  rintro e w2 ⟨T2, M2, v2, rfl, hs2, hT2, hM2, hv2, ho2⟩
  have hc3 := HCA.out.only ho2 (fun hf => hf)
  have hb3 := HBA.out.only ho2 (fun hf => hf)
  have f3 := hc3.frozen 3
  have g3 : w2.cell? ⟨w.heap.size, 3, none⟩ = some (.pointer (some ⟨T, 0, none⟩)) := hc3.cell 3
  have hc4 : Blk (w2.setCell ⟨w.heap.size, 3, none⟩ (.pointer (some ⟨T2, 0, none⟩))) w.heap.size 74 #[.int .u8 (p : Int), .int .u32 (N : Int), .float .f64 al, .pointer (some ⟨T2, 0, none⟩), .pointer (some ⟨L, 0, none⟩), .slice none 0 0] := hc3.set_ 3 (.pointer (some ⟨T2, 0, none⟩))
  have hb4 := hb3.far (p := ⟨w.heap.size, 3, none⟩) (show S ≠ w.heap.size by omega) (.pointer (some ⟨T2, 0, none⟩))
  have s4 : (w2.setCell ⟨w.heap.size, 3, none⟩ (.pointer (some ⟨T2, 0, none⟩))).cell? ⟨S, 4, none⟩ = some (.pointer (some ⟨L, 0, none⟩)) := hb4.cell 4
  have hO2 : Only (fun _ => False) w w2 := HOA.out.trans ho2 (fun _ hf _ => hf)
  have hO3 : Only (fun b => b = w.heap.size) w2 (w2.setCell ⟨w.heap.size, 3, none⟩ (.pointer (some ⟨T2, 0, none⟩))) := (Only.refl (fun b => b = w.heap.size) w2).setCell (fun _ => rfl) _
  have hO23 : Only (fun _ => False) w (w2.setCell ⟨w.heap.size, 3, none⟩ (.pointer (some ⟨T2, 0, none⟩))) := hO2.trans hO3 (fun b hb hlt => by omega)
  have hs3 : USet (w2.setCell ⟨w.heap.size, 3, none⟩ (.pointer (some ⟨T2, 0, none⟩))) T2 v2 M2 K := hs2.only hO3 (by omega) (fun g hg e => by have := hv2 g hg; omega) (by omega)
  have HLC := Lib.hid (listClone_any L u ks _ (HV.out _ hO23).list HFIT.out.valid.keys)
  have HC4 := Lib.hid hc4
  have HS3 := Lib.hid hs3
  have HO23 := Lib.hid hO23
  have hsz3 : (w2.setCell ⟨w.heap.size, 3, none⟩ (.pointer (some ⟨T2, 0, none⟩))).heap.size = w2.heap.size := by simp [World.setCell]
  have HV2 := Lib.hid hv2
  have hs2s := ho2.size
  clear hs2 ho2 hc3 hb3 hc4 hb4 hO2 hO3 hO23 hs3 hv2
  go_wp2_with fail
  refine HLC.out.mono ?_
  rintro e w3 ⟨L2, u2, rfl, hcl, hL2, hu2, ho3⟩
  have hc5 := HC4.out.only ho3 (fun hf => hf)
  have f4 := hc5.frozen 4
  have g4 : w3.cell? ⟨w.heap.size, 4, none⟩ = some (.pointer (some ⟨L, 0, none⟩)) := hc5.cell 4
  have hc6 : SkB (w3.setCell ⟨w.heap.size, 4, none⟩ (.pointer (some ⟨L2, 0, none⟩))) w.heap.size p al (.pointer (some ⟨T2, 0, none⟩)) (.pointer (some ⟨L2, 0, none⟩)) (.slice none 0 0) := by
    have h := hc5.set_ 4 (.pointer (some ⟨L2, 0, none⟩))
    unfold SkB
    rw [← HNp.out]
    exact h
  have hO4 : Only (fun b => b = w.heap.size) w3 (w3.setCell ⟨w.heap.size, 4, none⟩ (.pointer (some ⟨L2, 0, none⟩))) := (Only.refl (fun b => b = w.heap.size) w3).setCell (fun _ => rfl) _
  have hs4 := (HS3.out.only ho3 (fun hf => hf) (fun _ _ hf => hf) (fun hf => hf)).only hO4 (by omega) (fun g hg e => by have := HV2.out g hg; omega) (by omega)
  have hl4 := hcl.only hO4 (by omega) (fun g hg e => by have := hu2 g hg; omega)
  have hO : Only (fun _ => False) w (w3.setCell ⟨w.heap.size, 4, none⟩ (.pointer (some ⟨L2, 0, none⟩))) := (HO23.out.trans ho3 (fun _ hf _ => hf)).trans hO4 (fun b hb hlt => by omega)
  have HSP : Hid (Sparse (w3.setCell ⟨w.heap.size, 4, none⟩ (.pointer (some ⟨L2, 0, none⟩))) w.heap.size p al T2 M2 v2 K L2 u2 ks) := ⟨hc6, hs4, hl4⟩
  have HU2 := Lib.hid hu2
  have HO := Lib.hid hO
  clear hc5 hc6 hO4 hs4 hl4 hO hcl hu2 ho3
  go_wp2_with fail
  go_ret
  refine ⟨w.heap.size, fun b => b = w.heap.size ∨ b = T2 ∨ b = M2 ∨ b = L2 ∨ v2.ownBlock = some b ∨ u2.ownBlock = some b, rfl, ⟨.inl rfl, ?_, h1, h2, .inr ⟨al, T2, M2, v2, K, L2, u2, ks, HSP.out, HFIT.out, HT0.out, .inr (.inl rfl), .inr (.inr (.inl rfl)), .inr (.inr (.inr (.inl rfl))), fun g hg => .inr (.inr (.inr (.inr (.inl hg)))), fun g hg => .inr (.inr (.inr (.inr (.inr hg))))⟩⟩, ?_, HO.out⟩
  · rintro b (rfl | rfl | rfl | rfl | hb | hb)
    · exact Blk.lt HSP.out.blk
    · exact HSP.out.set.blk.lt
    · exact HSP.out.set.map.lt
    · exact HSP.out.list.1.lt
    · exact HSP.out.set.row.lt b hb
    · exact HSP.out.list.2.1.lt b hb
  · rintro b (rfl | rfl | rfl | rfl | hb | hb)
    · exact Nat.le_refl _
    · omega
    · omega
    · omega
    · have := HV2.out b hb; omega
    · have := HU2.out b hb; omega

theorem Clone_any (S p : Nat) (t : List Nat) (q : Prop) (F : Nat → Prop) (w : World) (h : Sk w S p t q F) :
    Calls Tryd.prog 41 #[.pointer (some ⟨S, 0, none⟩)] w fun e w' =>
      ∃ C F', e = .returned (.pointer (some ⟨C, 0, none⟩)) ∧ Sk w' C p t q F' ∧ (∀ b, F' b → w.heap.size ≤ b) ∧ Only (fun _ => False) w w' := by
  rcases h.is with hd | hs
  · exact CloneD_any S p t q F w hd h.lo h.hi
  · exact CloneS_any S p t q F w hs h.lo h.hi

/-- Hashes put into sketches that hold others. -/
theorem ups_both (p : Nat) (xs ys : List Nat) : ups p (table p (xs.map (hv p))) ys = table p ((xs ++ ys).map (hv p)) := by rw [ups_table, List.map_append]

set_option maxRecDepth 100000 in
theorem implCopied_any (A A2 : Option Addr) (n c n2 c2 B p : Nat) (b : Bool) (xs ys : List Nat) (w : World) (hxs : Nums w B .u64 A n xs) (hys : Nums w B .u64 A2 n2 ys) (hB : B ≤ w.heap.size) (hx : ∀ x ∈ xs, x < 18446744073709551616) (hy : ∀ x ∈ ys, x < 18446744073709551616) (hn : n < 1099511627776) (hn2 : n2 < 1099511627776) (h1 : 4 ≤ p) (h2 : p ≤ 18) :
    Calls Tryd.prog 24 #[.int .u8 p, .bool b, .slice A n c, .slice A2 n2 c2] w fun e w' =>
      ∃ v1 v2, e = .returned (.tuple #[v1, v2, .bool true]) ∧ Row w' 5 .u8 v1 (table p (xs.map (hv p))) ∧ Row w' 5 .u8 v2 (table p ((xs ++ ys).map (hv p))) ∧ Only (fun _ => False) w w' := by
  have HN := Lib.hid (NewSketch_any p b w h1 h2)
  have HX := Lib.hid hxs
  have HX64 := Lib.hid hx
  have HY := Lib.hid hys
  have HY64 := Lib.hid hy
  have hAB : Hid (∀ ad, A = some ad → 0 < n → ad.block < B) := fun ad ha h0 => by
    obtain ⟨ad2, e, hb, _⟩ := hxs.2 h0
    rw [ha] at e; injection e with e; rw [e]; exact hb
  have hAB2 : Hid (∀ ad, A2 = some ad → 0 < n2 → ad.block < B) := fun ad ha h0 => by
    obtain ⟨ad2, e, hb, _⟩ := hys.2 h0
    rw [ha] at e; injection e with e; rw [e]; exact hb
  clear hxs hx hys hy
  go_enter Tryd.func24, Tryd.ntmps24
  go_wp2_with fail
  refine HN.out.mono ?_
  rintro e w1 ⟨S, F, rfl, hsk, hF, ho1⟩
  have hs1 := ho1.size
  have HFI := Lib.hid (fill_any S p _ w1 F A n c B xs hsk (HX.out.only hB ho1 (fun _ _ hf => hf)) (by omega) HX64.out hn)
  have HF := Lib.hid hF
  have HO1 := Lib.hid ho1
  clear hsk hF ho1
  go_wp2_with fail
  refine (HFI.out (fun h0 ad ha hf => by have := hAB.out ad ha h0; have := HF.out _ hf; omega)).mono ?_
  rintro e w2 ⟨rfl, F2, hsk2, ho2, hF2⟩
  rw [ups_made] at hsk2
  have HSK2 := Lib.hid hsk2
  have HCL := Lib.hid (Clone_any S p _ True F2 w2 hsk2)
  have HO2 := Lib.hid (HO1.out.trans ho2 (fun b hb hlt => by have := HF.out b hb; omega))
  have HF2 : Hid (∀ b, F2 b → w.heap.size ≤ b) := fun b hb => (hF2 b hb).elim (HF.out b) (fun h => by omega)
  clear hsk2 ho2 hF2
  go_wp2_with fail
  refine HCL.out.mono ?_
  rintro e w3 ⟨C, F3, rfl, hsk3, hF3, ho3⟩
  have HO3 := Lib.hid (HO2.out.trans ho3 (fun _ hf _ => hf))
  have hs2 := HO2.out.size
  have hs3 := HO3.out.size
  have hs23 := ho3.size
  have HF3 := Lib.hid hF3
  have HFI2 := Lib.hid (fill_any C p _ w3 F3 A2 n2 c2 B ys hsk3 (HY.out.only hB HO3.out (fun _ _ hf => hf)) (by omega) HY64.out hn2)
  have HSK3 := Lib.hid (HSK2.out.same ho3)
  have HF2L : Hid (∀ b, F2 b → b < w2.heap.size) := HSK2.out.lt
  clear hsk3 hF3 ho3
  go_wp2_with fail
  refine (HFI2.out (fun h0 ad ha hf => by have := hAB2.out ad ha h0; have := HF3.out _ hf; omega)).mono ?_
  rintro e w4 ⟨rfl, F4, hsk4, ho4, hF4⟩
  rw [ups_both] at hsk4
  have hsk4' := HSK3.out.only ho4 (fun b hb hf => by have := HF2L.out b hb; have := HF3.out b hf; omega)
  have HR1 := Lib.hid (regs_any S p _ True F2 w4 hsk4')
  have HSK4 := Lib.hid hsk4
  have HO4 := Lib.hid (HO3.out.trans ho4 (fun b hb hlt => by have := HF3.out b hb; omega))
  have HF4 : Hid (∀ b, F4 b → w2.heap.size ≤ b) := fun b hb => (hF4 b hb).elim (HF3.out b) (fun h => by have := ho4.size; omega)
  clear hsk4 hsk4' ho4 hF4
  go_wp2_with fail
  refine HR1.out.mono ?_
  rintro e w5 ⟨v1, rfl, hr1, hn1, ho5⟩
  have HSK5 := Lib.hid (HSK4.out.only ho5 (fun b hb hf => by have := HF2L.out b hf; have := HF4.out b hb; omega))
  have HR2 := Lib.hid (regs_any C p _ True F4 w5 HSK5.out)
  have HRW1 := Lib.hid hr1
  have HO5 := Lib.hid (HO4.out.trans ho5 (fun b hb hlt => by have := HF2.out b hb; omega))
  have HN1 : Hid (∀ g, v1.ownBlock = some g → ¬ F4 g) := fun g hg hf => by have := hn1 g hg; have := HSK4.out.lt g hf; omega
  clear hr1 hn1 ho5
  go_wp2_with fail
  refine HR2.out.mono ?_
  rintro e w6 ⟨v2, rfl, hr2, _, ho6⟩
  have HR1' := Lib.hid (HRW1.out.only ho6 HN1.out)
  have HO6 := Lib.hid (HO5.out.trans ho6 (fun b hb hlt => by have := HF4.out b hb; omega))
  clear ho6
  go_wp2_with fail
  refine bodyPost_ret (v := .tuple #[v1, v2, .bool true]) (by simp [results, Tryd.results24, go_sem]) rfl ⟨v1, v2, rfl, HR1'.out, hr2, HO6.out⟩
end Go.Proofs.YtoegfdndoeiolaaDoor

/- Walks: the law FnCopied. Conditions: the hashes are 64-bit numbers. -/
namespace Go.Proofs.YtoegfdndoeiolaaDoor
open Go.RowKit

theorem lawCopied_long (A A2 : Option Addr) (n c n2 c2 p : Nat) (b : Bool) (w : World) (h : 2147483647 < n ∨ 2147483647 < n2) :
    Calls Tryd.prog 7 #[.int .u8 p, .bool b, .slice A n c, .slice A2 n2 c2] w fun e w' => e = .returned (.bool true) ∧ Below w.heap.size w w' := by
  by_cases h1 : 2147483647 < n
  · go_enter Tryd.func7, Tryd.ntmps7
    go_wp2
    go_ret
    exact ⟨rfl, Below.refl _ _⟩
  · have h2 : 2147483647 < n2 := h.resolve_left h1
    clear h
    go_enter Tryd.func7, Tryd.ntmps7
    go_wp2
    go_ret
    exact ⟨rfl, Below.refl _ _⟩
theorem lawCopied_bad (A A2 : Option Addr) (n c n2 c2 p : Nat) (b : Bool) (w : World) (hn : n ≤ 2147483647) (hn2 : n2 ≤ 2147483647) (h : p < 4 ∨ 18 < p) :
    Calls Tryd.prog 7 #[.int .u8 p, .bool b, .slice A n c, .slice A2 n2 c2] w fun e w' => e = .returned (.bool true) ∧ Below w.heap.size w w' := by
  have hn' : ¬ (2147483647 : Int) < (n : Int) := by omega
  have hn2' : ¬ (2147483647 : Int) < (n2 : Int) := by omega
  have HRT := Lib.hid (fun W => Right_no p W h)
  clear hn hn2 h
  go_enter Tryd.func7, Tryd.ntmps7
  go_wp2_with fail
  refine (HRT.out _).mono ?_
  rintro e w1 ⟨rfl, rfl⟩
  go_wp2_with fail
  go_ret
  exact ⟨rfl, Below.refl _ _⟩
set_option maxRecDepth 100000 in
theorem lawCopied_any (A A2 : Option Addr) (n c n2 c2 p : Nat) (b : Bool) (xs ys : List Nat) (w : World) (hxs : Nums w w.heap.size .u64 A n xs) (hys : Nums w w.heap.size .u64 A2 n2 ys) (hx : ∀ x ∈ xs, x < 18446744073709551616) (hy : ∀ x ∈ ys, x < 18446744073709551616) (hn : n ≤ 2147483647) (hn2 : n2 ≤ 2147483647) (h1 : 4 ≤ p) (h2 : p ≤ 18) :
    Calls Tryd.prog 7 #[.int .u8 p, .bool b, .slice A n c, .slice A2 n2 c2] w fun e w' => e = .returned (.bool true) ∧ Below w.heap.size w w' := by
  have hpb := pow_bounds h1 h2
  have hn' : ¬ (2147483647 : Int) < (n : Int) := by omega
  have hn2' : ¬ (2147483647 : Int) < (n2 : Int) := by omega
  have hlx := hxs.1
  have hly := hys.1
  have HR := Lib.hid (implCopied_any A A2 n c n2 c2 _ p b xs ys w hxs hys (Nat.le_refl _) hx hy (by omega) (by omega) h1 h2)
  have HS : Hid (∀ W, Only (fun _ => False) w W → Calls Tryd.prog 23 #[.int .u8 p, .slice A n c] W fun e w' =>
      ∃ v', e = .returned v' ∧ Row w' 5 .u8 v' (table p (xs.map (hv p))) ∧ (∀ g, v'.ownBlock = some g → W.heap.size ≤ g) ∧ Only (fun _ => False) W w') := fun W hW =>
    specRegs_any A n c w.heap.size p xs W (hxs.only (Nat.le_refl _) hW (fun _ _ hf => hf)) hW.size hx (by omega) h1 h2
  have HB : Hid (∀ W, Only (fun _ => False) w W → Calls Tryd.prog 25 #[.slice A n c, .slice A2 n2 c2] W fun e w' =>
      ∃ v', e = .returned v' ∧ Row w' 25 .u64 v' (xs ++ ys) ∧ (∀ g, v'.ownBlock = some g → W.heap.size ≤ g) ∧ Only (fun _ => False) W w') := fun W hW =>
    Both_any A A2 n n2 c c2 w.heap.size xs ys W (hxs.only (Nat.le_refl _) hW (fun _ _ hf => hf)) (hys.only (Nat.le_refl _) hW (fun _ _ hf => hf)) hW.size (by omega) (by omega)
  have HS2 : Hid (∀ W v, Row W 25 .u64 v (xs ++ ys) → Calls Tryd.prog 23 #[.int .u8 p, v] W fun e w' =>
      ∃ v', e = .returned v' ∧ Row w' 5 .u8 v' (table p ((xs ++ ys).map (hv p))) ∧ (∀ g, v'.ownBlock = some g → W.heap.size ≤ g) ∧ Only (fun _ => False) W w') := fun W v hr => by
    obtain ⟨A3, c3, rfl, _, hn3, _, _⟩ := hr.nums
    exact specRegs_any A3 _ c3 W.heap.size p _ W hn3 (Nat.le_refl _) (fun x hxm => (List.mem_append.1 hxm).elim (hx x) (hy x)) (by rw [List.length_append]; omega) h1 h2
  clear hn hxs hx hn2 hys hy
  go_enter Tryd.func7, Tryd.ntmps7
  go_wp2_with fail
  refine (Right_yes p _ h1 h2).mono ?_
  rintro e w0 ⟨rfl, rfl⟩
  go_wp2_with fail
  refine HR.out.mono ?_
  rintro e w1 ⟨v1, v2, rfl, hr1, hr2, ho1⟩
  have HR1 := Lib.hid hr1
  have HR2 := Lib.hid hr2
  have HO1 := Lib.hid ho1
  clear hr1 hr2 ho1
  go_wp2_with fail
  refine (HS.out _ HO1.out).mono ?_
  rintro e w2 ⟨v3, rfl, hr3, _, ho2⟩
  have HSM := Lib.hid (same_rows HR1.out hr3 ho2 (by rw [table_length]; omega) 0)
  have HO2 := Lib.hid (HO1.out.trans ho2 (fun _ hf _ => hf))
  have HR22 := Lib.hid (HR2.out.only ho2 (fun _ _ hf => hf))
  clear hr3 ho2
  go_wp2_with fail
  refine HSM.out.mono ?_
  rintro e w3 ⟨rfl, q, rfl⟩
  go_wp2_with fail
  refine (HB.out _ (HO2.out.drewN q)).mono ?_
  rintro e w4 ⟨v4, rfl, hr4, _, ho4⟩
  have HS4 := Lib.hid (HS2.out _ _ hr4)
  have hdq : Only (fun _ => False) w2 (w2.drewN q) := (Only.refl _ w2).drewN q
  have HO4 := Lib.hid ((HO2.out.drewN q).trans ho4 (fun _ hf _ => hf))
  have HR24 := Lib.hid ((HR22.out.only hdq (fun _ _ hf => hf)).only ho4 (fun _ _ hf => hf))
  clear hr4 ho4 hdq
  go_wp2_with fail
  refine HS4.out.mono ?_
  rintro e w5 ⟨v5, rfl, hr5, _, ho5⟩
  have HSM2 := Lib.hid (same_rows HR24.out hr5 ho5 (by rw [table_length]; omega) 0)
  have HO5 := Lib.hid (HO4.out.trans ho5 (fun _ hf _ => hf))
  clear hr5 ho5
  go_wp2_with fail
  refine HSM2.out.mono ?_
  rintro e w6 ⟨rfl, q2, rfl⟩
  go_wp2_with fail
  go_ret
  exact ⟨rfl, (HO5.out.drewN q2).new⟩
end Go.Proofs.YtoegfdndoeiolaaDoor
