/- Walks and plain laws, one behind the other (SrtT); their conditions stand at each. -/
import Derived.Test.YtoegfdndoeiolaaDoorQ21
import Derived.Sort.WalkA14
import Derived.Sort.AssemblyPlain

/- Walks: the library's sort at uint32 (after the kit's walks at int: Derived/Sort): WalkA14, WalkANil, Assembly. No condition beyond the lengths. -/
namespace Go.Proofs.YtoegfdndoeiolaaDoor
open Go.RowKit Go.Sort

def Srt_pdqWalk_int : Prop := ∀ (blk off cap a b limit : Nat) (d : Array Int) (w : World), Holds (Value.int .u32) w blk off d → blk < w.heap.size → a ≤ b → b ≤ d.size → d.size < 4611686018427387904 → limit < 4611686018427387904 → Below ltInt a b d →
  Calls Tryd.prog 105 #[.slice (some ⟨blk, off, none⟩) d.size cap, .int .i64 a, .int .i64 b, .int .i64 limit] w fun e w' =>
    e = .returned (.tuple #[]) ∧ ∃ n os, w' = grow (putRow (Value.int .u32) (Sort.ahead w n) blk off (Sort.pdq ltInt d a b limit true true)) os

set_option maxRecDepth 100000 in
theorem Srt_Sort_int (hpdq : Srt_pdqWalk_int) (blk off cap : Nat) (d : Array Int) (w : World) (hH : Holds (Value.int .u32) w blk off d) (hblk : blk < w.heap.size) (hsz : d.size < 4611686018427387904) :
    Calls Tryd.prog 91 #[.slice (some ⟨blk, off, none⟩) d.size cap] w fun e w' => e = .returned (.tuple #[]) ∧ ∃ n os, w' = grow (putRow (Value.int .u32) (Sort.ahead w n) blk off (Sort.sort ltInt d)) os := by
  have HH : Hid (Holds (Value.int .u32) w blk off d) := hH
  clear hH
  have hLen : ∀ w, Calls Tryd.prog 106 #[.int .u64 (d.size : Int)] w fun e w' => e = .returned (.int .i64 (bitsLen d.size : Nat)) ∧ w' = w := fun w => by
    have h := Srt_bits_Len (d.size : Int) w (by omega) (by omega)
    rwa [Int.toNat_natCast, bitLen_eq _ (by omega)] at h
  have hk : bitsLen d.size ≤ 62 := (bitsLen_le_iff d.size 62).2 (by omega)
  go_enter Tryd.func91, Tryd.ntmps91
  go_wp2_with (first
    | (go_at_call 106; refine (hLen _).mono ?_; rintro e w' ⟨rfl, rfl⟩)
    | (go_at_call 105; refine (hpdq blk off cap 0 d.size (bitsLen d.size) d _ (by exact HH.out) (by exact hblk) (Nat.zero_le _) (Nat.le_refl _) hsz (by omega) (Or.inl rfl)).mono ?_; rintro e w' ⟨rfl, n, os, rfl⟩))
  go_end0
  exact ⟨rfl, n, os, rfl⟩

theorem Srt_insertionSort_int_nil (p : Option Addr) (cap : Nat) (w : World) :
    Calls Tryd.prog 112 #[.slice p 0 cap, .int .i64 0, .int .i64 0] w fun e w' => e = .returned (.tuple #[]) ∧ w' = w := by
  go_enter Tryd.func112, Tryd.ntmps112
  go_wp2
  refine wp_loop_rounds 1 ?_
  rw [rounds_succ]
  go_wp2
  go_end0
  exact ⟨rfl, rfl⟩

set_option maxRecDepth 100000 in
theorem Srt_pdqsort_int_nil (p : Option Addr) (cap : Nat) (w : World) :
    Calls Tryd.prog 105 #[.slice p 0 cap, .int .i64 0, .int .i64 0, .int .i64 0] w fun e w' => e = .returned (.tuple #[]) ∧ w' = w := by
  go_enter Tryd.func105, Tryd.ntmps105
  go_wp2
  refine wp_loop_rounds 1 ?_
  rw [rounds_succ]
  go_wp2_with (first | (go_at_call 112; refine (Srt_insertionSort_int_nil p cap _).mono ?_; rintro e w' ⟨rfl, rfl⟩))
  refine bodyPost_ret (results_none rfl _ _ _) rfl ?_      -- an explicit 'return' in a function without results
  exact ⟨rfl, rfl⟩

set_option maxRecDepth 100000 in
theorem Srt_Sort_int_nil (p : Option Addr) (cap : Nat) (w : World) :
    Calls Tryd.prog 91 #[.slice p 0 cap] w fun e w' => e = .returned (.tuple #[]) ∧ w' = w := by
  have hLen : ∀ w, Calls Tryd.prog 106 #[.int .u64 0] w fun e w' => e = .returned (.int .i64 0) ∧ w' = w := fun w => Srt_bits_Len 0 w (by omega) (by omega)
  go_enter Tryd.func91, Tryd.ntmps91
  go_wp2_with (first
    | (go_at_call 106; refine (hLen _).mono ?_; rintro e w' ⟨rfl, rfl⟩)
    | (go_at_call 105; refine (Srt_pdqsort_int_nil p cap _).mono ?_; rintro e w' ⟨rfl, rfl⟩))
  go_end0
  exact ⟨rfl, rfl⟩

theorem Srt_callees13 : Srt_Callees13 where
  ins := Srt_insertionSort_int
  brk := Srt_breakPatterns_int
  piv := Srt_choosePivot_int
  par := Srt_partialInsertionSort_int
  peq := Srt_partitionEqualOrdered_int
  prt := Srt_partitionOrdered_int

theorem plain13 : Plain13 where
  swo := swo_ltInt
  ins := insertionSort_holds
  par := partialInsertionSort_holds
  prt := partition_holds _
  peq := partitionEqual_holds _
  pdq := pdq_sorts _

theorem Srt_pdqWalkInt : Srt_pdqWalk_int := fun blk off cap a b limit d w hH hb hab hbd hsz hl hB =>
  Srt_pdqsort_int Srt_callees13 plain13 (b - a + 1) blk off cap a b limit d w (by omega) hH hb hab hbd hsz hl hB

theorem sort_int_eq (zs : List Int) : Sort.sort ltInt zs.toArray = (zs.mergeSort fun x y => decide (x ≤ y)).toArray := by
  rw [← sortInt zs]

theorem Srt_slices_Sort_int (blk off cap : Nat) (zs : List Int) (w : World) (hH : Holds (Value.int .u32) w blk off zs.toArray) (hblk : blk < w.heap.size) (hsz : zs.length < 4611686018427387904) :
    Calls Tryd.prog 91 #[.slice (some ⟨blk, off, none⟩) zs.length cap] w fun e w' =>
      e = .returned (.tuple #[]) ∧ ∃ n os, w' = grow (putRow (Value.int .u32) (Sort.ahead w n) blk off (zs.mergeSort fun x y => decide (x ≤ y)).toArray) os := by
  have h := Srt_Sort_int Srt_pdqWalkInt blk off cap zs.toArray w hH hblk (by simpa using hsz)
  rw [sort_int_eq] at h
  simpa using h
end Go.Proofs.YtoegfdndoeiolaaDoor
