/- Walks: four bytes as a number; what is said of a length; whether a key may stand in a list. Conditions: the bytes are bytes; the variables of the errors hold errors. -/
import Derived.Test.YtoegfdndoeiolaaDoorIter
namespace Go.Proofs.YtoegfdndoeiolaaDoor
open Go.RowKit

/-- Four bytes as a number. -/
def unbe (a b c d : Nat) : Nat := a * 16777216 + b * 65536 + c * 256 + d
/-- A number's four bytes. -/
def be32 (x : Nat) : List Nat := [x / 16777216 % 256, x / 65536 % 256, x / 256 % 256, x % 256]
theorem unbe_be (x : Nat) (h : x < 4294967296) : unbe (x / 16777216 % 256) (x / 65536 % 256) (x / 256 % 256) (x % 256) = x := by unfold unbe; omega
theorem unbe_lt {a b c d : Nat} (ha : a < 256) (hb : b < 256) (hc : c < 256) (hd : d < 256) : unbe a b c d < 4294967296 := by unfold unbe; omega
theorem be_unbe {a b c d : Nat} (ha : a < 256) (hb : b < 256) (hc : c < 256) (hd : d < 256) : be32 (unbe a b c d) = [a, b, c, d] := by
  unfold be32 unbe
  simp only [List.cons.injEq, and_true]
  omega

theorem be_bits (a b c d : Nat) (ha : a < 256) (hb : b < 256) (hc : c < 256) (hd : d < 256) :
    bits .or .u32 (bits .or .u32 (bits .or .u32 (d : Int) ((c : Int) * 256)) ((b : Int) * 65536)) ((a : Int) * 16777216) = ((unbe a b c d : Nat) : Int) := by
  rw [show ((c : Int) * 256) = ((c * 256 : Nat) : Int) from by omega, u32_or_nat _ _ (by omega) (by omega), Nat.or_comm, nat_join 8 (c * 256) d (by omega) (by omega),
    show ((b : Int) * 65536) = ((b * 65536 : Nat) : Int) from by omega, u32_or_nat _ _ (by omega) (by omega), Nat.or_comm, nat_join 16 (b * 65536) _ (by omega) (by omega),
    show ((a : Int) * 16777216) = ((a * 16777216 : Nat) : Int) from by omega, u32_or_nat _ _ (by omega) (by omega), Nat.or_comm, nat_join 24 (a * 16777216) _ (by omega) (by omega)]
  unfold unbe
  omega

set_option maxRecDepth 100000 in
theorem beUint32_any (A : Option Addr) (cp B a b c d : Nat) (w : World) (h : Nums w B .u8 A 4 [a, b, c, d]) (ha : a < 256) (hb : b < 256) (hc : c < 256) (hd : d < 256) :
    Calls Tryd.prog 67 #[.slice A 4 cp] w fun e w' => e = .returned (.int .u32 (unbe a b c d : Nat)) ∧ ∃ n, w' = w.drewN n := by
  obtain ⟨ad, rfl, hadb, h0⟩ := h.at_ (i := 0) (by omega)
  obtain ⟨ad1, e1, _, h1⟩ := h.at_ (i := 1) (by omega)
  obtain ⟨ad2, e2, _, h2⟩ := h.at_ (i := 2) (by omega)
  obtain ⟨ad3, e3, _, h3⟩ := h.at_ (i := 3) (by omega)
  injection e1 with e1; injection e2 with e2; injection e3 with e3
  subst e1; subst e2; subst e3
  have c0 : w.cell? ad = some (.int .u8 a) := h0
  have c1 : w.cell? ⟨ad.block, ad.off + 1, none⟩ = some (.int .u8 b) := h1
  have c2 : w.cell? ⟨ad.block, ad.off + 2, none⟩ = some (.int .u8 c) := h2
  have c3 : w.cell? ⟨ad.block, ad.off + 3, none⟩ = some (.int .u8 d) := h3
  have HB := Lib.hid (be_bits a b c d ha hb hc hd)
  clear h h0 h1 h2 h3 hadb
  go_enter Tryd.func67, Tryd.ntmps67
  go_wp2_with fail
  go_quiet (fail)
  go_wp2
  go_ret
  exact ⟨ret_int HB.out, _, rfl⟩

/-- An error as errors.New makes it. -/
def errAt (a : Addr) : Value := .iface 152 (.pointer (some a))
/-- The variables of the errors that a list's reader hands on hold errors. -/
def Errs (w : World) : Prop :=
  (∃ a, w.cell? ⟨1, 0, none⟩ = some (.iface 152 (.pointer (some a)))) ∧
  ∃ a, w.cell? ⟨3, 0, none⟩ = some (.iface 152 (.pointer (some a)))
theorem Errs.only {S : Nat → Prop} {w w' : World} (h : Errs w) (ho : Only S w w') (h1 : ¬ S 1) (h2 : ¬ S 3) : Errs w' := by
  obtain ⟨⟨a, ha⟩, b, hb⟩ := h
  exact ⟨⟨a, (ho.cell (World.block_lt_of_cell? w _ ha) h1).trans ha⟩, b, (ho.cell (World.block_lt_of_cell? w _ hb) h2).trans hb⟩
/-- The call ends with an error. -/
def Fails (e : Ending) : Prop := ∃ a, e = .returned (.iface 152 (.pointer (some a)))

theorem maxRho_any (p : Nat) (w : World) (h1 : 4 ≤ p) (h2 : p ≤ 18) :
    Calls Tryd.prog 101 #[.int .u8 p] w fun e w' => e = .returned (.int .u8 (65 - p : Nat)) ∧ w = w' := by
  go_enter Tryd.func101, Tryd.ntmps101
  go_wp2
  go_ret
  exact ⟨ret_int (by omega), rfl⟩

theorem checkSparseKey_ok (k p : Nat) (w : World) (hk : k < 4294967296) (h1 : 4 ≤ p) (h2 : p ≤ 18) (h : decVal k p ≤ 65 - p) :
    Calls Tryd.prog 69 #[.int .u32 k, .int .u8 p] w fun e w' => e = .returned .nilIface ∧ w = w' := by
  have hv := decVal_lt k p
  go_enter Tryd.func69, Tryd.ntmps69
  go_wp2_with (first
    | (go_at_call 101; refine (maxRho_any p _ h1 h2).mono ?_; rintro e w' ⟨rfl, rfl⟩)
    | (go_at_call 100; refine (decodeHash_any k p _ hk h1 h2).mono ?_; rintro e w' ⟨rfl, rfl⟩))
  go_ret
  exact ⟨rfl, rfl⟩
theorem checkSparseKey_bad (k p : Nat) (w : World) (hk : k < 4294967296) (h1 : 4 ≤ p) (h2 : p ≤ 18) (h : ¬ decVal k p ≤ 65 - p) (he : Errs w) :
    Calls Tryd.prog 69 #[.int .u32 k, .int .u8 p] w fun e w' => Fails e ∧ w = w' := by
  have hv := decVal_lt k p
  obtain ⟨_, a, ha⟩ := he
  go_enter Tryd.func69, Tryd.ntmps69
  go_wp2_with (first
    | (go_at_call 101; refine (maxRho_any p _ h1 h2).mono ?_; rintro e w' ⟨rfl, rfl⟩)
    | (go_at_call 100; refine (decodeHash_any k p _ hk h1 h2).mono ?_; rintro e w' ⟨rfl, rfl⟩))
  go_ret
  exact ⟨⟨a, rfl⟩, rfl⟩

theorem exactLen_ok (s : ByteArray) (n : Nat) (w : World) :
    Calls Tryd.prog 71 #[.string s, .int .u64 n, .int .u64 n] w fun e w' => e = .returned .nilIface ∧ w = w' := by
  go_enter Tryd.func71, Tryd.ntmps71
  go_wp2
  go_ret
  exact ⟨rfl, rfl⟩
theorem exactLen_bad (s : ByteArray) (n m : Nat) (w : World) (h : n ≠ m) (he : Errs w) :
    Calls Tryd.prog 71 #[.string s, .int .u64 n, .int .u64 m] w fun e w' => Fails e ∧ w = w' := by
  obtain ⟨⟨b, hb⟩, a, ha⟩ := he
  have hne : ((n : Int) == (m : Int)) = false := by rw [beq_eq_false_iff_ne]; omega
  rcases Nat.lt_or_gt_of_ne h with h | h
  · go_enter Tryd.func71, Tryd.ntmps71
    go_wp2
    go_ret
    exact ⟨⟨b, rfl⟩, rfl⟩
  · go_enter Tryd.func71, Tryd.ntmps71
    go_wp2
    go_ret
    exact ⟨⟨a, rfl⟩, rfl⟩
end Go.Proofs.YtoegfdndoeiolaaDoor
