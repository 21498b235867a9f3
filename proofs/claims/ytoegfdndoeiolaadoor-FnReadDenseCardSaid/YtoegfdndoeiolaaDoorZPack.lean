/- Walks: keys are packed into bytes. Conditions: the keys rise and are below 2^32; fewer than 2^29 of them. -/
import Derived.Test.YtoegfdndoeiolaaDoorPack
namespace Go.Proofs.YtoegfdndoeiolaaDoor
open Go.RowKit

theorem list_split (ks : List Nat) (t : Nat) (h : t < ks.length) : ks = ks.take t ++ ks.getD t 0 :: ks.drop (t + 1) := by
  have h1 := drop_split ks 0 t (by omega)
  simpa using h1
theorem list_take_succ (ks : List Nat) (t : Nat) (h : t < ks.length) : ks.take (t + 1) = ks.take t ++ [ks.getD t 0] := by
  have h1 := drop_take_succ ks 0 t (by omega)
  simpa using h1
theorem keys_snoc {xs : List Nat} {k : Nat} (h : Keys (xs ++ [k])) : Keys xs := ⟨(List.pairwise_append.1 h.1).1, fun c hc => h.2.1 c (by simp [hc]), by have := h.2.2; simp at this; omega⟩

set_option maxHeartbeats 400000 in
set_option maxRecDepth 100000 in
theorem ZZPack_any (A : Option Addr) (n c : Nat) (ks : List Nat) (w : World) (hks : Nums w w.heap.size .u32 A n ks) (hk : Keys ks) (hlen : ks.length < 536870912) :
    Calls Tryd.prog 32 #[.slice A n c] w fun e w' =>
      ∃ v', e = .returned v' ∧ Row w' 5 .u8 v' (listBytes ks) ∧ Only (fun _ => False) w w' := by
  have hn := hks.1
  have HK := Lib.hid hks
  have HKK := Lib.hid hk
  clear hks hk
  go_enter Tryd.func32, Tryd.ntmps32
  go_wp2_with (go_at_call 46; refine (newCompressedList_any 0 _ (by omega)).mono ?_; rintro e w1 ⟨L, v, rfl, hL, hvL, hcl, hon⟩)
  go_loopg [11] n (fun g s11 wr => ∃ t : Nat, g + t = n ∧ s11 = .int .i64 (t : Nat) ∧ ∃ u, CList wr L u (ks.take t) ∧ (∀ g, u.ownBlock = some g → w.heap.size ≤ g) ∧ Only (fun _ => False) w wr)
  case atStart => exact ⟨0, by omega, rfl, v, hcl, hvL, hon⟩
  case round =>
    obtain ⟨t, hg, rfl, u, hcu, hu, hwr⟩ := hrel
    by_cases hlt : t < n
    · obtain ⟨k, hkd⟩ : ∃ k, ks.getD t 0 = k := ⟨_, rfl⟩
      obtain ⟨ad, rfl, hadb, hcell⟩ := (HK.out.only (Nat.le_refl _) hwr (fun _ _ hf => hf)).at_ hlt
      rw [hkd] at hcell
      have htl : t < ks.length := by omega
      have hsplit : ks = ks.take t ++ k :: ks.drop (t + 1) := by rw [← hkd]; exact list_split ks t htl
      have htake : ks.take (t + 1) = ks.take t ++ [k] := by rw [← hkd]; exact list_take_succ ks t htl
      have hk32 : k < 4294967296 := HKK.out.2.1 k (by rw [hsplit]; simp)
      have hrise : lastOr 0 (ks.take t) ≤ k := rising_le (a := ks.take t) (b := k :: ks.drop (t + 1)) (by rw [← hsplit]; exact HKK.out.1) k _ rfl
      have HA := Lib.hid (CAppend_any L u (ks.take t) k wr hcu hk32 hrise (by rw [List.length_take]; omega))
      have HT := Lib.hid htake
      clear hsplit htake hcu hrise hkd
      go_wp2_with (go_at_call 51; refine HA.out.mono ?_; rintro e w2 ⟨rfl, u2, hc2, hon2, hlies2⟩)
      go_roundg (n - (t + 1))
      case measure => omega
      case rel =>
        refine ⟨t + 1, by omega, by go_num, u2, by rw [HT.out]; exact hc2, ?_, hwr.trans hon2 ?_⟩
        · intro g hg
          rcases hlies2 with h | ⟨g', h, hge⟩
          · exact hu g (by rw [← h]; exact hg)
          · rw [hg] at h; injection h with h; have := hwr.size; omega
        · intro b hb hblt
          rcases hb with rfl | hb
          · omega
          · have := hu b hb; omega
    · have ht : t = n := by omega
      subst ht
      rw [← hn, List.take_length] at hcu
      have HB := Lib.hid (CAppendBinary_any L u ks (.slice none 0 0) [] wr hcu hlen (Row.nil_ wr _ _) (by simp [Value.ownBlock]) (by simp [Value.ownBlock]) (by simp))
      clear hcu
      go_wp2_with (go_at_call 52; refine HB.out.mono ?_; rintro e w2 ⟨v2, rfl, hrow2, hon2, hlies2⟩)
      go_ret
      exact ⟨v2, rfl, hrow2, hwr.trans hon2 (fun k hk _ => by simp [Value.ownBlock] at hk)⟩
end Go.Proofs.YtoegfdndoeiolaaDoor
