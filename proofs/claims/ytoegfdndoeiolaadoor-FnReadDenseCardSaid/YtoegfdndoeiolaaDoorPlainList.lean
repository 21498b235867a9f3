/- Plain law: keys as their differences are read in one way alone. Conditions: keys rise and are below 2^32. -/
import Derived.Test.YtoegfdndoeiolaaDoorPack
namespace Go.Proofs.YtoegfdndoeiolaaDoor
open Go.RowKit

/-- Keys that a sketch of p bits may hold in its list. -/
def Valid (p : Nat) (ks : List Nat) : Prop := Rising ks ∧ (∀ k ∈ ks, okKey k p) ∧ ks.length < 33554432
theorem Valid.keys {p : Nat} {ks : List Nat} (h : Valid p ks) : Keys ks := ⟨h.1, fun k hk => (h.2.1 k hk).1, by have := h.2.2; omega⟩
theorem Valid.nil (p : Nat) : Valid p [] := by
  refine ⟨List.Pairwise.nil, fun k hk => ?_, by simp⟩
  cases hk

theorem encFrom_prefix : ∀ (pre ks : List Nat) (l : Nat) (r : List Nat), (∀ k ∈ pre, k < 4294967296) → (∀ k ∈ ks, k < 4294967296) → (∀ k ∈ pre, l ≤ k) → (∀ k ∈ ks, l ≤ k) → Rising pre → Rising ks →
    encFrom l pre ++ r = encFrom l ks → ∃ rest, ks = pre ++ rest ∧ encFrom (lastOr l pre) rest = r
  | [], ks, l, r, _, _, _, _, _, _, h => ⟨ks, rfl, h.symm⟩
  | k :: pre, ks, l, r, hp, hk, hlp, hlk, rp, rk, h => by
    cases ks with
    | nil =>
      have h1 := congrArg List.length h
      have := varint_pos (k - l)
      simp only [encFrom, List.length_append, List.length_nil] at h1
      omega
    | cons k' ks =>
      have e1 := hp k (by simp)
      have e2 := hk k' (by simp)
      have l1 := hlp k (by simp)
      have l2 := hlk k' (by simp)
      simp only [encFrom, List.append_assoc] at h
      have d1 := decN_varint (k - l) (by omega) (encFrom k pre ++ r)
      have d2 := decN_varint (k' - l) (by omega) (encFrom k' ks)
      rw [h, d2] at d1
      simp only [Option.some.injEq, Prod.mk.injEq] at d1
      have hkk : k' = k := by omega
      subst hkk
      rw [List.append_cancel_left_eq] at h
      unfold Rising at rp rk
      rw [List.pairwise_cons] at rp rk
      obtain ⟨rest, hr, hr2⟩ := encFrom_prefix pre ks k' r (fun c hc => hp c (by simp [hc])) (fun c hc => hk c (by simp [hc])) (fun c hc => Nat.le_of_lt (rp.1 c hc)) (fun c hc => Nat.le_of_lt (rk.1 c hc)) rp.2 rk.2 h
      exact ⟨rest, by rw [hr]; rfl, hr2⟩
theorem valid_prefix {p : Nat} {pre ks : List Nat} {r : List Nat} (hr : Rising pre) (hp : ∀ k ∈ pre, okKey k p) (hk : Valid p ks) (h : encFrom 0 pre ++ r = encFrom 0 ks) : ∃ rest, ks = pre ++ rest ∧ encFrom (lastOr 0 pre) rest = r :=
  encFrom_prefix pre ks 0 r (fun k hk => (hp k hk).1) (fun c hc => (hk.2.1 c hc).1) (fun _ _ => Nat.zero_le _) (fun _ _ => Nat.zero_le _) hr hk.1 h

/-- What follows in a list behind keys that have been read: nothing, or a key whose difference stands in front. -/
theorem valid_next {p : Nat} {pre ks : List Nat} {r : List Nat} (hr : Rising pre) (hp : ∀ k ∈ pre, okKey k p) (hk : Valid p ks) (h : encFrom 0 pre ++ r = encFrom 0 ks) :
    (r = [] ∧ ks = pre) ∨ ∃ k, decN r = some (k - lastOr 0 pre, (varint (k - lastOr 0 pre)).length) ∧ okKey k p ∧ lastOr 0 pre ≤ k ∧ (pre ≠ [] → lastOr 0 pre < k) := by
  obtain ⟨rest, rfl, hrest⟩ := valid_prefix hr hp hk h
  cases rest with
  | nil => exact .inl ⟨hrest.symm, by simp⟩
  | cons k rest =>
    have hok : okKey k p := hk.2.1 k (by simp)
    refine .inr ⟨k, ?_, hok, rising_le hk.1 k rest rfl, fun hn => rising_lt hk.1 k rest rfl hn⟩
    rw [← hrest]
    exact decN_varint _ (by have := hok.1; omega) _

/-- The head of a list's bytes. -/
theorem head_split (bs : List Nat) (h : 12 ≤ bs.length) (h256 : ∀ b ∈ bs, b < 256) : ∃ cn ls sz st, cn < 4294967296 ∧ ls < 4294967296 ∧ sz < 4294967296 ∧ bs = be32 cn ++ (be32 ls ++ (be32 sz ++ st)) ∧ st.length + 12 = bs.length := by
  match bs, h with
  | a0 :: a1 :: a2 :: a3 :: b0 :: b1 :: b2 :: b3 :: c0 :: c1 :: c2 :: c3 :: st, h =>
    have g : ∀ b ∈ [a0, a1, a2, a3, b0, b1, b2, b3, c0, c1, c2, c3], b < 256 := fun b hb => h256 b (by
      simp only [List.mem_cons, List.not_mem_nil, or_false] at hb ⊢
      rcases hb with h | h | h | h | h | h | h | h | h | h | h | h <;> simp [h])
    have g' := fun b hb => g b hb
    simp only [List.mem_cons, List.not_mem_nil, or_false, forall_eq_or_imp, forall_eq] at g'
    obtain ⟨a0', a1', a2', a3', b0', b1', b2', b3', c0', c1', c2', c3'⟩ := g'
    refine ⟨unbe a0 a1 a2 a3, unbe b0 b1 b2 b3, unbe c0 c1 c2 c3, st, unbe_lt a0' a1' a2' a3', unbe_lt b0' b1' b2' b3', unbe_lt c0' c1' c2' c3', ?_, by simp⟩
    rw [be_unbe a0' a1' a2' a3', be_unbe b0' b1' b2' b3', be_unbe c0' c1' c2' c3']
    rfl
theorem be32_inj {x y : Nat} (hx : x < 4294967296) (hy : y < 4294967296) (h : be32 x = be32 y) : x = y := by
  unfold be32 at h
  simp only [List.cons.injEq, and_true] at h
  omega
theorem be32_app {x y : Nat} (hx : x < 4294967296) (hy : y < 4294967296) {r s : List Nat} (h : be32 x ++ r = be32 y ++ s) : x = y ∧ r = s := by
  have h1 := List.append_inj h rfl
  exact ⟨be32_inj hx hy h1.1, h1.2⟩
/-- What bytes are those of a list of keys. -/
theorem listBytes_iff {p cn ls sz : Nat} {st ks : List Nat} (h1 : cn < 4294967296) (h2 : ls < 4294967296) (h3 : sz < 4294967296) (hk : Valid p ks) :
    be32 cn ++ (be32 ls ++ (be32 sz ++ st)) = listBytes ks ↔ cn = ks.length ∧ ls = lastOr 0 ks ∧ sz = (encFrom 0 ks).length ∧ st = encFrom 0 ks := by
  have hk32 : ∀ k ∈ ks, k < 4294967296 := fun k h => (hk.2.1 k h).1
  have hl := encFrom_le 0 ks hk32
  have hl2 := lastOr_lt hk32
  have hl3 := hk.2.2
  unfold listBytes
  constructor
  · intro h
    obtain ⟨e1, h⟩ := be32_app h1 (by omega) h
    obtain ⟨e2, h⟩ := be32_app h2 (by omega) h
    obtain ⟨e3, h⟩ := be32_app h3 (by omega) h
    exact ⟨e1, e2, e3, h⟩
  · rintro ⟨rfl, rfl, rfl, rfl⟩
    rfl
end Go.Proofs.YtoegfdndoeiolaaDoor
