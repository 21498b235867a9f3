/- Plain law: numbers as bytes of seven bits each, and rising keys as their differences; each is read back. Conditions: numbers below 2^32. -/
import Derived.Lib.BitFns
import Derived.Laws.BitsAllLaws
namespace Go.Proofs.YtoegfdndoeiolaaDoor

/-- The bytes of a number. -/
def varint (x : Nat) : List Nat := if x < 128 then [x] else (x % 128 + 128) :: varint (x / 128)
termination_by x
decreasing_by omega

theorem varint_small {x : Nat} (h : x < 128) : varint x = [x] := by rw [varint, if_pos h]
theorem varint_big {x : Nat} (h : ¬ x < 128) : varint x = (x % 128 + 128) :: varint (x / 128) := by rw [varint, if_neg h]

theorem varint_pos (x : Nat) : 1 ≤ (varint x).length := by
  rw [varint]; split <;> simp

theorem varint_le (x : Nat) : ∀ n, 1 ≤ n → x < 128 ^ n → (varint x).length ≤ n := by
  induction x using Nat.strongRecOn with
  | _ x ih =>
    intro n h1 h
    by_cases hx : x < 128
    · rw [varint_small hx]; simpa using h1
    · rw [varint_big hx]
      match n, h1 with
      | 1, _ => omega
      | n + 2, _ =>
        have := ih (x / 128) (by omega) (n + 1) (by omega) (by rw [Nat.div_lt_iff_lt_mul (by omega), ← Nat.pow_succ]; exact h)
        simp only [List.length_cons]; omega

theorem varint_le5 (x : Nat) (h : x < 2 ^ 32) : (varint x).length ≤ 5 := varint_le x 5 (by omega) (by omega)

theorem varint_byte (x : Nat) : ∀ b ∈ varint x, b < 256 := by
  induction x using Nat.strongRecOn with
  | _ x ih =>
    by_cases hx : x < 128
    · rw [varint_small hx]; simp; omega
    · rw [varint_big hx]
      intro b hb
      rcases List.mem_cons.1 hb with rfl | hb
      · omega
      · exact ih _ (by omega) b hb

/-- What digits of seven bits each say, the low ones first. -/
def acc : List Nat → Nat
  | [] => 0
  | b :: bs => b % 128 + 128 * acc bs

theorem acc_snoc (bs : List Nat) (b : Nat) : acc (bs ++ [b]) = acc bs + 128 ^ bs.length * (b % 128) := by
  induction bs with
  | nil => simp [acc]
  | cons c bs ih =>
    simp only [List.cons_append, acc, ih, List.length_cons, Nat.mul_add]
    have h : 128 * (128 ^ bs.length * (b % 128)) = 128 ^ (bs.length + 1) * (b % 128) := by
      rw [Nat.pow_succ, Nat.mul_comm (128 ^ bs.length) 128, Nat.mul_assoc]
    omega

theorem acc_lt (bs : List Nat) : acc bs < 128 ^ bs.length := by
  induction bs with
  | nil => simp [acc]
  | cons c bs ih =>
    simp only [acc, List.length_cons, Nat.pow_succ]
    have := Nat.mod_lt c (show 0 < 128 by omega)
    omega

/-- A number at the front of bytes, and how many bytes it has. -/
def decN (bs : List Nat) : Option (Nat × Nat) :=
  match bs.drop (bs.takeWhile (fun b => decide (128 ≤ b))).length with
  | [] => none
  | b :: _ =>
    if 5 ≤ (bs.takeWhile (fun b => decide (128 ≤ b))).length ∨ ((bs.takeWhile (fun b => decide (128 ≤ b))).length = 4 ∧ 15 < b) ∨ (1 ≤ (bs.takeWhile (fun b => decide (128 ≤ b))).length ∧ b = 0) then none
    else some (acc (bs.takeWhile (fun b => decide (128 ≤ b)) ++ [b]), (bs.takeWhile (fun b => decide (128 ≤ b))).length + 1)

/-- 'pre' are high bytes, what follows is none: then that is what stands in front. -/
theorem takeWhile_of (pre rest : List Nat) (h : ∀ b ∈ pre, 128 ≤ b) (hr : ∀ b, rest.head? = some b → b < 128) :
    (pre ++ rest).takeWhile (fun b => decide (128 ≤ b)) = pre := by
  induction pre with
  | nil =>
    cases rest with
    | nil => rfl
    | cons b r =>
      have := hr b rfl
      simp [List.takeWhile_cons]; omega
  | cons c pre ih =>
    have hc := h c (by simp)
    simp only [List.cons_append, List.takeWhile_cons, hc, decide_true, if_true]
    rw [ih (fun b hb => h b (by simp [hb]))]

theorem decN_end (pre : List Nat) (h : ∀ b ∈ pre, 128 ≤ b) : decN pre = none := by
  have ht := takeWhile_of pre [] h (by simp)
  rw [List.append_nil] at ht
  unfold decN
  rw [ht]
  simp

theorem decN_at (pre : List Nat) (b : Nat) (rest : List Nat) (h : ∀ b ∈ pre, 128 ≤ b) (hb : b < 128) :
    decN (pre ++ b :: rest) =
      if 5 ≤ pre.length ∨ (pre.length = 4 ∧ 15 < b) ∨ (1 ≤ pre.length ∧ b = 0) then none else some (acc (pre ++ [b]), pre.length + 1) := by
  have ht := takeWhile_of pre (b :: rest) h (by simp; omega)
  unfold decN
  rw [ht]
  simp

/-- The bytes are those of the number that they say. -/
theorem varint_acc : ∀ (pre : List Nat) (b : Nat), (∀ c ∈ pre, 128 ≤ c ∧ c < 256) → b < 128 → (1 ≤ pre.length → b ≠ 0) → varint (acc (pre ++ [b])) = pre ++ [b]
  | [], b, _, hb, _ => by simp [acc]; rw [varint_small (by omega)]; congr 1; omega
  | c :: pre, b, h, hb, h0 => by
    have hc := h c (by simp)
    have hb0 := h0 (by simp)
    have ih := varint_acc pre b (fun d hd => h d (by simp [hd])) hb (fun _ => hb0)
    have hpos : 1 ≤ acc (pre ++ [b]) := by
      rw [acc_snoc]
      have : 1 ≤ 128 ^ pre.length * (b % 128) := Nat.mul_pos (Nat.pow_pos (by omega)) (by omega)
      omega
    simp only [List.cons_append, acc]
    rw [varint_big (by omega)]
    have e1 : (c % 128 + 128 * acc (pre ++ [b])) % 128 + 128 = c := by omega
    have e2 : (c % 128 + 128 * acc (pre ++ [b])) / 128 = acc (pre ++ [b]) := by omega
    rw [e1, e2, ih]

theorem acc_lt32 (pre : List Nat) (b : Nat) (hb : b < 128) (h5 : ¬ 5 ≤ pre.length) (h4 : ¬ (pre.length = 4 ∧ 15 < b)) : acc (pre ++ [b]) < 2 ^ 32 := by
  rw [acc_snoc]
  have hl := acc_lt pre
  have hbm : b % 128 = b := Nat.mod_eq_of_lt hb
  rw [hbm]
  rcases (show pre.length = 0 ∨ pre.length = 1 ∨ pre.length = 2 ∨ pre.length = 3 ∨ pre.length = 4 from by omega) with h | h | h | h | h <;> rw [h] at hl ⊢ <;> omega

theorem decN_some {bs : List Nat} {x n : Nat} (hbs : ∀ b ∈ bs, b < 256) (h : decN bs = some (x, n)) : x < 2 ^ 32 ∧ n = (varint x).length ∧ ∃ rest, bs = varint x ++ rest := by
  have hsplit := List.takeWhile_append_dropWhile (p := fun b => decide (128 ≤ b)) (l := bs)
  generalize hp : bs.takeWhile (fun b => decide (128 ≤ b)) = pre at hsplit
  have hpre : ∀ c ∈ pre, 128 ≤ c := fun c hc => by
    rw [← hp] at hc
    have := List.all_eq_true.1 (List.all_takeWhile (p := fun b => decide (128 ≤ b)) (l := bs)) c hc
    simpa using this
  generalize hd : bs.dropWhile (fun b => decide (128 ≤ b)) = rest at hsplit
  cases rest with
  | nil =>
    rw [List.append_nil] at hsplit
    subst hsplit
    rw [decN_end _ hpre] at h
    cases h
  | cons b rest =>
    have hb : b < 128 := by
      have h1 := List.head?_dropWhile_not (p := fun b => decide (128 ≤ b)) bs
      rw [hd] at h1
      simpa using h1
    rw [← hsplit, decN_at pre b rest hpre hb] at h
    split at h
    · cases h
    · rename_i hc
      simp only [Option.some.injEq, Prod.mk.injEq] at h
      obtain ⟨rfl, rfl⟩ := h
      have hc1 : ¬ 5 ≤ pre.length := fun h => hc (Or.inl h)
      have hc2 : ¬ (pre.length = 4 ∧ 15 < b) := fun h => hc (Or.inr (Or.inl h))
      have hc3 : 1 ≤ pre.length → b ≠ 0 := fun h h0 => hc (Or.inr (Or.inr ⟨h, h0⟩))
      have hv := varint_acc pre b (fun c hc => ⟨hpre c hc, hbs c (by rw [← hsplit]; simp [hc])⟩) hb hc3
      refine ⟨acc_lt32 pre b hb hc1 hc2, by rw [hv]; simp, rest, by rw [hv, ← hsplit]; simp⟩

/-- The bytes of a number: high ones, then one that is none; what they say; that they are few. -/
theorem varint_parts (x : Nat) : ∃ pre b, varint x = pre ++ [b] ∧ (∀ c ∈ pre, 128 ≤ c) ∧ b < 128 ∧ (1 ≤ pre.length → b ≠ 0) ∧ acc (pre ++ [b]) = x ∧ (pre.length = 0 → b = x) ∧ (x ≠ 0 → b ≠ 0) := by
  induction x using Nat.strongRecOn with
  | _ x ih =>
    by_cases hx : x < 128
    · exact ⟨[], x, by rw [varint_small hx]; rfl, by simp, hx, by simp, by simp [acc]; omega, by simp, fun h => h⟩
    · obtain ⟨pre, b, h1, h2, h3, h4, h5, h6, h7⟩ := ih (x / 128) (by omega)
      refine ⟨(x % 128 + 128) :: pre, b, by rw [varint_big hx, h1]; rfl, ?_, h3, fun _ => h7 (by omega), ?_, by simp, fun _ => h7 (by omega)⟩
      · intro c hc
        rcases List.mem_cons.1 hc with rfl | hc
        · omega
        · exact h2 c hc
      · simp only [List.cons_append, acc, h5]; omega

theorem decN_varint (x : Nat) (hx : x < 2 ^ 32) (rest : List Nat) : decN (varint x ++ rest) = some (x, (varint x).length) := by
  obtain ⟨pre, b, h1, h2, h3, h4, h5, _, _⟩ := varint_parts x
  have hl : (varint x).length = pre.length + 1 := by rw [h1]; simp
  have hl5 := varint_le5 x hx
  rw [h1, List.append_assoc, List.singleton_append, decN_at pre b rest h2 h3, if_neg, h5]
  · rw [List.length_append]; rfl
  · rintro (h | ⟨h, hb⟩ | ⟨h, hb⟩)
    · omega
    · rw [acc_snoc, h] at h5
      have : b % 128 = b := Nat.mod_eq_of_lt h3
      rw [this] at h5
      omega
    · exact h4 h hb

/-- Where a list ends. -/
def lastOr : Nat → List Nat → Nat
  | l, [] => l
  | _, k :: ks => lastOr k ks
theorem lastOr_snoc (l : Nat) (ks : List Nat) (k : Nat) : lastOr l (ks ++ [k]) = k := by
  induction ks generalizing l with
  | nil => rfl
  | cons c ks ih => exact ih c

/-- Keys as their differences, behind a key l. -/
def encFrom : Nat → List Nat → List Nat
  | _, [] => []
  | l, k :: ks => varint (k - l) ++ encFrom k ks

theorem encFrom_append (l : Nat) (as bs : List Nat) : encFrom l (as ++ bs) = encFrom l as ++ encFrom (lastOr l as) bs := by
  induction as generalizing l with
  | nil => rfl
  | cons a as ih => simp only [List.cons_append, encFrom, lastOr, ih, List.append_assoc]
theorem encFrom_snoc (l : Nat) (as : List Nat) (k : Nat) : encFrom l (as ++ [k]) = encFrom l as ++ varint (k - lastOr l as) := by
  rw [encFrom_append]; simp [encFrom]
theorem encFrom_byte (l : Nat) (ks : List Nat) : ∀ b ∈ encFrom l ks, b < 256 := by
  induction ks generalizing l with
  | nil => simp [encFrom]
  | cons k ks ih =>
    intro b hb
    rcases List.mem_append.1 hb with hb | hb
    · exact varint_byte _ b hb
    · exact ih k b hb
theorem encFrom_ge (l : Nat) (ks : List Nat) : ks.length ≤ (encFrom l ks).length := by
  induction ks generalizing l with
  | nil => simp [encFrom]
  | cons k ks ih =>
    have := varint_pos (k - l)
    have := ih k
    simp only [encFrom, List.length_append, List.length_cons]; omega
theorem encFrom_le (l : Nat) (ks : List Nat) (h : ∀ k ∈ ks, k < 2 ^ 32) : (encFrom l ks).length ≤ 5 * ks.length := by
  induction ks generalizing l with
  | nil => simp [encFrom]
  | cons k ks ih =>
    have hk := h k (by simp)
    have := varint_le5 (k - l) (by omega)
    have := ih k (fun c hc => h c (by simp [hc]))
    simp only [encFrom, List.length_append, List.length_cons]; omega

/-- Keys rise: each is above the one before it (the first one: not below l). -/
def Rising : List Nat → Prop := List.Pairwise (· < ·)

theorem lastOr_mem (l : Nat) (ks : List Nat) (h : ks ≠ []) : lastOr l ks ∈ ks := by
  induction ks generalizing l with
  | nil => exact absurd rfl h
  | cons k ks ih =>
    cases ks with
    | nil => simp [lastOr]
    | cons c cs =>
      have := ih k (by simp)
      show lastOr k (c :: cs) ∈ k :: c :: cs
      exact List.mem_cons_of_mem _ this

theorem rising_snoc {ks : List Nat} {k : Nat} (h : Rising ks) (hk : ks ≠ [] → lastOr 0 ks < k) : Rising (ks ++ [k]) := by
  unfold Rising at *
  rw [List.pairwise_append]
  refine ⟨h, List.pairwise_singleton _ _, ?_⟩
  intro a ha b hb
  rw [List.mem_singleton] at hb
  subst hb
  have hne : ks ≠ [] := List.ne_nil_of_mem ha
  have hl := hk hne
  have : a ≤ lastOr 0 ks := by
    clear hl hk hne
    have gen : ∀ (ks : List Nat) (l : Nat), List.Pairwise (· < ·) ks → ∀ a ∈ ks, a ≤ lastOr l ks := by
      intro ks
      induction ks with
      | nil => intro l _ a ha; cases ha
      | cons c cs ih =>
        intro l hp a ha
        rw [List.pairwise_cons] at hp
        show a ≤ lastOr c cs
        cases cs with
        | nil =>
          rw [List.mem_singleton] at ha
          subst ha
          exact Nat.le_refl _
        | cons d ds =>
          rcases List.mem_cons.1 ha with rfl | ha
          · exact Nat.le_of_lt (hp.1 _ (lastOr_mem _ _ (by simp)))
          · exact ih c hp.2 a ha
    exact gen ks 0 h a ha
  omega

theorem rising_lt {a b : List Nat} (h : Rising (a ++ b)) (k : Nat) (rest : List Nat) (hb : b = k :: rest) (ha : a ≠ []) : lastOr 0 a < k := by
  subst hb
  unfold Rising at h
  rw [List.pairwise_append] at h
  exact h.2.2 _ (lastOr_mem 0 a ha) k (by simp)

theorem rising_le {a b : List Nat} (h : Rising (a ++ b)) (k : Nat) (rest : List Nat) (hb : b = k :: rest) : lastOr 0 a ≤ k := by
  by_cases ha : a = []
  · subst ha; exact Nat.zero_le _
  · exact Nat.le_of_lt (rising_lt h k rest hb ha)

/-! ### What decode has read behind t bytes from i on -/
def sofar (bs : List Nat) (i t : Nat) : Nat := acc ((bs.drop i).take t) % 2 ^ 32
/-- Seven digits, moved t times up. -/
def shl7 (b t : Nat) : Nat := b % 128 * 2 ^ (min (t * 7) 32) % 2 ^ 32
def lo7 (b : Nat) : Nat := b % 128

theorem drop_take_succ (bs : List Nat) (i t : Nat) (h : i + t < bs.length) : (bs.drop i).take (t + 1) = (bs.drop i).take t ++ [bs.getD (i + t) 0] := by
  rw [List.take_succ_eq_append_getElem (by rw [List.length_drop]; omega), List.getElem_drop, List.getD_eq_getElem?_getD, List.getElem?_eq_getElem h]
  rfl
theorem drop_split (bs : List Nat) (i t : Nat) (h : i + t < bs.length) : bs.drop i = (bs.drop i).take t ++ bs.getD (i + t) 0 :: bs.drop (i + t + 1) := by
  have h1 := List.take_append_drop (t + 1) (bs.drop i)
  rw [drop_take_succ bs i t h, List.drop_drop, List.append_assoc, List.singleton_append] at h1
  exact h1.symm
theorem take_len (bs : List Nat) (i t : Nat) (h : i + t ≤ bs.length) : ((bs.drop i).take t).length = t := by
  rw [List.length_take, List.length_drop]; omega

theorem pow128 (t : Nat) : 128 ^ t = 2 ^ (t * 7) := by
  rw [show (128 : Nat) = 2 ^ 7 from rfl, ← Nat.pow_mul, Nat.mul_comm]

theorem sofar_step (bs : List Nat) (i t : Nat) (h : i + t < bs.length) : sofar bs i t ||| shl7 (bs.getD (i + t) 0) t = sofar bs i (t + 1) := by
  unfold sofar shl7
  rw [drop_take_succ bs i t h, acc_snoc, take_len bs i t (by omega), pow128]
  have hl := acc_lt ((bs.drop i).take t)
  rw [take_len bs i t (by omega), pow128] at hl
  generalize acc ((bs.drop i).take t) = A at *
  have hb := Nat.mod_lt (bs.getD (i + t) 0) (show 0 < 128 by omega)
  generalize bs.getD (i + t) 0 % 128 = b at *
  by_cases h5 : t * 7 < 32
  · rw [Nat.min_eq_left (by omega)]
    have hA : A % 2 ^ 32 = A := Nat.mod_eq_of_lt (Nat.lt_of_lt_of_le hl (Nat.pow_le_pow_right (by omega) (by omega)))
    have e2 : (2 : Nat) ^ 32 = 2 ^ (32 - t * 7) * 2 ^ (t * 7) := by rw [← Nat.pow_add]; congr 1; omega
    have eS : b * 2 ^ (t * 7) % 2 ^ 32 = b % 2 ^ (32 - t * 7) * 2 ^ (t * 7) := by rw [e2, Nat.mul_mod_mul_right]
    have hq := Nat.mod_lt b (show 0 < 2 ^ (32 - t * 7) from Nat.pow_pos (by omega))
    rw [hA, eS, Nat.or_comm, Go.nat_join (t * 7) _ _ (Nat.mul_mod_left _ _) hl, ← eS]
    have hlt : b * 2 ^ (t * 7) % 2 ^ 32 + A < 2 ^ 32 := by
      rw [eS]
      have h3 : (b % 2 ^ (32 - t * 7) + 1) * 2 ^ (t * 7) ≤ 2 ^ (32 - t * 7) * 2 ^ (t * 7) := Nat.mul_le_mul_right _ hq
      rw [← e2, Nat.add_mul, Nat.one_mul] at h3
      omega
    rw [show A + 2 ^ (t * 7) * b = b * 2 ^ (t * 7) + A from by rw [Nat.mul_comm, Nat.add_comm], ← Nat.mod_eq_of_lt hlt, Nat.mod_add_mod]
  · rw [Nat.min_eq_right (by omega), Nat.mul_mod_left, Nat.or_zero]
    have e : (2 : Nat) ^ (t * 7) = 2 ^ 32 * 2 ^ (t * 7 - 32) := by rw [← Nat.pow_add]; congr 1; omega
    rw [e, Nat.mul_assoc, Nat.add_mul_mod_self_left]

theorem sofar_lt (bs : List Nat) (i t : Nat) : sofar bs i t < 4294967296 := Nat.mod_lt _ (by omega)
theorem shl7_lt (b t : Nat) : shl7 b t < 4294967296 := Nat.mod_lt _ (by omega)
theorem lo7_lt (b : Nat) : lo7 b < 128 := Nat.mod_lt _ (by omega)

/-- What decode gives where a byte stands that is none of the high ones. -/
theorem decN_low (bs : List Nat) (i t : Nat) (h : i + t < bs.length) (hb : bs.getD (i + t) 0 < 128) (hh : ∀ b ∈ (bs.drop i).take t, 128 ≤ b) :
    decN (bs.drop i) = if 5 ≤ t ∨ (t = 4 ∧ 15 < bs.getD (i + t) 0) ∨ (1 ≤ t ∧ bs.getD (i + t) 0 = 0) then none else some (sofar bs i (t + 1), t + 1) := by
  have hd := drop_split bs i t h
  have hl := take_len bs i t (by omega)
  rw [hd, decN_at _ _ _ hh hb, hl]
  by_cases hc : 5 ≤ t ∨ (t = 4 ∧ 15 < bs.getD (i + t) 0) ∨ (1 ≤ t ∧ bs.getD (i + t) 0 = 0)
  · rw [if_pos hc, if_pos hc]
  · rw [if_neg hc, if_neg hc]
    unfold sofar
    rw [drop_take_succ bs i t h]
    have := acc_lt32 ((bs.drop i).take t) (bs.getD (i + t) 0) hb (by rw [hl]; exact fun h => hc (Or.inl h)) (by rw [hl]; exact fun h => hc (Or.inr (Or.inl h)))
    rw [Nat.mod_eq_of_lt this]
theorem decN_out (bs : List Nat) (i t : Nat) (h : i + t = bs.length) (hh : ∀ b ∈ (bs.drop i).take t, 128 ≤ b) : decN (bs.drop i) = none := by
  have : (bs.drop i).take t = bs.drop i := List.take_of_length_le (by rw [List.length_drop]; omega)
  rw [this] at hh
  exact decN_end _ hh
theorem high_snoc (bs : List Nat) (i t : Nat) (h : i + t < bs.length) (hb : 128 ≤ bs.getD (i + t) 0) (hh : ∀ b ∈ (bs.drop i).take t, 128 ≤ b) :
    ∀ b ∈ (bs.drop i).take (t + 1), 128 ≤ b := by
  rw [drop_take_succ bs i t h]
  intro b hb'
  rcases List.mem_append.1 hb' with h1 | h1
  · exact hh b h1
  · rw [List.mem_singleton] at h1; subst h1; exact hb
theorem getD_lt {bs : List Nat} {m : Nat} (h : ∀ b ∈ bs, b < m) (hm : 0 < m) (i : Nat) : bs.getD i 0 < m := by
  rw [List.getD_eq_getElem?_getD]
  cases hb : bs[i]? with
  | none => exact hm
  | some b => exact h b (List.mem_of_getElem? hb)
end Go.Proofs.YtoegfdndoeiolaaDoor
