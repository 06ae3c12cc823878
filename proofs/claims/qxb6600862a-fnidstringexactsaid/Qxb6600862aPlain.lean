namespace Go.Proofs.Qxb6600862a.Plain

/-- The 128-bit number of the two words. -/
def num (hi lo : Nat) : Nat := hi * 18446744073709551616 + lo

def crockL : List Nat := [48, 49, 50, 51, 52, 53, 54, 55, 56, 57, 65, 66, 67, 68, 69, 70, 71, 72, 74, 75, 77, 78, 80, 81, 82, 83, 84, 86, 87, 88, 89, 90]
/-- The Crockford digit of value d, as a byte. -/
def crock (d : Nat) : Nat := crockL.getD d 0

theorem crock_mono : ∀ b, b < 32 → ∀ a, a < b → crock a < crock b := by decide +kernel
theorem crock_lt (d : Nat) (h : d < 32) : crock d < 256 := by revert d; decide +kernel
theorem crock_pos (d : Nat) (h : d < 32) : 0 < crock d := by revert d; decide +kernel
theorem crock_inj (a b : Nat) (ha : a < 32) (hb : b < 32) (h : crock a = crock b) : a = b := by
  rcases Nat.lt_trichotomy a b with h1 | h1 | h1
  · have := crock_mono b hb a h1; omega
  · exact h1
  · have := crock_mono a ha b h1; omega

/-- The last k digits of N, the most significant first. -/
def digs : Nat → Nat → List Nat
  | 0, _ => []
  | k + 1, N => crock (N / 32 ^ k % 32) :: digs k N

theorem length_digs (k N : Nat) : (digs k N).length = k := by
  induction k with
  | zero => rfl
  | succ k ih => simp [digs, ih]

theorem getD_digs (k N i : Nat) (h : i < k) : (digs k N).getD i 0 = crock (N / 32 ^ (k - 1 - i) % 32) := by
  induction k generalizing i with
  | zero => omega
  | succ k ih =>
    cases i with
    | zero => simp [digs]
    | succ i =>
      have := ih i (by omega)
      simp only [digs, List.getD_cons_succ, this]
      rw [show k + 1 - 1 - (i + 1) = k - 1 - i by omega]

theorem mem_digs (k N : Nat) : ∀ x ∈ digs k N, 0 < x ∧ x < 256 := by
  induction k with
  | zero => simp [digs]
  | succ k ih =>
    intro x hx
    simp only [digs, List.mem_cons] at hx
    rcases hx with rfl | hx
    · exact ⟨crock_pos _ (Nat.mod_lt _ (by decide)), crock_lt _ (Nat.mod_lt _ (by decide))⟩
    · exact ih x hx

/-- Bytes compared one by one. -/
def cmpL : List Nat → List Nat → Int
  | [], [] => 0
  | [], _ :: _ => -1
  | _ :: _, [] => 1
  | a :: as, b :: bs => if a < b then -1 else if b < a then 1 else cmpL as bs

def cmpN (a b : Nat) : Int := if a < b then -1 else if b < a then 1 else 0

theorem mod_split (N k : Nat) : N % 32 ^ (k + 1) = N / 32 ^ k % 32 * 32 ^ k + N % 32 ^ k := by
  rw [Nat.pow_succ, Nat.mod_mul, Nat.mul_comm, Nat.add_comm]

theorem cmp_digs (k N M : Nat) : cmpL (digs k N) (digs k M) = cmpN (N % 32 ^ k) (M % 32 ^ k) := by
  induction k with
  | zero => simp [digs, cmpL, cmpN, Nat.mod_one]
  | succ k ih =>
    have hp : 0 < 32 ^ k := Nat.pow_pos (by decide)
    have hn := mod_split N k
    have hm := mod_split M k
    have r1 := Nat.mod_lt N hp
    have r2 := Nat.mod_lt M hp
    have d1 : N / 32 ^ k % 32 < 32 := Nat.mod_lt _ (by decide)
    have d2 : M / 32 ^ k % 32 < 32 := Nat.mod_lt _ (by decide)
    simp only [digs, cmpL]
    rw [hn, hm]
    generalize N / 32 ^ k % 32 = a at *
    generalize M / 32 ^ k % 32 = b at *
    generalize N % 32 ^ k = x at *
    generalize M % 32 ^ k = y at *
    generalize 32 ^ k = q at *
    rcases Nat.lt_trichotomy a b with h | h | h
    · have hc := crock_mono b d2 a h
      have : (a + 1) * q ≤ b * q := Nat.mul_le_mul_right q h
      rw [Nat.add_mul, Nat.one_mul] at this
      rw [if_pos hc]; unfold cmpN; rw [if_pos (by omega)]
    · subst h
      rw [if_neg (Nat.lt_irrefl _), if_neg (Nat.lt_irrefl _), ih]
      unfold cmpN
      simp only [Nat.add_lt_add_iff_left]
    · have hc := crock_mono a d1 b h
      have : (b + 1) * q ≤ a * q := Nat.mul_le_mul_right q h
      rw [Nat.add_mul, Nat.one_mul] at this
      rw [if_neg (by omega), if_pos hc]; unfold cmpN; rw [if_neg (by omega), if_pos (by omega)]

theorem cmpL_self_eq (a b : List Nat) : cmpL a b = 0 ↔ a = b := by
  induction a generalizing b with
  | nil => cases b <;> simp [cmpL]
  | cons x xs ih =>
    cases b with
    | nil => simp [cmpL]
    | cons y ys =>
      simp only [cmpL]
      by_cases h1 : x < y
      · rw [if_pos h1]; simp; intro e; omega
      · rw [if_neg h1]
        by_cases h2 : y < x
        · rw [if_pos h2]; simp; intro e; omega
        · rw [if_neg h2, ih]
          have : x = y := by omega
          simp [this]

theorem digs_eq (k N M : Nat) : digs k N = digs k M ↔ N % 32 ^ k = M % 32 ^ k := by
  rw [← cmpL_self_eq, cmp_digs]
  unfold cmpN
  constructor
  · intro h
    by_cases h1 : N % 32 ^ k < M % 32 ^ k
    · rw [if_pos h1] at h; omega
    · rw [if_neg h1] at h
      by_cases h2 : M % 32 ^ k < N % 32 ^ k
      · rw [if_pos h2] at h; omega
      · omega
  · intro h; rw [h, if_neg (Nat.lt_irrefl _), if_neg (Nat.lt_irrefl _)]

theorem digs_add (j k N : Nat) : digs (j + k) N = digs j (N / 32 ^ k) ++ digs k N := by
  induction j with
  | zero => simp [digs]
  | succ j ih =>
    rw [show j + 1 + k = (j + k) + 1 by omega]
    simp only [digs, ih, List.cons_append]
    rw [Nat.div_div_eq_div_mul, ← Nat.pow_add, Nat.add_comm k j]

/-! ### The two words -/
theorem num_lt (hi lo : Nat) (h : hi < 18446744073709551616) (l : lo < 18446744073709551616) : num hi lo < 32 ^ 26 := by unfold num; omega

theorem cmp_text (h1 l1 h2 l2 : Nat) (a : h1 < 18446744073709551616) (b : l1 < 18446744073709551616) (c : h2 < 18446744073709551616) (d : l2 < 18446744073709551616) :
    cmpL (digs 26 (num h1 l1)) (digs 26 (num h2 l2)) = if h1 < h2 then -1 else if h2 < h1 then 1 else if l1 < l2 then -1 else if l2 < l1 then 1 else 0 := by
  rw [cmp_digs, Nat.mod_eq_of_lt (num_lt _ _ a b), Nat.mod_eq_of_lt (num_lt _ _ c d)]
  unfold cmpN num
  repeat' split
  all_goals omega

theorem time_text (h1 l1 h2 l2 : Nat) (a : h1 < 18446744073709551616) (b : l1 < 18446744073709551616) (c : h2 < 18446744073709551616) (d : l2 < 18446744073709551616) :
    (digs 26 (num h1 l1)).take 10 = (digs 26 (num h2 l2)).take 10 ↔ h1 / 65536 = h2 / 65536 := by
  have e : ∀ N, (digs 26 N).take 10 = digs 10 (N / 32 ^ 16) := fun N => by
    rw [digs_add 10 16 N, List.take_append_of_le_length (by rw [length_digs]; omega), List.take_of_length_le (by rw [length_digs]; omega)]
  rw [e, e, digs_eq]
  unfold num
  have p : (32 : Nat) ^ 16 = 1208925819614629174706176 := by decide
  have q : (32 : Nat) ^ 10 = 1125899906842624 := by decide
  rw [p, q]
  omega

theorem rand_text (h1 l1 h2 l2 : Nat) (b : l1 < 18446744073709551616) (d : l2 < 18446744073709551616) :
    (digs 26 (num h1 l1)).drop 10 = (digs 26 (num h2 l2)).drop 10 ↔ (h1 % 65536 = h2 % 65536 ∧ l1 = l2) := by
  have e : ∀ N, (digs 26 N).drop 10 = digs 16 N := fun N => by
    rw [digs_add 10 16 N, List.drop_append_of_le_length (by rw [length_digs]; omega), List.drop_of_length_le (by rw [length_digs]; omega), List.nil_append]
  rw [e, e, digs_eq]
  unfold num
  have p : (32 : Nat) ^ 16 = 1208925819614629174706176 := by decide
  rw [p]
  omega

/-! ### One round of appendText's loop, of zzDecode26's -/
theorem enc_dig (hi lo : Nat) : lo % 32 = num hi lo % 32 := by unfold num; omega

theorem or_low (x y : Nat) (hx : x < 576460752303423488) : x ||| (y * 576460752303423488 % 18446744073709551616) = x + y % 32 * 576460752303423488 := by
  have e : y * 576460752303423488 % 18446744073709551616 = 2 ^ 59 * (y % 32) := by omega
  rw [e, Nat.or_comm, ← Nat.two_pow_add_eq_or_of_lt (by simpa using hx)]
  omega

theorem enc_step (hi lo : Nat) (l : lo < 18446744073709551616) :
    num (hi / 32) (lo / 32 ||| (hi * 576460752303423488 % 18446744073709551616)) = num hi lo / 32 ∧ (lo / 32 ||| (hi * 576460752303423488 % 18446744073709551616)) < 18446744073709551616 := by
  rw [or_low _ _ (by omega)]
  unfold num
  omega

theorem or_shl5 (x y : Nat) (hy : y < 32) : (x * 32 % 18446744073709551616) ||| y = x * 32 % 18446744073709551616 + y := by
  have e : x * 32 % 18446744073709551616 = 2 ^ 5 * (x * 32 % 18446744073709551616 / 32) := by omega
  rw [e, ← Nat.two_pow_add_eq_or_of_lt (by simpa using hy)]

theorem dec_step (hi lo d : Nat) (h : hi < 576460752303423488) (l : lo < 18446744073709551616) (hd : d < 32) :
    num ((hi * 32 % 18446744073709551616) ||| (lo / 576460752303423488)) ((lo * 32 % 18446744073709551616) ||| d) = num hi lo * 32 + d ∧
    ((hi * 32 % 18446744073709551616) ||| (lo / 576460752303423488)) < 18446744073709551616 ∧ ((lo * 32 % 18446744073709551616) ||| d) < 18446744073709551616 := by
  rw [or_shl5 _ _ hd, or_shl5 _ _ (by omega)]
  unfold num
  omega

theorem num_inj (h1 l1 h2 l2 : Nat) (b : l1 < 18446744073709551616) (d : l2 < 18446744073709551616) (e : num h1 l1 = num h2 l2) : h1 = h2 ∧ l1 = l2 := by
  unfold num at e; omega

theorem hi_small (hi lo : Nat) (h : num hi lo < 10633823966279326983230456482242756608) : hi < 576460752303423488 := by unfold num at h; omega

/-- N's first i digits of 26, as a number. -/
theorem top_succ (N i : Nat) (h : i < 26) : N / 32 ^ (26 - (i + 1)) = N / 32 ^ (26 - i) * 32 + N / 32 ^ (25 - i) % 32 := by
  rw [show 26 - i = (25 - i) + 1 by omega, show 26 - (i + 1) = 25 - i by omega, Nat.pow_succ, ← Nat.div_div_eq_div_mul]
  omega

theorem top_small (N i : Nat) (h : i < 26) (hN : N < 340282366920938463463374607431768211456) : N / 32 ^ (26 - i) < 10633823966279326983230456482242756608 := by
  refine Nat.lt_of_le_of_lt (Nat.div_le_div_left (c := 32 ^ 1) (Nat.pow_le_pow_right (by decide) (by omega)) (by decide)) ?_
  omega

end Go.Proofs.Qxb6600862a.Plain
