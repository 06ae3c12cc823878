namespace Go.Proofs.Qxb6600853a.Plain

/-- The rank of i: how many of 0 .. n-1 have a smaller key. -/
def rank (R : Nat → Int) (n i : Nat) : Nat := (List.range n).countP fun j => decide (R j < R i)

theorem rank_at (R : Nat → Int) (n : Nat) (p : List Nat) (hp : p.Perm (List.range n))
    (hs : ∀ i j, i < j → j < n → ¬ R (p.getD j 0) < R (p.getD i 0))
    (hinj : ∀ i j, i < n → j < n → R i = R j → i = j) (k : Nat) (hk : k < n) : rank R n (p.getD k 0) = k := by
  have hl : p.length = n := by simpa using hp.length_eq
  have hnd : p.Nodup := hp.nodup_iff.2 List.nodup_range
  unfold rank
  rw [← hp.countP_eq]
  have hsplit : p = p.take k ++ p.drop k := (List.take_append_drop k p).symm
  have hmem : ∀ x, x ∈ p → x < n := fun x hx => by simpa using hp.mem_iff.1 hx
  have e1 : (p.take k).countP (fun j => decide (R j < R (p.getD k 0))) = (p.take k).length := by
    rw [List.countP_eq_length]
    intro x hx
    obtain ⟨m, hm, rfl⟩ := List.mem_take_iff_getElem.1 hx
    have hmk : m < k := by omega
    have h1 := hs m k hmk hk
    simp only [List.getD_eq_getElem?_getD, List.getElem?_eq_getElem (show m < p.length by omega), List.getElem?_eq_getElem (show k < p.length by omega), Option.getD_some] at h1 ⊢
    have hne : R p[m] ≠ R p[k] := fun h => by
      have := hinj _ _ (hmem _ (List.getElem_mem _)) (hmem _ (List.getElem_mem _)) h
      exact List.pairwise_iff_getElem.1 hnd m k (by omega) (by omega) hmk this
    exact decide_eq_true (by omega)
  have e2 : (p.drop k).countP (fun j => decide (R j < R (p.getD k 0))) = 0 := by
    rw [List.countP_eq_zero]
    intro x hx
    obtain ⟨m, hm, rfl⟩ := List.mem_drop_iff_getElem.1 hx
    simp only [List.getD_eq_getElem?_getD, List.getElem?_eq_getElem (show k < p.length by omega), Option.getD_some, decide_eq_true_eq]
    by_cases h0 : m = 0
    · subst h0; simp
    · have h1 := hs k (k + m) (by omega) (by omega)
      simp only [List.getD_eq_getElem?_getD, List.getElem?_eq_getElem (show k < p.length by omega), List.getElem?_eq_getElem (show k + m < p.length by omega), Option.getD_some] at h1
      exact h1
  conv => lhs; rw [hsplit]
  rw [List.countP_append, ← hsplit, e1, e2]
  simp; omega

theorem at_rank (R : Nat → Int) (n : Nat) (p : List Nat) (hp : p.Perm (List.range n))
    (hs : ∀ i j, i < j → j < n → ¬ R (p.getD j 0) < R (p.getD i 0))
    (hinj : ∀ i j, i < n → j < n → R i = R j → i = j) (i : Nat) (hi : i < n) : rank R n i < n ∧ p.getD (rank R n i) 0 = i := by
  have hl : p.length = n := by simpa using hp.length_eq
  have : i ∈ p := hp.mem_iff.2 (by simpa using hi)
  obtain ⟨k, hk, rfl⟩ := List.getElem_of_mem this
  have h := rank_at R n p hp hs hinj k (by omega)
  have e : p.getD k 0 = p[k] := by simp [List.getD_eq_getElem?_getD, hk]
  rw [e] at h
  rw [h]
  exact ⟨by omega, e⟩

theorem two_sorts (R : Nat → Int) (n : Nat) (p q : List Nat) (hp : p.Perm (List.range n)) (hq : q.Perm (List.range n))
    (hs : ∀ i j, i < j → j < n → ¬ R (p.getD j 0) < R (p.getD i 0))
    (ht : ∀ i j, i < j → j < n → ¬ R (n - 1 - q.getD j 0) < R (n - 1 - q.getD i 0))
    (hinj : ∀ i j, i < n → j < n → R i = R j → i = j) (k : Nat) (hk : k < n) : p.getD k 0 = n - 1 - q.getD k 0 ∧ n - 1 - q.getD k 0 < n := by
  have hl : q.length = n := by simpa using hq.length_eq
  have hq' : (q.map fun x => n - 1 - x).Perm (List.range n) := by
    refine (hq.map _).trans ?_
    have : (List.range n).map (fun x => n - 1 - x) = (List.range n).reverse := by
      apply List.ext_getElem (by simp)
      intro i h1 h2
      simp
    rw [this]
    exact List.reverse_perm _
  have g : ∀ j, j < n → (q.map fun x => n - 1 - x).getD j 0 = n - 1 - q.getD j 0 := fun j hj => by
    simp [List.getD_eq_getElem?_getD, List.getElem?_eq_getElem (show j < q.length by omega)]
  have r := rank_at R n _ hq' (fun i j hij hj => by rw [g i (by omega), g j hj]; exact ht i j hij hj) hinj k hk
  rw [g k hk] at r
  have hlt : n - 1 - q.getD k 0 < n := by omega
  have := (at_rank R n p hp hs hinj _ hlt).2
  rw [r] at this
  exact ⟨this, hlt⟩

/-! ### The greedy match -/
def cnt (n : Nat) (f : Nat → Bool) : Nat := (List.range n).countP f

theorem cnt_succ (n : Nat) (f : Nat → Bool) : cnt (n + 1) f = cnt n f + (if f n then 1 else 0) := by
  unfold cnt; rw [List.range_succ, List.countP_append]; simp [List.countP_cons]

theorem cnt_congr (n : Nat) (f g : Nat → Bool) (h : ∀ j, j < n → f j = g j) : cnt n f = cnt n g := by
  unfold cnt
  apply List.countP_congr
  intro x hx
  rw [h x (by simpa using hx)]

theorem cnt_mono (m n : Nat) (f : Nat → Bool) (h : m ≤ n) : cnt m f ≤ cnt n f := by
  induction n with
  | zero => have : m = 0 := by omega
            subst this; exact Nat.le_refl _
  | succ n ih =>
    by_cases e : m = n + 1
    · subst e; exact Nat.le_refl _
    · have := ih (by omega); rw [cnt_succ]; omega

/-- One place turned from false to true. -/
theorem cnt_flip (n : Nat) (f g : Nat → Bool) (j : Nat) (hj : j < n) (hf : f j = false) (hg : g j = true) (h : ∀ i, i ≠ j → f i = g i) : cnt n g = cnt n f + 1 := by
  induction n with
  | zero => omega
  | succ n ih =>
    rw [cnt_succ, cnt_succ]
    by_cases e : j = n
    · subst e
      rw [cnt_congr j f g (fun i hi => h i (by omega)), hf, hg]; simp
    · have := ih (by omega)
      rw [h n (fun e' => e e'.symm)]
      omega

theorem cnt_lt (n : Nat) (f g : Nat → Bool) (hlt : cnt n f < cnt n g) (hle : ∀ j, j < n → f j = true → g j = true) : ∃ j, j < n ∧ g j = true ∧ f j = false := by
  induction n with
  | zero => simp [cnt] at hlt
  | succ n ih =>
    rw [cnt_succ, cnt_succ] at hlt
    by_cases hh : g n = true ∧ f n = false
    · exact ⟨n, by omega, hh.1, hh.2⟩
    · have : (if g n = true then 1 else 0) ≤ (if f n = true then 1 else 0) := by
        cases hg : g n <;> cases hf : f n <;> simp [hg, hf] at hh ⊢
      obtain ⟨j, hj, r⟩ := ih (by omega) (fun j hj => hle j (by omega))
      exact ⟨j, by omega, r⟩

theorem cnt_perm {β : Type} [DecidableEq β] (n : Nat) (p : List Nat) (hp : p.Perm (List.range n)) (K : Nat → β) (x : β) :
    cnt n (fun j => decide (K (p.getD j 0) = x)) = cnt n (fun m => decide (K m = x)) := by
  have hl : p.length = n := by simpa using hp.length_eq
  unfold cnt
  rw [← hp.countP_eq (fun m => decide (K m = x))]
  have : p = (List.range n).map (fun j => p.getD j 0) := by
    apply List.ext_getElem (by simp [hl])
    intro i h1 h2
    simp [List.getD_eq_getElem?_getD, h1]
  conv => rhs; rw [this]
  rw [List.countP_map]
  rfl

/-- What the outer loop of the match keeps: of every key as many places are used as messages with that key have been met. -/
def Inv {β : Type} [DecidableEq β] (n : Nat) (p : List Nat) (K : Nat → β) (used : Nat → Bool) (i : Nat) : Prop :=
  ∀ x, cnt n (fun j => used j && decide (K (p.getD j 0) = x)) = cnt i (fun m => decide (K m = x))

theorem Inv.zero {β : Type} [DecidableEq β] (n : Nat) (p : List Nat) (K : Nat → β) (used : Nat → Bool) (h : ∀ j, used j = false) : Inv n p K used 0 := by
  intro x
  rw [cnt_congr n _ (fun _ => false) (fun j _ => by simp [h j])]
  simp [cnt]

theorem Inv.finds {β : Type} [DecidableEq β] {n : Nat} {p : List Nat} (hp : p.Perm (List.range n)) {K : Nat → β} {used : Nat → Bool} {i : Nat} (h : Inv n p K used i) (hi : i < n) :
    ∃ j, j < n ∧ used j = false ∧ K (p.getD j 0) = K i := by
  have h1 := h (K i)
  have h2 := cnt_perm n p hp K (K i)
  have h3 := cnt_mono (i + 1) n (fun m => decide (K m = K i)) (by omega)
  rw [cnt_succ] at h3
  simp only [decide_true, if_true] at h3
  obtain ⟨j, hj, hg, hf⟩ := cnt_lt n (fun j => used j && decide (K (p.getD j 0) = K i)) (fun j => decide (K (p.getD j 0) = K i)) (by omega) (fun j _ hh => by simp at hh ⊢; exact hh.2)
  refine ⟨j, hj, ?_, by simpa using hg⟩
  simp only [hg, Bool.and_true] at hf
  exact hf

theorem Inv.step {β : Type} [DecidableEq β] {n : Nat} {p : List Nat} {K : Nat → β} {used used' : Nat → Bool} {i j : Nat} (h : Inv n p K used i) (hj : j < n) (hu : used j = false) (hK : K (p.getD j 0) = K i)
    (hu' : used' j = true) (ho : ∀ m, m ≠ j → used' m = used m) : Inv n p K used' (i + 1) := by
  intro x
  rw [cnt_succ]
  by_cases hx : K i = x
  · rw [cnt_flip n (fun j => used j && decide (K (p.getD j 0) = x)) _ j hj (by simp [hu]) (by rw [hu', hK]; simp [hx]) (fun m hm => by simp [ho m hm]), h x]
    simp [hx]
  · rw [cnt_congr n _ (fun j => used j && decide (K (p.getD j 0) = x)) (fun m _ => by
      by_cases e : m = j
      · subst e; rw [hK]; simp [hx]
      · simp [ho m e]), h x]
    simp [hx]

end Go.Proofs.Qxb6600853a.Plain
