import Derived.Test.Qxb6600853aUntouched
namespace Go.Proofs.Qxb6600853a
open Go.RowKit
set_option linter.unusedVariables false

theorem rank_succ (R : Nat → Int) (m k : Nat) : Plain.rank R (m + 1) k = Plain.rank R m k + if R m < R k then 1 else 0 := by
  unfold Plain.rank
  rw [List.range_succ, List.countP_append]
  simp [List.countP_cons]

theorem rank_le (R : Nat → Int) (m k : Nat) : Plain.rank R m k ≤ m := by
  have := List.countP_le_length (p := fun j => decide (R j < R k)) (l := List.range m)
  simpa [Plain.rank] using this

theorem arr_getD (d : Array Nat) (j : Nat) : d[j]! = d.toList.getD j 0 := by
  rw [List.getD_eq_getElem?_getD, Array.getElem?_toList]
  by_cases h : j < d.size
  · rw [getElem!_pos d j h, Array.getElem?_eq_getElem h]; rfl
  · rw [getElem!_neg d j h, Array.getElem?_eq_none (by omega)]; rfl

theorem perm_list {n : Nat} {d : Array Nat} (h : Sort.PermIn 0 n (Array.range n) d) : d.toList.Perm (List.range n) := by
  obtain ⟨h1, _, h3⟩ := h
  have e1 : d.extract 0 n = d := by rw [Array.size_range] at h1; rw [← h1]; simp
  have e2 : (Array.range n).extract 0 n = Array.range n := by
    have : (Array.range n).extract 0 (Array.range n).size = Array.range n := by simp
    rwa [Array.size_range] at this
  rw [e1, e2] at h3
  simpa using h3

theorem sorted_list {n : Nat} {d : Array Nat} {R : Nat → Int} (h : Sort.SortedIn (ltOf (cf R)) 0 n d) : ∀ i j, i < j → j < n → ¬ R (d.toList.getD j 0) < R (d.toList.getD i 0) := by
  intro i j hij hj
  have := h i j (Nat.zero_le _) hij hj
  rw [lt_cf, arr_getD, arr_getD] at this
  simpa using this

/-- Every permutation's places lie in range. -/
theorem perm_lt {n : Nat} {d : Array Nat} (h : Sort.PermIn 0 n (Array.range n) d) (j : Nat) (hj : j < n) : d[j]! < n := by
  have hs : d.size = n := by simpa using h.1
  rw [getElem!_pos d j (by omega)]
  have : d[j] ∈ d.toList := by simp
  simpa using (perm_list h).mem_iff.1 this

/-- What the rest needs of the three slices, there being at least one message. -/
theorem ins_of {w : World} {a1 a2 a3 : Option Addr} {n : Nat} {E R : Nat → Int} {Z : Nat → List Int} (hp : 0 < n) (h1 : IRow .u64 w a1 n E) (h2 : IRow .i64 w a2 n R) (h3 : ZRow w a3 n Z) (hz : ∀ i, i < n → (Z i).length ≤ 1048576) :
    ∃ b1 o1 b2 o2 b3 o3, a1 = some ⟨b1, o1, none⟩ ∧ a2 = some ⟨b2, o2, none⟩ ∧ a3 = some ⟨b3, o3, none⟩ ∧ Ins w n b1 o1 b2 o2 b3 o3 E R Z := by
  obtain ⟨b1, o1, rfl, _⟩ := h1 0 hp
  obtain ⟨b2, o2, rfl, _⟩ := h2 0 hp
  obtain ⟨b3, o3, x, c, rfl, _⟩ := h3 0 hp
  refine ⟨b1, o1, b2, o2, b3, o3, rfl, rfl, rfl, fun i hi => ?_, fun i hi => ?_, fun i hi => ?_, hz⟩
  · obtain ⟨b, o, e, h⟩ := h1 i hi; cases e; exact h
  · obtain ⟨b, o, e, h⟩ := h2 i hi; cases e; exact h
  · obtain ⟨b, o, x, c, e, h, hs⟩ := h3 i hi; cases e; exact ⟨_, h, hs⟩

theorem bounded_all {n : Nat} {R : Nat → Int} (h : Bounded n R) (h0 : ∀ i, n ≤ i → R i = 0) : ∀ i, -4611686018427387904 < R i ∧ R i < 4611686018427387904 := by
  intro i
  by_cases hi : i < n
  · exact h i hi
  · rw [h0 i (by omega)]; omega

theorem distinct_inj {n : Nat} {R : Nat → Int} (h : Distinct n R) : ∀ i j, i < n → j < n → R i = R j → i = j := by
  intro i j hi hj e
  rcases Nat.lt_trichotomy i j with q | q | q
  · exact absurd e (h i j q hj)
  · exact q
  · exact absurd e.symm (h j i q hi)

end Go.Proofs.Qxb6600853a
