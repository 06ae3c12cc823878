import Derived.Test.Qxb6600862aStr
namespace Go.Proofs.Qxb6600862a
open Go.RowKit
set_option linter.unusedVariables false

/-- zzCmp128's answer. -/
def cmp128 (h1 l1 h2 l2 : Nat) : Int := if h1 < h2 then -1 else if h2 < h1 then 1 else if l1 < l2 then -1 else if l2 < l1 then 1 else 0

set_option maxHeartbeats 400000 in
theorem cmp128_any (h1 l1 h2 l2 : Nat) (a : h1 < 18446744073709551616) (b : l1 < 18446744073709551616) (c : h2 < 18446744073709551616) (d : l2 < 18446744073709551616) (w : World) :
    Calls Try.prog 13 #[.int .u64 h1, .int .u64 l1, .int .u64 h2, .int .u64 l2] w fun e w' => e = .returned (.int .i64 (cmp128 h1 l1 h2 l2)) ∧ w' = w := by
  unfold cmp128
  by_cases q1 : h1 < h2
  · rw [if_pos q1]
    go_enter Try.func13, Try.ntmps13
    go_wp2
    go_ret
    exact ⟨rfl, rfl⟩
  rw [if_neg q1]
  by_cases q2 : h2 < h1
  · rw [if_pos q2]
    go_enter Try.func13, Try.ntmps13
    go_wp2
    go_ret
    exact ⟨rfl, rfl⟩
  rw [if_neg q2]
  by_cases q3 : l1 < l2
  · rw [if_pos q3]
    go_enter Try.func13, Try.ntmps13
    go_wp2
    go_ret
    exact ⟨rfl, rfl⟩
  rw [if_neg q3]
  by_cases q4 : l2 < l1
  · rw [if_pos q4]
    go_enter Try.func13, Try.ntmps13
    go_wp2
    go_ret
    exact ⟨rfl, rfl⟩
  rw [if_neg q4]
  go_enter Try.func13, Try.ntmps13
  go_wp2
  go_ret
  exact ⟨rfl, rfl⟩

theorem cmpL_step (A B : List Nat) (k : Nat) (ha : k < A.length) (hb : k < B.length) (h : A.getD k 0 = B.getD k 0) : Plain.cmpL (A.drop k) (B.drop k) = Plain.cmpL (A.drop (k + 1)) (B.drop (k + 1)) := by
  rw [List.getD_eq_getElem?_getD, List.getD_eq_getElem?_getD, List.getElem?_eq_getElem ha, List.getElem?_eq_getElem hb] at h
  simp only [Option.getD_some] at h
  rw [List.drop_eq_getElem_cons ha, List.drop_eq_getElem_cons hb, Plain.cmpL, h, if_neg (Nat.lt_irrefl _), if_neg (Nat.lt_irrefl _)]

theorem cmpL_lt (A B : List Nat) (k : Nat) (ha : k < A.length) (hb : k < B.length) (h : A.getD k 0 < B.getD k 0) : Plain.cmpL (A.drop k) (B.drop k) = -1 := by
  rw [List.getD_eq_getElem?_getD, List.getD_eq_getElem?_getD, List.getElem?_eq_getElem ha, List.getElem?_eq_getElem hb] at h
  simp only [Option.getD_some] at h
  rw [List.drop_eq_getElem_cons ha, List.drop_eq_getElem_cons hb, Plain.cmpL, if_pos h]

theorem cmpL_gt (A B : List Nat) (k : Nat) (ha : k < A.length) (hb : k < B.length) (h : B.getD k 0 < A.getD k 0) : Plain.cmpL (A.drop k) (B.drop k) = 1 := by
  rw [List.getD_eq_getElem?_getD, List.getD_eq_getElem?_getD, List.getElem?_eq_getElem ha, List.getElem?_eq_getElem hb] at h
  simp only [Option.getD_some] at h
  rw [List.drop_eq_getElem_cons ha, List.drop_eq_getElem_cons hb, Plain.cmpL, if_neg (by omega), if_pos h]

set_option maxHeartbeats 400000 in
/-- zzCmpBytes at two rows of 26 bytes. -/
theorem cmpBytes_any (g1 g2 c1 c2 : Nat) (A B : List Nat) (hA : A.length = 26) (hB : B.length = 26) (w : World)
    (k1 : ∀ j, j < 26 → w.cell? ⟨g1, j, none⟩ = some (.int .u8 ((A.getD j 0 : Nat) : Int))) (k2 : ∀ j, j < 26 → w.cell? ⟨g2, j, none⟩ = some (.int .u8 ((B.getD j 0 : Nat) : Int))) :
    Calls Try.prog 12 #[.slice (some ⟨g1, 0, none⟩) 26 c1, .slice (some ⟨g2, 0, none⟩) 26 c2] w fun e w' => e = .returned (.int .i64 (Plain.cmpL A B)) ∧ ∃ q, w' = w.drewN q := by
  have K1 : Hid (∀ j, j < 26 → w.cell? ⟨g1, j, none⟩ = some (.int .u8 ((A.getD j 0 : Nat) : Int))) := k1
  have K2 : Hid (∀ j, j < 26 → w.cell? ⟨g2, j, none⟩ = some (.int .u8 ((B.getD j 0 : Nat) : Int))) := k2
  have HA : Hid (A.length = 26) := hA
  have HB : Hid (B.length = 26) := hB
  clear k1 k2 hA hB
  go_enter Try.func12, Try.ntmps12
  go_wp2
  go_loopw [6] (fun i wr => ∃ k q : Nat, k ≤ 26 ∧ i = .int .i64 k ∧ Hid (Plain.cmpL A B = Plain.cmpL (A.drop k) (B.drop k)) ∧ wr = w.drewN q) (fun i _ => 26 - (intOf i).toNat)
  case atStart => exact ⟨0, 0, by omega, rfl, rfl, rfl⟩
  case round =>
    obtain ⟨k, q, hk, rfl, HC, rfl⟩ := hrel
    by_cases hlt : k < 26
    · have e1 := K1.out k hlt
      have e2 := K2.out k hlt
      have hlt' : (k : Int) < 26 := by omega
      have hla : k < A.length := by rw [HA.out]; exact hlt
      have hlb : k < B.length := by rw [HB.out]; exact hlt
      rcases Nat.lt_trichotomy (A.getD k 0) (B.getD k 0) with h | h | h
      · have hf : Hid (Plain.cmpL A B = -1) := by unfold Hid; rw [HC.out, cmpL_lt A B k hla hlb h]
        clear hla hlb
        generalize A.getD k 0 = x at *
        generalize B.getD k 0 = y at *
        go_wp2
        go_quiet (fail)
        go_wp2
        go_ret
        exact ⟨by rw [hf.out]; rfl, _, by simp; rfl⟩
      · have hst : Hid (Plain.cmpL A B = Plain.cmpL (A.drop (k + 1)) (B.drop (k + 1))) := by unfold Hid; rw [HC.out, cmpL_step A B k hla hlb h]
        clear hla hlb
        rw [h] at e1
        clear h
        generalize B.getD k 0 = y at *
        go_wp2
        go_quiet (fail)
        go_wp2
        go_quiet (fail)
        go_wp2
        go_roundw
        case rel => exact ⟨k + 1, _, by omega, by go_num, hst, rfl⟩
        case measure => simp [intOf]; omega
      · have hf : Hid (Plain.cmpL A B = 1) := by unfold Hid; rw [HC.out, cmpL_gt A B k hla hlb h]
        clear hla hlb
        generalize A.getD k 0 = x at *
        generalize B.getD k 0 = y at *
        have hn : ¬ x < y := by omega
        go_wp2
        go_quiet (fail)
        go_wp2
        go_quiet (fail)
        go_wp2
        go_ret
        exact ⟨by rw [hf.out]; rfl, _, by simp; rfl⟩
    · have hf : Hid (Plain.cmpL A B = 0) := by
        unfold Hid
        rw [HC.out, List.drop_of_length_le (by rw [HA.out]; omega), List.drop_of_length_le (by rw [HB.out]; omega)]
        rfl
      go_wp2
      go_ret
      exact ⟨by rw [hf.out]; rfl, _, rfl⟩
#print axioms cmpBytes_any

/-! ### FnUlidTextOrderIsNumberOrder -/
set_option maxHeartbeats 400000 in
theorem order_any (h1 l1 h2 l2 : Nat) (a : h1 < 18446744073709551616) (b : l1 < 18446744073709551616) (c : h2 < 18446744073709551616) (d : l2 < 18446744073709551616) (w : World) :
    Calls Try.prog 4 #[.int .u64 h1, .int .u64 l1, .int .u64 h2, .int .u64 l2] w fun e w' => e = .returned (.bool true) ∧ Below w.heap.size w w' := by
  go_enter Try.func4, Try.ntmps4
  go_wp2_with fail
  refine (zzappend_any h1 l1 a b _ 0 [] w.heap.size _ (Nat.le_refl _) (World.ownsRow_nil _ _ _ _) (by omega)).mono ?_
  rintro e w1 ⟨v1, rfl, o1, hb1⟩
  obtain ⟨g1, c1, rfl, p1, p1', _, _, n1, k1⟩ := owned_bytes (l := Plain.digs 26 (Plain.num h1 l1)) (by simpa using o1) (by omega)
  clear o1
  have K1 : Hid (∀ j, j < 26 → w1.cell? ⟨g1, j, none⟩ = some (.int .u8 (((Plain.digs 26 (Plain.num h1 l1)).getD j 0 : Nat) : Int))) := fun j hj => k1 j (by omega)
  clear k1
  go_wp2_with fail
  refine (zzappend_any h2 l2 c d _ 0 [] w1.heap.size _ (Nat.le_refl _) (World.ownsRow_nil _ _ _ _) (by omega)).mono ?_
  rintro e w2 ⟨v2, rfl, o2, hb2⟩
  obtain ⟨g2, c2, rfl, p2, p2', _, _, n2, k2⟩ := owned_bytes (l := Plain.digs 26 (Plain.num h2 l2)) (by simpa using o2) (by omega)
  clear o2
  have K2 : Hid (∀ j, j < 26 → w2.cell? ⟨g2, j, none⟩ = some (.int .u8 (((Plain.digs 26 (Plain.num h2 l2)).getD j 0 : Nat) : Int))) := fun j hj => k2 j (by omega)
  clear k2
  have K1' : Hid (∀ j, j < 26 → w2.cell? ⟨g1, j, none⟩ = some (.int .u8 (((Plain.digs 26 (Plain.num h1 l1)).getD j 0 : Nat) : Int))) := fun j hj => (hb2.cell (p := ⟨g1, j, none⟩) p1').trans (K1.out j hj)
  obtain ⟨R, HR⟩ : ∃ R, Hid (Plain.cmpL (Plain.digs 26 (Plain.num h1 l1)) (Plain.digs 26 (Plain.num h2 l2)) = R ∧ cmp128 h1 l1 h2 l2 = R) := ⟨_, rfl, (Plain.cmp_text h1 l1 h2 l2 a b c d).symm⟩
  go_wp2_with fail
  refine (cmpBytes_any g1 g2 c1 c2 _ _ n1 n2 w2 K1'.out K2.out).mono ?_
  rintro e w3 ⟨rfl, q, rfl⟩
  rw [HR.out.1]
  go_wp2_with fail
  refine (cmp128_any h1 l1 h2 l2 a b c d _).mono ?_
  rintro e w4 ⟨rfl, rfl⟩
  rw [HR.out.2]
  go_wp2
  go_ret
  exact ⟨rfl, bel_drewN (hb1.trans (hb2.mono hb1.size)) _⟩
#print axioms order_any
end Go.Proofs.Qxb6600862a
