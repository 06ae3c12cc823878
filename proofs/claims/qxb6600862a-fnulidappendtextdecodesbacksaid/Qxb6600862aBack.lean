import Derived.Test.Qxb6600862aDecode
import Derived.Laws.CopyOwn
import Derived.WalkSpells
namespace Go.Proofs.Qxb6600862a
open Go.RowKit
set_option linter.unusedVariables false

theorem size5 : (Try.prog.info? 5).map (·.size) = some 1 := by kernel_rfl

set_option maxHeartbeats 400000 in
/-- zzCloneBytes of a slice that is not nil: the same bytes in a row of the call's own. -/
theorem clone_any (x : Addr) (n cap : Nat) (vs : List Value) (w : World) (hn : n ≤ 1048576) (hl : vs.length = n) (h1 : ∀ v ∈ vs, v.oneCell' = true) (hc : ∀ j v, vs[j]? = some v → w.cell? (x.add j) = some v) :
    Calls Try.prog 9 #[.slice (some x) n cap] w fun e w' => ∃ v', e = .returned v' ∧ w'.ownsRow w.heap.size 5 1 v' n vs ∧ Below w.heap.size w w' := by
  have HC : Hid (∀ j v, vs[j]? = some v → w.cell? (x.add j) = some v) := hc
  have HL : Hid (vs.length = n) := hl
  clear hc hl
  have hmk := run_make_row' (P := Try.prog) 23 5 (.int .u8 0) 1 Try.underlying23 info5 rfl .i64 .i64 n (by omega) (by omega)
  have hq := fun (w : World) => Lib.run_eql_slice_nil (P := Try.prog) w 23 5 (some x) n cap 0 0 Try.underlying23
  obtain ⟨W2, HW2, hcp⟩ : ∃ W2, Hid (W2 = (w.alloc (.cells (madeCells #[.int .u8 0] n) 5)).setRow w.heap.size ((madeCells #[.int .u8 0] n).toList.take 0 ++ vs ++ (madeCells #[.int .u8 0] n).toList.drop (0 + vs.length)).toArray) ∧
      (Builtin.copy_ #[23, 23] 3 #[.slice (some ⟨w.heap.size, 0, none⟩) n n, .slice (some x) n cap]).run Try.prog (w.alloc (.cells (madeCells #[.int .u8 0] n) 5)) = .ok (.int .i64 (n : Nat)) W2 := by
    refine ⟨_, rfl, ?_⟩
    have := run_copy_row (P := Try.prog) (w.alloc (.cells (madeCells #[.int .u8 0] n) 5)) 23 23 3 5 w.heap.size 0 n n x n cap (madeCells #[.int .u8 0] n) 5 vs Try.underlying23 size5 (heap_alloc_new _ _) (by rw [HL.out]; exact (Nat.min_self n).symm)
      (fun j v hj => by rw [World.cell?_of_block (w := w) (Below.heap_alloc _ _ _ (World.block_lt_of_cell? w _ (HC.out j v hj)))]; exact HC.out j v hj) (by rw [HL.out, size_madeCells]; simp) h1
    rw [HL.out] at this
    rw [HL.out]
    exact this
  go_enter Try.func9, Try.ntmps9
  go_wp2
  go_ret
  refine ⟨_, rfl, ?_, ?_⟩
  · refine ⟨by rw [HL.out]; simp, Or.inr ⟨w.heap.size, n, vs.toArray, rfl, Nat.le_refl _, ?_, Nat.le_refl _, by unfold maxLen; omega, by simp [HL.out], by simp [← HL.out]⟩⟩
    rw [HW2.out, setRow_heap _ _ _ _ _ _ (heap_alloc_new w _)]
    have : (madeCells #[Value.int .u8 0] n).toList.take 0 ++ vs ++ (madeCells #[Value.int .u8 0] n).toList.drop (0 + vs.length) = vs := by
      rw [List.drop_of_length_le (by rw [Array.length_toList, size_madeCells, HL.out]; simp)]
      simp
    rw [this]
  · rw [HW2.out]
    exact below_setRow ((Below.refl _ _).alloc (Nat.le_refl _) _) (Nat.le_refl _) _

set_option maxHeartbeats 400000 in
theorem clone_nil (w : World) :
    Calls Try.prog 9 #[.slice none 0 0] w fun e w' => e = .returned (.slice none 0 0) ∧ w' = w := by
  have hq := fun (w : World) => Lib.run_eql_slice_nil (P := Try.prog) w 23 5 none 0 0 0 0 Try.underlying23
  go_enter Try.func9, Try.ntmps9
  go_wp2
  go_ret
  exact ⟨rfl, rfl⟩

/-- What is known of the bytes handed in: n of them, in cells behind the slice's address. -/
def HasBytes (w : World) (a : Option Addr) (n : Nat) (zs : List Int) : Prop := zs.length = n ∧ ∀ j, j < n → ∃ b o, a = some ⟨b, o, none⟩ ∧ w.cell? ⟨b, o + j, none⟩ = some (.int .u8 (zs.getD j 0))

theorem clone_all (a : Option Addr) (n cap : Nat) (zs : List Int) (w : World) (hn : n ≤ 1048576) (hnil : a = none → n = 0 ∧ cap = 0) (h : HasBytes w a n zs) :
    Calls Try.prog 9 #[.slice a n cap] w fun e w' => ∃ v', e = .returned v' ∧ w'.ownsRow w.heap.size 5 1 v' n (zs.map (Value.int .u8)) ∧ Below w.heap.size w w' := by
  obtain ⟨hl, hc⟩ := h
  cases a with
  | none =>
    obtain ⟨rfl, rfl⟩ := hnil rfl
    obtain rfl : zs = [] := List.eq_nil_of_length_eq_zero hl
    exact (clone_nil w).mono fun e w' ⟨h1, h2⟩ => ⟨_, h1, by rw [h2]; exact World.ownsRow_nil _ _ _ _, by rw [h2]; exact Below.refl _ _⟩
  | some x =>
    refine clone_any x n cap _ w hn (by simpa using hl) (fun v hv => ?_) (fun j v hj => ?_)
    · obtain ⟨z, _, rfl⟩ := List.mem_map.1 hv
      rfl
    · have hjn : j < zs.length := by
        rcases Nat.lt_or_ge j zs.length with h | h
        · exact h
        · rw [List.getElem?_eq_none (by simpa using h)] at hj; cases hj
      obtain ⟨b, o, hx, hcell⟩ := hc j (by omega)
      cases hx
      rw [Addr.add_lit, hcell]
      rw [List.getElem?_map, List.getElem?_eq_getElem hjn] at hj
      simp at hj
      simp [hjn, hj]

set_option maxHeartbeats 400000 in
theorem bytes_yes (hi lo : Nat) (a : Option Addr) (n cap : Nat) (hn : n ≤ 1048576) (w : World) :
    Calls Try.prog 8 #[.int .u64 hi, .int .u64 lo, .slice a n cap] w fun e w' => e = .returned (.bool true) ∧ w' = w := by
  go_enter Try.func8, Try.ntmps8
  go_wp2
  go_ret
  exact ⟨rfl, rfl⟩

set_option maxHeartbeats 400000 in
theorem bytes_no (hi lo : Nat) (a : Option Addr) (n cap : Nat) (hn : 1048576 < n) (w : World) :
    Calls Try.prog 8 #[.int .u64 hi, .int .u64 lo, .slice a n cap] w fun e w' => e = .returned (.bool false) ∧ w' = w := by
  go_enter Try.func8, Try.ntmps8
  go_wp2
  go_ret
  exact ⟨rfl, rfl⟩

set_option maxHeartbeats 400000 in
theorem back_no (hi lo : Nat) (a : Option Addr) (n cap : Nat) (hn : 1048576 < n) (w : World) :
    Calls Try.prog 3 #[.int .u64 hi, .int .u64 lo, .slice a n cap] w fun e w' => e = .returned (.bool true) ∧ Below w.heap.size w w' := by
  go_enter Try.func3, Try.ntmps3
  go_wp2_with fail
  refine (bytes_no hi lo a n cap hn _).mono ?_
  rintro e w1 ⟨rfl, rfl⟩
  go_wp2
  go_ret
  exact ⟨rfl, Below.refl _ _⟩

theorem owned_cells {w : World} {B n : Nat} {v : Value} {xs : List Value} (h : w.ownsRow B 5 1 v n xs) (hn : 0 < n) :
    ∃ g cap, v = .slice (some ⟨g, 0, none⟩) n cap ∧ g < w.heap.size ∧ n ≤ cap ∧ cap ≤ maxLen ∧ ∀ j u, xs[j]? = some u → w.cell? ⟨g, j, none⟩ = some u := by
  obtain ⟨h1, h2⟩ := h
  rcases h2 with ⟨_, h0⟩ | ⟨g, cap, cur, hv, hg, hh, hc, hm, hs, ht⟩
  · omega
  · refine ⟨g, cap, hv, (Array.getElem?_eq_some_iff.1 hh).1, hc, hm, fun j u hj => ?_⟩
    have hjl : j < n := by
      rcases Nat.lt_or_ge j xs.length with h | h
      · omega
      · rw [List.getElem?_eq_none h] at hj; cases hj
    simp only [World.cell?, hh]
    have e : (cur.toList.take (n * 1))[j]? = xs[j]? := by rw [ht]
    rw [List.getElem?_take_of_lt (by omega), Array.getElem?_toList] at e
    simp only [Option.isSome_none, Bool.false_eq_true, if_false]
    rw [e, hj]

set_option maxHeartbeats 1000000 in
theorem back_yes (hi lo : Nat) (hhi : hi < 18446744073709551616) (hlo : lo < 18446744073709551616) (a : Option Addr) (n cap : Nat) (zs : List Int) (hn : n ≤ 1048576) (w : World) (hnil : a = none → n = 0 ∧ cap = 0) (h : HasBytes w a n zs) :
    Calls Try.prog 3 #[.int .u64 hi, .int .u64 lo, .slice a n cap] w fun e w' => e = .returned (.bool true) ∧ Below w.heap.size w w' := by
  have HNIL : Hid (a = none → n = 0 ∧ cap = 0) := hnil
  clear hnil
  go_enter Try.func3, Try.ntmps3
  go_wp2_with fail
  refine (bytes_yes hi lo a n cap hn _).mono ?_
  rintro e w1 ⟨rfl, rfl⟩
  go_wp2_with fail
  refine (clone_all a n cap zs _ hn HNIL.out h).mono ?_
  rintro e w2 ⟨v2, rfl, o2, hb2⟩
  go_wp2_with fail
  refine (zzappend_any hi lo hhi hlo v2 n _ w1.heap.size w2 hb2.size o2 (by omega)).mono ?_
  rintro e w3 ⟨v3, rfl, o3, hb3⟩
  have hb : Below w1.heap.size w1 w3 := hb2.trans hb3
  obtain ⟨g, c, rfl, hg1, hc1, hc2, hcell⟩ := owned_cells o3 (by omega)
  have HZ : Hid (zs.length = n) := h.1
  have KO : Hid (∀ k, k < n → w3.cell? ⟨g, k, none⟩ = some (.int .u8 (zs.getD k 0))) := fun k hk => hcell k _ (by
    rw [List.getElem?_append_left (by rw [List.length_map, HZ.out]; exact hk), List.getElem?_map, List.getElem?_eq_getElem (by rw [HZ.out]; exact hk)]
    simp [List.getElem?_eq_getElem (show k < zs.length by rw [HZ.out]; exact hk)])
  have KI : Hid (∀ k, k < n → ∃ b o, a = some ⟨b, o, none⟩ ∧ w3.cell? ⟨b, o + k, none⟩ = some (.int .u8 (zs.getD k 0))) := fun k hk => by
    obtain ⟨b, o, ha, hck⟩ := h.2 k hk
    exact ⟨b, o, ha, (hb.cell (p := ⟨b, o + k, none⟩) (World.block_lt_of_cell? _ _ hck)).trans hck⟩
  have KD : Hid (∀ j, j < 26 → w3.cell? ⟨g, n + j, none⟩ = some (.int .u8 (((Plain.digs 26 (Plain.num hi lo)).getD j 0 : Nat) : Int))) := fun j hj => hcell (n + j) _ (by
    rw [List.getElem?_append_right (by rw [List.length_map, HZ.out]; omega), List.length_map, HZ.out, show n + j - n = j by omega]
    unfold bytesV
    rw [List.getElem?_map, List.getElem?_eq_getElem (by rw [Plain.length_digs]; exact hj)]
    simp [List.getElem?_eq_getElem (show j < (Plain.digs 26 (Plain.num hi lo)).length by rw [Plain.length_digs]; exact hj)])
  clear hcell h o2 o3 hb2 hb3
  go_wp2
  go_loopw [9] (fun i wr => ∃ k q : Nat, k ≤ n ∧ i = .int .i64 k ∧ wr = w3.drewN q) (fun i _ => n - (intOf i).toNat)
  case atStart => exact ⟨0, 0, by omega, rfl, rfl⟩
  case round =>
    obtain ⟨k, q, hk, rfl, rfl⟩ := hrel
    by_cases hlt : k < n
    · obtain ⟨b, o, rfl, e2⟩ := KI.out k hlt
      have e1 := KO.out k hlt
      have hlt' : (k : Int) < (n : Int) := by omega
      have hlt2 : (k : Int) < (n : Int) + 26 := by omega
      generalize zs.getD k 0 = z at e1 e2
      go_wp2
      go_quiet (fail)
      go_wp2
      go_roundw
      case rel => exact ⟨k + 1, _, by omega, by go_num, rfl⟩
      case measure => simp [intOf]; omega
    · go_wp2_with fail
      refine (decode_any g n (c - n) hi lo hhi hlo (w3.drewN q) KD.out).mono ?_
      rintro e w4 ⟨rfl, rfl⟩
      go_wp2
      go_ret
      exact ⟨rfl, bel_drewN hb q⟩
#print axioms back_yes
end Go.Proofs.Qxb6600862a
