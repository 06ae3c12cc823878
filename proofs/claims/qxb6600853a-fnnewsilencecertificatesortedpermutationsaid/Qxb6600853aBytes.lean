import Derived.Test.Qxb6600853aRows
import Derived.Test.Qxb6600853aPlain
import Derived.WalkKit
import Derived.ProofKit
import Derived.WalkSpells
import Derived.Deep.OwnRows
import Derived.Deep.QuietTactic
import Derived.BigQuiet
namespace Go.Proofs.Qxb6600853a
open Go.RowKit
set_option linter.unusedVariables false

/-- v is a slice of the bytes bs, in w. -/
def Sig (w : World) (v : Value) (bs : List Int) : Prop :=
  ∃ a c, v = .slice a bs.length c ∧ (a = none → bs.length = 0 ∧ c = 0) ∧ ∀ j, j < bs.length → ∃ g o, a = some ⟨g, o, none⟩ ∧ w.cell? ⟨g, o + j, none⟩ = some (.int .u8 (bs.getD j 0))

theorem Sig.below {w w' : World} {v : Value} {bs : List Int} (h : Sig w v bs) {B : Nat} (hb : Below B w w') (hB : w.heap.size ≤ B) : Sig w' v bs := by
  obtain ⟨a, c, hv, hn, hc⟩ := h
  refine ⟨a, c, hv, hn, fun j hj => ?_⟩
  obtain ⟨g, o, ha, hg⟩ := hc j hj
  exact ⟨g, o, ha, (hb.cell (p := ⟨g, o + j, none⟩) (Nat.lt_of_lt_of_le (World.block_lt_of_cell? _ _ hg) hB)).trans hg⟩

theorem bel_drewN {B : Nat} {a w : World} (h : Below B a w) (q : Nat) : Below B a (w.drewN q) := ⟨h.os, h.tape, h.output, h.size, h.block⟩

theorem Sig.drewN {w : World} {v : Value} {bs : List Int} (h : Sig w v bs) (q : Nat) : Sig (w.drewN q) v bs := h

theorem take_snoc_eq (A B : List Int) (k : Nat) (ha : k < A.length) (hb : k < B.length) (h : A.take k = B.take k) (e : A.getD k 0 = B.getD k 0) : A.take (k + 1) = B.take (k + 1) := by
  rw [List.getD_eq_getElem?_getD, List.getD_eq_getElem?_getD, List.getElem?_eq_getElem ha, List.getElem?_eq_getElem hb] at e
  simp only [Option.getD_some] at e
  rw [List.take_succ_eq_append_getElem ha, List.take_succ_eq_append_getElem hb, h, e]

set_option maxHeartbeats 1000000 in
/-- chainB1BytesEqual. -/
theorem bytesEq_any (v1 v2 : Value) (A B : List Int) (w : World) (h1 : Sig w v1 A) (h2 : Sig w v2 B) (hA : A.length ≤ 1048576) (hB : B.length ≤ 1048576) :
    Calls Try.prog 22 #[v1, v2] w fun e w' => e = .returned (.bool (decide (A = B))) ∧ ∃ q, w' = w.drewN q := by
  obtain ⟨a1, c1, rfl, _, k1⟩ := h1
  obtain ⟨a2, c2, rfl, _, k2⟩ := h2
  have K1 : Hid (∀ j, j < A.length → ∃ g o, a1 = some ⟨g, o, none⟩ ∧ w.cell? ⟨g, o + j, none⟩ = some (.int .u8 (A.getD j 0))) := k1
  have K2 : Hid (∀ j, j < B.length → ∃ g o, a2 = some ⟨g, o, none⟩ ∧ w.cell? ⟨g, o + j, none⟩ = some (.int .u8 (B.getD j 0))) := k2
  clear k1 k2
  by_cases hlen : A.length = B.length
  · have hl : ((A.length : Int) != (B.length : Int)) = false := by simp; omega
    have HL : Hid (A.length = B.length) := hlen
    clear hlen
    go_enter Try.func22, Try.ntmps22
    go_wp2
    go_loopw [5] (fun i wr => ∃ k q : Nat, k ≤ A.length ∧ i = .int .i64 k ∧ Hid (A.take k = B.take k) ∧ wr = w.drewN q) (fun i _ => A.length - (intOf i).toNat)
    case atStart => exact ⟨0, 0, by omega, rfl, by unfold Hid; simp, rfl⟩
    case round =>
      obtain ⟨k, q, hk, rfl, HT, rfl⟩ := hrel
      by_cases hlt : k < A.length
      · have hltB : k < B.length := by have := HL.out; omega
        obtain ⟨g1, o1, rfl, e1⟩ := K1.out k hlt
        obtain ⟨g2, o2, rfl, e2⟩ := K2.out k hltB
        have hlt' : (k : Int) < (A.length : Int) := by omega
        have hltB' : (k : Int) < (B.length : Int) := by omega
        by_cases hz : A.getD k 0 = B.getD k 0
        · have HT' : Hid (A.take (k + 1) = B.take (k + 1)) := take_snoc_eq A B k hlt hltB HT.out hz
          rw [hz] at e1
          clear hz
          generalize B.getD k 0 = z at e1 e2
          go_wp2
          go_quiet (fail)
          go_wp2
          go_roundw
          case rel => exact ⟨k + 1, _, by omega, by go_num, HT', rfl⟩
          case measure => simp [intOf]; omega
        · have hf : Hid (decide (A = B) = false) := by
            unfold Hid
            refine decide_eq_false fun h => hz ?_
            rw [h]
          have hz' : (A.getD k 0 != B.getD k 0) = true := by rw [bne_iff_ne]; exact hz
          clear hz
          generalize A.getD k 0 = y at e1 hz'
          generalize B.getD k 0 = z at e2 hz'
          go_wp2
          go_quiet (fail)
          go_wp2
          go_ret
          exact ⟨by rw [hf.out]; rfl, _, by rw [World.drewN_drewN]⟩
      · have ht : Hid (decide (A = B) = true) := by
          unfold Hid
          refine decide_eq_true ?_
          have h := HT.out
          have hl := HL.out
          rw [List.take_of_length_le (by omega), List.take_of_length_le (by omega)] at h
          exact h
        go_wp2
        go_ret
        exact ⟨by rw [ht.out]; rfl, _, rfl⟩
  · have hf : Hid (decide (A = B) = false) := by
      unfold Hid
      exact decide_eq_false fun h => hlen (by rw [h])
    have hl : ((A.length : Int) != (B.length : Int)) = true := by rw [bne_iff_ne]; omega
    clear hlen
    go_enter Try.func22, Try.ntmps22
    go_wp2
    go_ret
    exact ⟨by rw [hf.out]; rfl, 0, rfl⟩
#print axioms bytesEq_any

theorem info5 : (Try.prog.info? 5).map (fun i => (i.zero, i.size, i.bytes)) = some (some (.int .u8 0), 1, 1) := by kernel_rfl

/-- The copy's cells after k rounds. -/
def cpy (bs : List Int) (k : Nat) : Array Value := ((List.range bs.length).map fun j => Value.int .u8 (if j < k then bs.getD j 0 else 0)).toArray

theorem size_cpy (bs : List Int) (k : Nat) : (cpy bs k).size = bs.length := by simp [cpy]

theorem get_cpy (bs : List Int) (k i : Nat) (h : i < (cpy bs k).size) : (cpy bs k)[i] = Value.int .u8 (if i < k then bs.getD i 0 else 0) := by simp [cpy]

theorem cpy_step (bs : List Int) (k : Nat) : (cpy bs k).setIfInBounds k (Value.int .u8 (bs.getD k 0)) = cpy bs (k + 1) := by
  apply Array.ext (by rw [Array.size_setIfInBounds, size_cpy, size_cpy])
  intro i h1 h2
  rw [Array.getElem_setIfInBounds (by rw [Array.size_setIfInBounds] at h1; exact h1), get_cpy, get_cpy]
  by_cases e : k = i
  · subst e; rw [if_pos rfl, if_pos (by omega)]
  · rw [if_neg e]
    by_cases e2 : i < k
    · rw [if_pos e2, if_pos (by omega)]
    · rw [if_neg e2, if_neg (by omega)]

theorem cpy_zero (bs : List Int) : cpy bs 0 = madeCells #[.int .u8 0] bs.length := by
  apply Array.ext (by rw [size_cpy, size_madeCells])
  intro i h1 h2
  rw [get_cpy, if_neg (by omega)]
  simp [madeCells, Nat.mod_one]

theorem cpy_all (bs : List Int) (k : Nat) (h : bs.length ≤ k) : cpy bs k = (bs.map (Value.int .u8)).toArray := by
  apply Array.ext (by rw [size_cpy]; simp)
  intro i h1 h2
  rw [size_cpy] at h1
  rw [get_cpy, if_pos (by omega)]
  simp [h1]

set_option maxHeartbeats 1000000 in
/-- chainB1CloneBytes of a slice that is not nil: the world to the cell. -/
theorem cloneBytes_some (x : Addr) (c : Nat) (bs : List Int) (w : World) (hl : bs.length ≤ 1048576) (h : Sig w (.slice (some x) bs.length c) bs) :
    Calls Try.prog 23 #[.slice (some x) bs.length c] w fun e w' => e = .returned (.slice (some ⟨w.heap.size, 0, none⟩) bs.length bs.length) ∧ w' = w.alloc (.cells (bs.map (Value.int .u8)).toArray 5) := by
  have K : Hid (∀ j, j < bs.length → ∃ g o, x = ⟨g, o, none⟩ ∧ w.cell? ⟨g, o + j, none⟩ = some (.int .u8 (bs.getD j 0))) := by
    obtain ⟨a, c', hv, _, hc⟩ := h
    cases hv
    intro j hj
    obtain ⟨g, o, ha, hg⟩ := hc j hj
    cases ha
    exact ⟨g, o, rfl, hg⟩
  clear h
  have hmk := run_make_row' (P := Try.prog) 37 5 (.int .u8 0) 1 Try.underlying37 info5 rfl .i64 .i64 bs.length (by omega) (by omega)
  have hq := fun (w : World) => Lib.run_eql_slice_nil (P := Try.prog) w 37 5 (some x) bs.length c 0 0 Try.underlying37
  go_enter Try.func23, Try.ntmps23
  go_wp2
  go_loopw [4] (fun i wr => ∃ k : Nat, k ≤ bs.length ∧ i = .int .i64 k ∧ wr = w.alloc (.cells (cpy bs k) 5)) (fun i _ => bs.length - (intOf i).toNat)
  case atStart => exact ⟨0, by omega, rfl, by rw [cpy_zero]⟩
  case round =>
    obtain ⟨k, hk, rfl, rfl⟩ := hrel
    by_cases hlt : k < bs.length
    · obtain ⟨g, o, rfl, e1⟩ := K.out k hlt
      have hlt' : (k : Int) < (bs.length : Int) := by omega
      have hgl := World.block_lt_of_cell? _ _ e1
      have hst := cpy_step bs k
      have HS : Hid ((cpy bs k).setIfInBounds k (Value.int .u8 (bs.getD k 0)) = cpy bs (k + 1)) := hst
      clear hst
      have hsz := size_cpy bs k
      generalize bs.getD k 0 = z at *
      generalize hA : cpy bs k = A at *
      clear hA
      go_wp2
      go_roundw
      case rel => exact ⟨k + 1, by omega, by go_num, by rw [HS.out]⟩
      case measure => simp [intOf]; omega
    · have HA : Hid (cpy bs k = (bs.map (Value.int .u8)).toArray) := cpy_all bs k (by omega)
      rw [HA.out]
      go_wp2
      go_ret
      exact ⟨rfl, rfl⟩

set_option maxHeartbeats 400000 in
theorem cloneBytes_nil (w : World) :
    Calls Try.prog 23 #[.slice none 0 0] w fun e w' => e = .returned (.slice none 0 0) ∧ w' = w := by
  have hq := fun (w : World) => Lib.run_eql_slice_nil (P := Try.prog) w 37 5 none 0 0 0 0 Try.underlying37
  go_enter Try.func23, Try.ntmps23
  go_wp2
  go_ret
  exact ⟨rfl, rfl⟩

/-- chainB1Same's answer. -/
def sameB (e1 r1 e2 r2 : Int) (A B : List Int) : Bool := decide (e1 = e2 ∧ r1 = r2 ∧ A = B)

set_option maxHeartbeats 1000000 in
/-- chainB1Same: one block is laid (the parameter's box); it may draw. -/
theorem same_any (e1 r1 e2 r2 : Int) (v1 v2 : Value) (A B : List Int) (w : World) (h1 : Sig w v1 A) (h2 : Sig w v2 B) (hA : A.length ≤ 1048576) (hB : B.length ≤ 1048576) :
    Calls Try.prog 12 #[.agg #[.int .u64 e1, .int .i64 r1, v1], .int .u64 e2, .int .i64 r2, v2] w fun e w' => e = .returned (.bool (sameB e1 r1 e2 r2 A B)) ∧ ∃ q o, w' = (w.alloc o).drewN q := by
  by_cases he : e1 = e2
  · subst he
    by_cases hr : r1 = r2
    · subst hr
      have HB : Hid (sameB e1 r1 e1 r1 A B = decide (A = B)) := by unfold Hid sameB; simp
      have hcon := fun W x y => bytesEq_any v1 v2 A B W x y hA hB
      have S1 : Sig (w.alloc (.cells #[.int .u64 e1, .int .i64 r1, v1] 39)) v1 A := h1.below ((Below.refl w.heap.size w).alloc (Nat.le_refl _) _) (Nat.le_refl _)
      have S2 : Sig (w.alloc (.cells #[.int .u64 e1, .int .i64 r1, v1] 39)) v2 B := h2.below ((Below.refl w.heap.size w).alloc (Nat.le_refl _) _) (Nat.le_refl _)
      obtain ⟨a1, c1, rfl, _, _⟩ := h1
      obtain ⟨a2, c2, rfl, _, _⟩ := h2
      have HC := hcon _ S1 S2
      clear hcon S1 S2
      generalize decide (A = B) = R at HB HC
      go_enter Try.func12, Try.ntmps12
      go_wp2_with fail
      refine HC.mono ?_
      rintro e w1 ⟨rfl, q, rfl⟩
      go_wp2
      go_ret
      exact ⟨by rw [HB.out]; rfl, q, _, rfl⟩
    · have HB : Hid (sameB e1 r1 e1 r2 A B = false) := by unfold Hid sameB; simp [hr]
      have hr' : (r1 == r2) = false := by simp [hr]
      obtain ⟨a1, c1, rfl, _, _⟩ := h1
      obtain ⟨a2, c2, rfl, _, _⟩ := h2
      clear hr
      go_enter Try.func12, Try.ntmps12
      go_wp2
      go_ret
      exact ⟨by rw [HB.out]; rfl, 0, _, rfl⟩
  · have HB : Hid (sameB e1 r1 e2 r2 A B = false) := by unfold Hid sameB; simp [he]
    have he' : (e1 == e2) = false := by simp [he]
    obtain ⟨a1, c1, rfl, _, _⟩ := h1
    obtain ⟨a2, c2, rfl, _, _⟩ := h2
    clear he
    go_enter Try.func12, Try.ntmps12
    go_wp2
    go_ret
    exact ⟨by rw [HB.out]; rfl, 0, _, rfl⟩
#print axioms same_any
end Go.Proofs.Qxb6600853a
