import Derived.Test.Qxb6600862aDecode
import Derived.Test.Qxb6600862aCmpStr
namespace Go.Proofs.Qxb6600862a
open Go.RowKit
set_option linter.unusedVariables false

theorem make26 (w : World) : (Instr.makeSlice 23 (.int .i64 26) (.int .i64 26)).run Try.prog w = .ok (.slice (some ⟨w.heap.size, 0, none⟩) 26 26) (w.alloc (.cells (madeCells #[.int .u8 0] 26) 5)) := by
  have := run_make_row' (P := Try.prog) 23 5 (.int .u8 0) 1 Try.underlying23 info5 rfl .i64 .i64 26 (by omega) (by omega) w
  exact this

/-- What the copy holds after k rounds. -/
def cpy (D : List Nat) (k j : Nat) : Value := .int .u8 ((if j < k then D.getD j 0 else 0 : Nat) : Int)

theorem cpy_step (D : List Nat) (k j : Nat) : (if j = k then Value.int .u8 ((D.getD k 0 : Nat) : Int) else cpy D k j) = cpy D (k + 1) j := by
  unfold cpy
  by_cases h : j = k
  · subst h; rw [if_pos rfl, if_pos (by omega)]
  · rw [if_neg h]
    by_cases h2 : j < k
    · rw [if_pos h2, if_pos (by omega)]
    · rw [if_neg h2, if_neg (by omega)]

set_option maxHeartbeats 1000000 in
theorem exact_core (kd hi lo : Nat) (hk : 0 < kd) (hk2 : kd < 256) (hhi : hi < 18446744073709551616) (hlo : lo < 18446744073709551616) (w : World) :
    Calls Try.prog 5 #[.int .u8 kd, .int .u64 hi, .int .u64 lo] w fun e w' => e = .returned (.bool true) ∧ Below w.heap.size w w' := by
  have t1 : ((kd : Int) == 0) = false := by simp; omega
  have ZS := strN_size27 kd (Plain.num hi lo)
  obtain ⟨S, HS⟩ : ∃ S, Hid (S = strN (kd :: Plain.digs 26 (Plain.num hi lo))) := ⟨_, rfl⟩
  rw [← HS.out] at ZS
  have E1 : Hid (idStr kd hi lo = S) := by unfold Hid idStr; rw [if_neg (by omega), HS.out]
  have hS : Hid (∀ k (h : k < S.size), (S[k]'h).toNat = (kd :: Plain.digs 26 (Plain.num hi lo)).getD k 0) := by
    unfold Hid; rw [HS.out]; exact fun k h => strN_at _ (bytes_lt kd _ hk2) k h
  have s0 : ((S[0]'(by omega)).toNat : Int) = kd := by rw [hS.out 0 (by omega)]; rfl
  have hmk := make26
  go_enter Try.func5, Try.ntmps5
  go_wp2_with fail
  refine (idstring_any kd hi lo hk2 hhi hlo _).mono ?_
  rintro e w1 ⟨rfl, hb1⟩
  rw [E1.out]
  go_wp2
  go_loopw [9] (fun i wr => ∃ k : Nat, k ≤ 26 ∧ i = .int .i64 k ∧ wr.rowIs w1.heap.size 5 26 (cpy (Plain.digs 26 (Plain.num hi lo)) k) ∧ Below w1.heap.size w1 wr) (fun i _ => 26 - (intOf i).toNat)
  case atStart =>
    refine ⟨0, by omega, rfl, (World.rowIs_made w1 (.int .u8 0) 26 5).congr fun j hj => ?_, (Below.refl _ _).alloc (Nat.le_refl _) _⟩
    unfold cpy; rw [if_neg (by omega)]; rfl
  case round =>
    obtain ⟨k, hk26, rfl, hrow, hbel⟩ := hrel
    clear s0
    by_cases hlt : k < 26
    · have hc := hrow.cell (i := k) hlt
      have hf := hrow.frozen k
      have hlt' : (k : Int) < 26 := by omega
      have h1 : k + 1 < S.size := by omega
      go_wp2
      go_roundw
      case rel =>
        refine ⟨k + 1, by omega, by go_num, (hrow.set k _).congr fun j hj => ?_, hbel.setCell (Nat.le_refl _) _⟩
        rw [← cpy_step, hS.out (k + 1) h1, List.getD_cons_succ]
      case measure => simp [intOf]; omega
    · go_wp2_with fail
      refine (decode_any w1.heap.size 0 26 hi lo hhi hlo wr (fun j hj => ?_)).mono ?_
      · rw [Nat.zero_add, hrow.cell hj]
        unfold cpy
        rw [if_pos (by omega)]
      rintro e w2 ⟨rfl, rfl⟩
      go_wp2
      go_ret
      exact ⟨rfl, hb1.trans (hbel.mono hb1.size)⟩

set_option maxHeartbeats 400000 in
theorem exact_any (kd hi lo : Nat) (hk2 : kd < 256) (hhi : hi < 18446744073709551616) (hlo : lo < 18446744073709551616) (w : World) :
    Calls Try.prog 5 #[.int .u8 kd, .int .u64 hi, .int .u64 lo] w fun e w' => e = .returned (.bool true) ∧ Below w.heap.size w w' := by
  by_cases hk : kd = 0
  · have t1 : ((kd : Int) == 0) = true := by simp; omega
    have E1 : Hid (idStr kd hi lo = ⟨#[]⟩) := by unfold Hid idStr; rw [if_pos hk]
    clear hk
    go_enter Try.func5, Try.ntmps5
    go_wp2_with fail
    refine (idstring_any kd hi lo hk2 hhi hlo _).mono ?_
    rintro e w1 ⟨rfl, hb1⟩
    rw [E1.out]
    go_wp2
    go_ret
    exact ⟨rfl, hb1⟩
  · exact exact_core kd hi lo (by omega) hk2 hhi hlo w
#print axioms exact_any
end Go.Proofs.Qxb6600862a
