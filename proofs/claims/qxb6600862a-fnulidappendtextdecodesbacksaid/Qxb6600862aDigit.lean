import Derived.Test.Qxb6600862aRows
import Derived.Test.Qxb6600862aPlain
import Derived.WalkKit
import Derived.ProofKit
namespace Go.Proofs.Qxb6600862a
open Go.RowKit
set_option linter.unusedVariables false

/-- The alphabet as the program's text holds it. -/
abbrev crB : ByteArray := ⟨#[48, 49, 50, 51, 52, 53, 54, 55, 56, 57, 65, 66, 67, 68, 69, 70, 71, 72, 74, 75, 77, 78, 80, 81, 82, 83, 84, 86, 87, 88, 89, 90]⟩

theorem crB_at (k : Nat) (h : k < crB.size) : (crB[k]).toNat = Plain.crock k := by
  have h32 : k < 32 := h
  have key : ∀ k, k < 32 → (crB.data.toList.getD k 0).toNat = Plain.crock k := by decide +kernel
  have := key k h32
  rw [List.getD_eq_getElem?_getD, List.getElem?_eq_getElem (by simpa using h32)] at this
  exact this

set_option maxHeartbeats 400000 in
/-- zzDigit at a digit of the alphabet: its value. -/
theorem digit_any (d : Nat) (hd : d < 32) (w : World) :
    Calls Try.prog 17 #[.int .u8 (Plain.crock d : Nat)] w fun e w' => e = .returned (.int .i64 d) ∧ w' = w := by
  go_enter Try.func17, Try.ntmps17
  go_wp2
  go_loop [3] (fun i => ∃ k : Nat, k ≤ d ∧ i = .int .i64 k) (fun i => 32 - (intOf i).toNat)
  case atStart => exact ⟨0, Nat.zero_le _, rfl⟩
  case round =>
    obtain ⟨k, hk, rfl⟩ := hrel
    have hk32 : k < crB.size := Nat.lt_of_le_of_lt hk hd
    by_cases hkd : k = d
    · have hb : (((crB[k]'hk32).toNat : Int) == (Plain.crock d : Int)) = true := by rw [crB_at, hkd]; simp
      subst hkd
      go_wp2
      go_ret
      exact ⟨rfl, rfl⟩
    · have hb : (((crB[k]'hk32).toNat : Int) == (Plain.crock d : Int)) = false := by
        rw [crB_at]
        have : Plain.crock k ≠ Plain.crock d := fun h => hkd (Plain.crock_inj k d (by omega) hd h)
        simp; omega
      go_wp2
      go_round
      case rel => exact ⟨k + 1, by omega, by go_num⟩
      case measure => simp [intOf]; omega
#print axioms digit_any
end Go.Proofs.Qxb6600862a
