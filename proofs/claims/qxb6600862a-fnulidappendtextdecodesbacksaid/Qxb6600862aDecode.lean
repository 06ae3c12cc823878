import Derived.Test.Qxb6600862aStr
namespace Go.Proofs.Qxb6600862a
open Go.RowKit
set_option linter.unusedVariables false

theorem dec_hi (h l : Nat) (hh : h < 576460752303423488) (hl : l < 18446744073709551616) : bits .or .u64 ((h : Int) * 32) ((l : Int) / 576460752303423488) = ((h * 32 % 18446744073709551616 ||| l / 576460752303423488 : Nat) : Int) := by
  have e1 : (l : Int) / 576460752303423488 = ((l / 576460752303423488 : Nat) : Int) := by omega
  have e2 : (h : Int) * 32 = ((h * 32 % 18446744073709551616 : Nat) : Int) := by omega
  rw [e1, e2]
  exact bits_or_u64_nat _ _ (by omega) (by omega)

theorem dec_lo (l d : Nat) (hd : d < 32) : bits .or .u64 (IntKind.u64.wrap ((l : Int) * 32)) (d : Int) = ((l * 32 % 18446744073709551616 ||| d : Nat) : Int) := by
  rw [IntKind.wrap_u64]
  have e2 : (l : Int) * 32 % 18446744073709551616 = ((l * 32 % 18446744073709551616 : Nat) : Int) := by omega
  rw [e2]
  exact bits_or_u64_nat _ _ (by omega) (by omega)

set_option maxHeartbeats 1000000 in
/-- zzDecode26 at the text of N. -/
theorem decode_any (g o c hi lo : Nat) (hhi : hi < 18446744073709551616) (hlo : lo < 18446744073709551616) (w : World)
    (hk : ∀ j, j < 26 → w.cell? ⟨g, o + j, none⟩ = some (.int .u8 (((Plain.digs 26 (Plain.num hi lo)).getD j 0 : Nat) : Int))) :
    Calls Try.prog 11 #[.slice (some ⟨g, o, none⟩) 26 c] w fun e w' => e = .returned (.tuple #[.int .u64 hi, .int .u64 lo, .bool true]) ∧ w' = w := by
  have HK : Hid (∀ j, j < 26 → w.cell? ⟨g, o + j, none⟩ = some (.int .u8 (((Plain.digs 26 (Plain.num hi lo)).getD j 0 : Nat) : Int))) := hk
  clear hk
  have NB : Plain.num hi lo < 340282366920938463463374607431768211456 := by unfold Plain.num; omega
  obtain ⟨N, HN⟩ : ∃ N, Hid (N = Plain.num hi lo) := ⟨_, rfl⟩
  rw [← HN.out] at HK NB
  have NB' : Hid (N < 340282366920938463463374607431768211456) := NB
  clear NB
  go_enter Try.func11, Try.ntmps11
  go_wp2
  go_loop [5, 6, 7] (fun x y i => ∃ k h l : Nat, k ≤ 26 ∧ h < 18446744073709551616 ∧ l < 18446744073709551616 ∧ x = .int .u64 h ∧ y = .int .u64 l ∧ i = .int .i64 k ∧ Hid (Plain.num h l = N / 32 ^ (26 - k))) (fun _ _ i => 26 - (intOf i).toNat)
  case atStart =>
    refine ⟨0, 0, 0, by omega, by omega, by omega, rfl, rfl, rfl, ?_⟩
    unfold Hid
    have := NB'.out
    rw [Nat.div_eq_of_lt (by omega)]
    rfl
  case round =>
    obtain ⟨k, h, l, hk, hh, hl, rfl, rfl, rfl, HC⟩ := hrel
    by_cases hlt : k < 26
    · have e1 := HK.out k hlt
      rw [Plain.getD_digs 26 N k hlt] at e1
      have hd : N / 32 ^ (26 - 1 - k) % 32 < 32 := Nat.mod_lt _ (by decide)
      have hlt' : (k : Int) < 26 := by omega
      obtain ⟨d, HD⟩ : ∃ d, Hid (d = N / 32 ^ (26 - 1 - k) % 32) := ⟨_, rfl⟩
      rw [← HD.out] at e1 hd
      have hsm : h < 576460752303423488 := Plain.hi_small h l (by rw [HC.out]; exact Plain.top_small N k hlt NB'.out)
      have hz : (((h : Int) / 576460752303423488) != 0) = false := by simp; omega
      go_wp2_with (go_at_call 17; refine (digit_any d hd _).mono ?_; rintro e w' ⟨rfl, rfl⟩)
      go_round
      case rel =>
        have st := Plain.dec_step h l d hsm hl hd
        refine ⟨k + 1, _, _, by omega, st.2.1, st.2.2, congrArg (Value.int .u64) (dec_hi h l hsm hl), congrArg (Value.int .u64) (dec_lo l d hd), by go_num, ?_⟩
        unfold Hid
        rw [st.1, HC.out, HD.out, Plain.top_succ N k hlt]
      case measure => simp [intOf]; omega
    · have hfin : h = hi ∧ l = lo := by
        refine Plain.num_inj h l hi lo hl hlo ?_
        rw [HC.out, HN.out, show 26 - k = 0 by omega]
        simp
      obtain ⟨rfl, rfl⟩ := hfin
      go_wp2
      go_ret3
      exact ⟨rfl, rfl⟩
#print axioms decode_any
end Go.Proofs.Qxb6600862a
