import Derived.Test.Qxb6600862aCmp
namespace Go.Proofs.Qxb6600862a
open Go.RowKit
set_option linter.unusedVariables false

set_option maxHeartbeats 1000000 in
/-- zzCmpStrings at two strings of 27 bytes. -/
theorem cmpStr_27 (S T : ByteArray) (A B : List Nat) (zS : S.size = 27) (zT : T.size = 27) (zA : A.length = 27) (zB : B.length = 27)
    (hS : ∀ k (h : k < S.size), (S[k]'h).toNat = A.getD k 0) (hT : ∀ k (h : k < T.size), (T[k]'h).toNat = B.getD k 0) (w : World) :
    Calls Try.prog 15 #[.string S, .string T] w fun e w' => e = .returned (.int .i64 (Plain.cmpL A B)) ∧ ∃ q, w' = w.drewN q := by
  have HS : Hid (∀ k (h : k < S.size), (S[k]'h).toNat = A.getD k 0) := hS
  have HT : Hid (∀ k (h : k < T.size), (T[k]'h).toNat = B.getD k 0) := hT
  have HA : Hid (A.length = 27) := zA
  have HB : Hid (B.length = 27) := zB
  clear hS hT zA zB
  go_enter Try.func15, Try.ntmps15
  go_wp2
  go_loopw [6] (fun i wr => ∃ k q : Nat, k ≤ 27 ∧ i = .int .i64 k ∧ Hid (Plain.cmpL A B = Plain.cmpL (A.drop k) (B.drop k)) ∧ wr = w.drewN q) (fun i _ => 27 - (intOf i).toNat)
  case atStart => exact ⟨0, 0, by omega, rfl, rfl, rfl⟩
  case round =>
    obtain ⟨k, q, hk, rfl, HC, rfl⟩ := hrel
    by_cases hlt : k < 27
    · have h1 : k < S.size := by omega
      have h2 : k < T.size := by omega
      have hlt' : (k : Int) < 27 := by omega
      have hla : k < A.length := by rw [HA.out]; exact hlt
      have hlb : k < B.length := by rw [HB.out]; exact hlt
      have g1 := HS.out k h1
      have g2 := HT.out k h2
      rcases Nat.lt_trichotomy (A.getD k 0) (B.getD k 0) with h | h | h
      · have hf : Hid (Plain.cmpL A B = -1) := by unfold Hid; rw [HC.out, cmpL_lt A B k hla hlb h]
        have hcm : ((S[k]'h1).toNat : Int) < ((T[k]'h2).toNat : Int) := by omega
        clear hla hlb g1 g2 h
        go_wp2
        go_quiet (fail)
        go_wp2
        go_ret
        exact ⟨by rw [hf.out]; rfl, _, by simp; rfl⟩
      · have hst : Hid (Plain.cmpL A B = Plain.cmpL (A.drop (k + 1)) (B.drop (k + 1))) := by unfold Hid; rw [HC.out, cmpL_step A B k hla hlb h]
        have hcm1 : ¬ ((S[k]'h1).toNat : Int) < ((T[k]'h2).toNat : Int) := by omega
        have hcm2 : ¬ ((T[k]'h2).toNat : Int) < ((S[k]'h1).toNat : Int) := by omega
        clear hla hlb g1 g2 h
        go_wp2
        go_quiet (fail)
        go_wp2
        go_quiet (fail)
        go_wp2
        go_roundw
        case rel => exact ⟨k + 1, _, by omega, by go_num, hst, rfl⟩
        case measure => simp [intOf]; omega
      · have hf : Hid (Plain.cmpL A B = 1) := by unfold Hid; rw [HC.out, cmpL_gt A B k hla hlb h]
        have hcm1 : ¬ ((S[k]'h1).toNat : Int) < ((T[k]'h2).toNat : Int) := by omega
        have hcm2 : ((T[k]'h2).toNat : Int) < ((S[k]'h1).toNat : Int) := by omega
        clear hla hlb g1 g2 h
        go_wp2
        go_quiet (fail)
        go_wp2
        go_quiet (fail)
        go_wp2
        go_ret
        exact ⟨by rw [hf.out]; rfl, _, by simp; rfl⟩
    · have hf : Hid (Plain.cmpL A B = 0) := by
        unfold Hid
        rw [HC.out, List.drop_of_length_le (by rw [HA.out]; omega), List.drop_of_length_le (by rw [HB.out]; omega)]
        rfl
      go_wp2
      go_ret
      exact ⟨by rw [hf.out]; rfl, _, rfl⟩

set_option maxHeartbeats 400000 in
theorem cmpStr_00 (w : World) :
    Calls Try.prog 15 #[.string ⟨#[]⟩, .string ⟨#[]⟩] w fun e w' => e = .returned (.int .i64 0) ∧ ∃ q, w' = w.drewN q := by
  go_enter Try.func15, Try.ntmps15
  go_wp2
  refine wp_loop_rounds 1 ?_
  rw [rounds_succ]
  go_wp2
  go_ret
  exact ⟨rfl, 0, rfl⟩

set_option maxHeartbeats 400000 in
theorem cmpStr_0n (T : ByteArray) (zT : T.size = 27) (w : World) :
    Calls Try.prog 15 #[.string ⟨#[]⟩, .string T] w fun e w' => e = .returned (.int .i64 (-1)) ∧ ∃ q, w' = w.drewN q := by
  go_enter Try.func15, Try.ntmps15
  go_wp2
  refine wp_loop_rounds 1 ?_
  rw [rounds_succ]
  go_wp2
  go_ret
  exact ⟨rfl, 0, rfl⟩

set_option maxHeartbeats 400000 in
theorem cmpStr_n0 (S : ByteArray) (zS : S.size = 27) (w : World) :
    Calls Try.prog 15 #[.string S, .string ⟨#[]⟩] w fun e w' => e = .returned (.int .i64 1) ∧ ∃ q, w' = w.drewN q := by
  go_enter Try.func15, Try.ntmps15
  go_wp2
  refine wp_loop_rounds 1 ?_
  rw [rounds_succ]
  go_wp2
  go_ret
  exact ⟨rfl, 0, rfl⟩
#print axioms cmpStr_27

theorem strN_size27 (kd N : Nat) : (strN (kd :: Plain.digs 26 N)).size = 27 := by
  unfold strN; rw [strOfNums_size, List.length_map, List.length_cons, Plain.length_digs]

theorem strN_at (l : List Nat) (hl : ∀ x ∈ l, x < 256) (k : Nat) (h : k < (strN l).size) : ((strN l)[k]'h).toNat = l.getD k 0 := by
  have hk : k < l.length := by unfold strN at h; rwa [strOfNums_size, List.length_map] at h
  have e : (strN l).data.toList = l.map UInt8.ofNat := by
    unfold strN; rw [strOfNums_data, List.map_map]; rfl
  have e2 : (strN l)[k]'h = UInt8.ofNat (l[k]) := by
    have h' : k < (strN l).data.toList.length := by rw [e, List.length_map]; exact hk
    have : (strN l)[k]'h = (strN l).data.toList[k]'h' := rfl
    rw [this]
    simp only [e, List.getElem_map]
  rw [e2, List.getD_eq_getElem?_getD, List.getElem?_eq_getElem hk]
  have := hl _ (List.getElem_mem hk)
  simp; omega

theorem bytes_lt (kd N : Nat) (h : kd < 256) : ∀ x ∈ kd :: Plain.digs 26 N, x < 256 := by
  intro x hx
  rcases List.mem_cons.1 hx with rfl | hx
  · exact h
  · exact (Plain.mem_digs 26 N x hx).2

set_option maxHeartbeats 1000000 in
theorem tuple_any (k1 h1 l1 k2 h2 l2 : Nat) (y1 : k1 < 256) (a : h1 < 18446744073709551616) (b : l1 < 18446744073709551616) (y2 : k2 < 256) (c : h2 < 18446744073709551616) (d : l2 < 18446744073709551616) (w : World) :
    Calls Try.prog 6 #[.int .u8 k1, .int .u64 h1, .int .u64 l1, .int .u8 k2, .int .u64 h2, .int .u64 l2] w fun e w' => e = .returned (.bool true) ∧ Below w.heap.size w w' := by
  by_cases z1 : k1 = 0
  · have e1 : idStr k1 h1 l1 = ⟨#[]⟩ := by unfold idStr; rw [if_pos z1]
    have E1 : Hid (idStr k1 h1 l1 = ⟨#[]⟩) := e1
    clear e1
    have t1 : ((k1 : Int) == 0) = true := by simp; omega
    by_cases z2 : k2 = 0
    · have E2 : Hid (idStr k2 h2 l2 = ⟨#[]⟩) := by unfold Hid idStr; rw [if_pos z2]
      have t2 : ((k2 : Int) == 0) = true := by simp; omega
      clear z1 z2
      go_enter Try.func6, Try.ntmps6
      go_wp2_with fail
      refine (idstring_any k1 h1 l1 y1 a b _).mono ?_
      rintro e w1 ⟨rfl, hb1⟩
      rw [E1.out]
      go_wp2_with fail
      refine (idstring_any k2 h2 l2 y2 c d _).mono ?_
      rintro e w2 ⟨rfl, hb2⟩
      rw [E2.out]
      go_wp2_with fail
      refine (cmpStr_00 _).mono ?_
      rintro e w3 ⟨rfl, q, rfl⟩
      go_wp2
      go_ret
      exact ⟨rfl, bel_drewN (hb1.trans (hb2.mono hb1.size)) _⟩
    · have ZT := strN_size27 k2 (Plain.num h2 l2)
      obtain ⟨T, HT⟩ : ∃ T, Hid (T = strN (k2 :: Plain.digs 26 (Plain.num h2 l2))) := ⟨_, rfl⟩
      rw [← HT.out] at ZT
      have E2 : Hid (idStr k2 h2 l2 = T) := by unfold Hid idStr; rw [if_neg z2, HT.out]
      have t2 : ((k2 : Int) == 0) = false := by simp; omega
      clear z1 z2
      go_enter Try.func6, Try.ntmps6
      go_wp2_with fail
      refine (idstring_any k1 h1 l1 y1 a b _).mono ?_
      rintro e w1 ⟨rfl, hb1⟩
      rw [E1.out]
      go_wp2_with fail
      refine (idstring_any k2 h2 l2 y2 c d _).mono ?_
      rintro e w2 ⟨rfl, hb2⟩
      rw [E2.out]
      go_wp2_with fail
      refine (cmpStr_0n T ZT _).mono ?_
      rintro e w3 ⟨rfl, q, rfl⟩
      go_wp2
      go_ret
      exact ⟨rfl, bel_drewN (hb1.trans (hb2.mono hb1.size)) _⟩
  · have ZS := strN_size27 k1 (Plain.num h1 l1)
    obtain ⟨S, HS⟩ : ∃ S, Hid (S = strN (k1 :: Plain.digs 26 (Plain.num h1 l1))) := ⟨_, rfl⟩
    rw [← HS.out] at ZS
    have E1 : Hid (idStr k1 h1 l1 = S) := by unfold Hid idStr; rw [if_neg z1, HS.out]
    have t1 : ((k1 : Int) == 0) = false := by simp; omega
    by_cases z2 : k2 = 0
    · have E2 : Hid (idStr k2 h2 l2 = ⟨#[]⟩) := by unfold Hid idStr; rw [if_pos z2]
      have t2 : ((k2 : Int) == 0) = true := by simp; omega
      clear z1 z2
      go_enter Try.func6, Try.ntmps6
      go_wp2_with fail
      refine (idstring_any k1 h1 l1 y1 a b _).mono ?_
      rintro e w1 ⟨rfl, hb1⟩
      rw [E1.out]
      go_wp2_with fail
      refine (idstring_any k2 h2 l2 y2 c d _).mono ?_
      rintro e w2 ⟨rfl, hb2⟩
      rw [E2.out]
      go_wp2_with fail
      refine (cmpStr_n0 S ZS _).mono ?_
      rintro e w3 ⟨rfl, q, rfl⟩
      go_wp2
      go_ret
      exact ⟨rfl, bel_drewN (hb1.trans (hb2.mono hb1.size)) _⟩
    · have ZT := strN_size27 k2 (Plain.num h2 l2)
      obtain ⟨T, HT⟩ : ∃ T, Hid (T = strN (k2 :: Plain.digs 26 (Plain.num h2 l2))) := ⟨_, rfl⟩
      rw [← HT.out] at ZT
      have E2 : Hid (idStr k2 h2 l2 = T) := by unfold Hid idStr; rw [if_neg z2, HT.out]
      have t2 : ((k2 : Int) == 0) = false := by simp; omega
      clear z1 z2
      have con : ∀ W, Calls Try.prog 15 #[.string S, .string T] W fun e w' => e = .returned (.int .i64 (Plain.cmpL (k1 :: Plain.digs 26 (Plain.num h1 l1)) (k2 :: Plain.digs 26 (Plain.num h2 l2)))) ∧ ∃ q, w' = W.drewN q := fun W =>
        cmpStr_27 S T _ _ ZS ZT (by rw [List.length_cons, Plain.length_digs]) (by rw [List.length_cons, Plain.length_digs]) (by rw [HS.out]; exact fun k h => strN_at _ (bytes_lt k1 _ y1) k h) (by rw [HT.out]; exact fun k h => strN_at _ (bytes_lt k2 _ y2) k h) W
      have CON : Hid (∀ W, Calls Try.prog 15 #[.string S, .string T] W fun e w' => e = .returned (.int .i64 (Plain.cmpL (k1 :: Plain.digs 26 (Plain.num h1 l1)) (k2 :: Plain.digs 26 (Plain.num h2 l2)))) ∧ ∃ q, w' = W.drewN q) := con
      clear con
      rcases Nat.lt_trichotomy k1 k2 with q | q | q
      · have hc : Hid (Plain.cmpL (k1 :: Plain.digs 26 (Plain.num h1 l1)) (k2 :: Plain.digs 26 (Plain.num h2 l2)) = -1) := by unfold Hid; rw [Plain.cmpL, if_pos q]
        go_enter Try.func6, Try.ntmps6
        go_wp2_with fail
        refine (idstring_any k1 h1 l1 y1 a b _).mono ?_
        rintro e w1 ⟨rfl, hb1⟩
        rw [E1.out]
        go_wp2_with fail
        refine (idstring_any k2 h2 l2 y2 c d _).mono ?_
        rintro e w2 ⟨rfl, hb2⟩
        rw [E2.out]
        go_wp2_with fail
        refine (CON.out _).mono ?_
        rintro e w3 ⟨rfl, q, rfl⟩
        rw [hc.out]
        go_wp2
        go_ret
        exact ⟨rfl, bel_drewN (hb1.trans (hb2.mono hb1.size)) _⟩
      · obtain ⟨R, HR⟩ : ∃ R, Hid (Plain.cmpL (k1 :: Plain.digs 26 (Plain.num h1 l1)) (k2 :: Plain.digs 26 (Plain.num h2 l2)) = R ∧ cmp128 h1 l1 h2 l2 = R) := ⟨_, rfl, by
          rw [Plain.cmpL, if_neg (by omega), if_neg (by omega), Plain.cmp_text h1 l1 h2 l2 a b c d]; rfl⟩
        have q1 : ¬ (k1 : Int) < (k2 : Int) := by omega
        have q2 : ¬ (k2 : Int) < (k1 : Int) := by omega
        clear q
        go_enter Try.func6, Try.ntmps6
        go_wp2_with fail
        refine (idstring_any k1 h1 l1 y1 a b _).mono ?_
        rintro e w1 ⟨rfl, hb1⟩
        rw [E1.out]
        go_wp2_with fail
        refine (idstring_any k2 h2 l2 y2 c d _).mono ?_
        rintro e w2 ⟨rfl, hb2⟩
        rw [E2.out]
        go_wp2_with fail
        refine (cmp128_any h1 l1 h2 l2 a b c d _).mono ?_
        rintro e w4 ⟨rfl, rfl⟩
        rw [HR.out.2]
        go_wp2_with fail
        refine (CON.out _).mono ?_
        rintro e w3 ⟨rfl, q, rfl⟩
        rw [HR.out.1]
        go_wp2
        go_ret
        exact ⟨rfl, bel_drewN (hb1.trans (hb2.mono hb1.size)) _⟩
      · have hc : Hid (Plain.cmpL (k1 :: Plain.digs 26 (Plain.num h1 l1)) (k2 :: Plain.digs 26 (Plain.num h2 l2)) = 1) := by unfold Hid; rw [Plain.cmpL, if_neg (by omega), if_pos q]
        have q1 : ¬ (k1 : Int) < (k2 : Int) := by omega
        go_enter Try.func6, Try.ntmps6
        go_wp2_with fail
        refine (idstring_any k1 h1 l1 y1 a b _).mono ?_
        rintro e w1 ⟨rfl, hb1⟩
        rw [E1.out]
        go_wp2_with fail
        refine (idstring_any k2 h2 l2 y2 c d _).mono ?_
        rintro e w2 ⟨rfl, hb2⟩
        rw [E2.out]
        go_wp2_with fail
        refine (CON.out _).mono ?_
        rintro e w3 ⟨rfl, q, rfl⟩
        rw [hc.out]
        go_wp2
        go_ret
        exact ⟨rfl, bel_drewN (hb1.trans (hb2.mono hb1.size)) _⟩
#print axioms tuple_any
end Go.Proofs.Qxb6600862a
