import Derived.Test.Qxb6600862aStr
namespace Go.Proofs.Qxb6600862a
open Go.RowKit
set_option linter.unusedVariables false

set_option maxHeartbeats 400000 in
theorem time_core (kd h1 l1 h2 l2 : Nat) (hk : 0 < kd) (hk2 : kd < 256) (a : h1 < 18446744073709551616) (b : l1 < 18446744073709551616) (c : h2 < 18446744073709551616) (d : l2 < 18446744073709551616) (w : World) (S1 S2 : ByteArray)
    (HS1 : Hid (S1 = idStr kd h1 l1)) (HS2 : Hid (S2 = idStr kd h2 l2)) (z1 : S1.size = 27) (z2 : S2.size = 27) (T L M : Bool) (ht : (((h1 : Int) / 65536) == ((h2 : Int) / 65536)) = T) (hL : (bits BinOp.and IntKind.u64 (h1 : Int) 65535 == bits BinOp.and IntKind.u64 (h2 : Int) 65535) = L) (hM : ((l1 : Int) == (l2 : Int)) = M)
    (he1 : ((S1.extract 1 11).toList == (S2.extract 1 11).toList) = T) (he2 : ((S1.extract 11 27).toList == (S2.extract 11 27).toList) = (L && M)) :
    Calls Try.prog 7 #[.int .u8 kd, .int .u64 h1, .int .u64 l1, .int .u64 h2, .int .u64 l2] w fun e w' => e = .returned (.bool true) ∧ Below w.heap.size w w' := by
  have hk0 : ((kd : Int) == 0) = false := by simp; omega
  go_enter Try.func7, Try.ntmps7
  go_wp2_with fail
  refine (idstring_any kd h1 l1 hk2 a b _).mono ?_
  rintro e w1 ⟨rfl, hb1⟩
  rw [← HS1.out]
  go_wp2_with fail
  refine (idstring_any kd h2 l2 hk2 c d _).mono ?_
  rintro e w2 ⟨rfl, hb2⟩
  rw [← HS2.out]
  cases T <;> cases L <;> cases M
  all_goals
    (try simp only [Bool.and_true, Bool.and_false, Bool.and_self] at he2)
    go_wp2
    go_quiet (fail)
    go_wp2
    go_ret
    exact ⟨rfl, bel_drewN (hb1.trans (hb2.mono hb1.size)) _⟩

theorem strN_data (l : List Nat) : (strN l).data.toList = l.map UInt8.ofNat := by
  unfold strN
  rw [strOfNums_data, List.map_map]
  rfl

theorem strN_size (l : List Nat) : (strN l).size = l.length := by
  unfold strN
  rw [strOfNums_size, List.length_map]

theorem map_ofNat_inj (a b : List Nat) (ha : ∀ x ∈ a, x < 256) (hb : ∀ x ∈ b, x < 256) : a.map UInt8.ofNat = b.map UInt8.ofNat ↔ a = b := by
  refine ⟨fun h => ?_, fun h => by rw [h]⟩
  have e : ∀ l : List Nat, (∀ x ∈ l, x < 256) → (l.map UInt8.ofNat).map UInt8.toNat = l := fun l hl => by
    rw [List.map_map]
    conv => rhs; rw [← List.map_id l]
    refine List.map_congr_left fun x hx => ?_
    have := hl x hx
    simp; omega
  rw [← e a ha, ← e b hb, h]

theorem ex_toList (l : List Nat) (i j : Nat) : ((strN l).extract i j).toList = ((l.drop i).take (j - i)).map UInt8.ofNat := by
  rw [ByteArray.toList_eq]
  have : ((strN l).extract i j).data.toList = ((strN l).data.toList.drop i).take (j - i) := by
    generalize strN l = s
    obtain ⟨⟨l⟩⟩ := s
    rw [ByteArray.extract_mk]
  rw [this, strN_data, List.map_take, List.map_drop]

theorem time_any (kd h1 l1 h2 l2 : Nat) (hk2 : kd < 256) (a : h1 < 18446744073709551616) (b : l1 < 18446744073709551616) (c : h2 < 18446744073709551616) (d : l2 < 18446744073709551616) (w : World) :
    Calls Try.prog 7 #[.int .u8 kd, .int .u64 h1, .int .u64 l1, .int .u64 h2, .int .u64 l2] w fun e w' => e = .returned (.bool true) ∧ Below w.heap.size w w' := by
  by_cases hk : kd = 0
  · subst hk
    go_enter Try.func7, Try.ntmps7
    go_wp2
    go_ret
    exact ⟨rfl, Below.refl _ _⟩
  · have hlt : ∀ N, ∀ x ∈ Plain.digs 26 N, x < 256 := fun N x hx => (Plain.mem_digs 26 N x hx).2
    have e : ∀ h l, idStr kd h l = strN (kd :: Plain.digs 26 (Plain.num h l)) := fun h l => by unfold idStr; rw [if_neg hk]
    have m1 : ∀ x : Nat, x < 18446744073709551616 → bits .and .u64 (x : Int) 65535 = ((x % 65536 : Nat) : Int) := fun x hx => by
      have := bits_and_u64_nat x 65535 hx (by omega)
      rw [show ((65535 : Nat) : Int) = 65535 from rfl] at this
      rw [this, Nat.and_two_pow_sub_one_eq_mod x 16]
    refine time_core kd h1 l1 h2 l2 (by omega) hk2 a b c d w _ _ rfl rfl (by rw [e, strN_size, List.length_cons, Plain.length_digs]) (by rw [e, strN_size, List.length_cons, Plain.length_digs]) _ _ _ rfl rfl rfl ?_ ?_
    · rw [e, e, ex_toList, ex_toList, Bool.eq_iff_iff, beq_iff_eq, beq_iff_eq]
      simp only [List.drop_succ_cons, List.drop_zero]
      rw [map_ofNat_inj _ _ (fun x hx => hlt _ x (List.mem_of_mem_take hx)) (fun x hx => hlt _ x (List.mem_of_mem_take hx)), Plain.time_text h1 l1 h2 l2 a b c d]
      omega
    · rw [e, e, ex_toList, ex_toList, Bool.eq_iff_iff, beq_iff_eq, Bool.and_eq_true, beq_iff_eq, beq_iff_eq, m1 h1 a, m1 h2 c]
      simp only [List.drop_succ_cons]
      rw [List.take_of_length_le (by simp [Plain.length_digs]), List.take_of_length_le (by simp [Plain.length_digs]), map_ofNat_inj _ _ (fun x hx => hlt _ x (List.mem_of_mem_drop hx)) (fun x hx => hlt _ x (List.mem_of_mem_drop hx)), Plain.rand_text h1 l1 h2 l2 b d]
      omega
#print axioms time_any
end Go.Proofs.Qxb6600862a
