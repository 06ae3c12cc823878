import Derived.Test.Qxb6600853aCommon
namespace Go.Proofs.Qxb6600853a
open Go.RowKit
set_option linter.unusedVariables false

set_option maxHeartbeats 4000000 in
/-- FnNewSilenceCertificateIsRankOrder, none of the three slices longer than 4096. -/
theorem rank_small (ep : Int) (a1 a2 a3 : Option Addr) (n1 n2 n3 c1 c2 c3 : Nat) (q1 : n1 ≤ 4096) (q2 : n2 ≤ 4096) (q3 : n3 ≤ 4096) (E R : Nat → Int) (Z : Nat → List Int) (h0 : ∀ i, n2 ≤ i → R i = 0) (w : World)
    (h1 : IRow .u64 w a1 n1 E) (h2 : IRow .i64 w a2 n2 R) (h3 : ZRow w a3 n3 Z) :
    Calls Try.prog 3 #[.int .u64 ep, .slice a1 n1 c1, .slice a2 n2 c2, .slice a3 n3 c3] w fun e w' => e = .returned (.bool true) ∧ Below w.heap.size w w' := by
  have H1 : Hid (IRow .u64 w a1 n1 E) := h1
  have H2 : Hid (IRow .i64 w a2 n2 R) := h2
  have H3 : Hid (ZRow w a3 n3 Z) := h3
  have H0 : Hid (∀ i, n2 ≤ i → R i = 0) := h0
  clear h1 h2 h3 h0
  go_enter Try.func3, Try.ntmps3
  go_wp2_with fail
  refine (zzBytes6 ep a1 a2 a3 n1 n2 n3 c1 c2 c3 Z _ H3.out).mono ?_
  rintro e w1 ⟨⟨b, rfl⟩, hw⟩
  rw [hw]
  clear hw w1
  cases b with
  | false =>
    go_wp2
    go_ret
    exact ⟨rfl, Below.refl _ _⟩
  | true =>
    go_wp2_with fail
    refine (sigBytes_any a3 n3 c3 Z q3 _ H3.out).mono ?_
    rintro e w1 ⟨⟨t, rfl, ht, hZ⟩, hw⟩
    rw [hw]
    clear hw w1
    have HZ : Hid (t ≤ 1048576 → ∀ i, i < n3 → (Z i).length ≤ 1048576) := hZ
    clear hZ
    by_cases htot : 8 * n1 + 8 * n2 + 8 * n3 + t ≤ 1048576
    · go_wp2_with fail
      refine (shape_any a1 a2 a3 n1 n2 n3 c1 c2 c3 q1 q2 q3 R _ H2.out).mono ?_
      rintro e w1 ⟨⟨b, rfl, hb⟩, hw⟩
      rw [hw]
      clear hw w1
      cases b with
      | false =>
        go_wp2
        go_ret
        exact ⟨rfl, Below.refl _ _⟩
      | true =>
        obtain ⟨e1, e3, hB⟩ := hb rfl
        clear hb
        subst e1
        subst e3
        have HB : Hid (Bounded n3 R) := hB
        clear hB
        go_wp2_with fail
        refine (distinct_any a2 n3 c2 q3 R _ H2.out).mono ?_
        rintro e w1 ⟨⟨b, rfl, hb⟩, q, rfl⟩
        cases b with
        | false =>
          go_wp2
          go_ret
          exact ⟨rfl, bel_drewN (Below.refl _ _) q⟩
        | true =>
          have HD : Hid (Distinct n3 R) := hb rfl
          clear hb
          by_cases hpos : 0 < n3
          · obtain ⟨b1, o1, b2, o2, b3, o3, rfl, rfl, rfl, hI⟩ := ins_of hpos H1.out H2.out H3.out (HZ.out (by omega))
            have HI : Hid (Ins (w.drewN q) n3 b1 o1 b2 o2 b3 o3 E R Z) := hI.below (bel_drewN (Below.refl w.heap.size w) q) (Nat.le_refl _)
            have HR : Hid (∀ i, -4611686018427387904 < R i ∧ R i < 4611686018427387904) := bounded_all HB.out H0.out
            clear hI H1 H2 H3 H0 HZ HB
            go_wp2_with fail
            refine (build_some c1 c2 c3 q3 _ HI.out).mono ?_
            rintro e w1 ⟨S, rfl, hh, hs, hb1⟩
            have HI1 : Hid (Ins w1 n3 b1 o1 b2 o2 b3 o3 E R Z) := HI.out.below hb1 (Nat.le_refl _)
            have HH : Hid (Sort.HoldsK (enc E R S) 3 w1 w.heap.size 0 (Array.range n3)) := hh
            have HS : Hid (∀ i, i < n3 → Sig w1 (.slice (S i).1 (S i).2.1 (S i).2.2) (Z i)) := hs
            have hB1 : Below w.heap.size w w1 := (bel_drewN (Below.refl _ _) q).trans hb1
            clear hh hs hb1 HI
            go_wp2_with fail
            refine (cert_some ep E R S HR.out w.heap.size 0 n3 n3 q3 w1 HH.out).mono ?_
            rintro e w2 ⟨gp, d', rfl, ⟨k0, g, cap, k1, hg, hd, hh2⟩, hp, hso, hb2⟩
            have HI2 : Hid (Ins w2 n3 b1 o1 b2 o2 b3 o3 E R Z) := HI1.out.below hb2 (Nat.le_refl _)
            have HM1 : Hid (Msgs w2 w.heap.size n3 (fun j => j) E R S Z) := (Msgs.congr (msgs_of_holds HH.out (by simp) (fun j hj => by rw [range_at n3 j hj]; exact HS.out j hj)) (fun j hj => range_at n3 j hj)).below hb2 (Nat.le_refl _)
            have HM2 : Hid (Msgs w2 g n3 (fun j => d'[j]!) E R S Z) := msgs_of_holds hh2 hd (fun j hj => (HS.out _ (perm_lt hp j hj)).below hb2 (Nat.le_refl _))
            have HK : Hid (∀ i, i < n3 → Plain.rank R n3 i < n3 ∧ d'[Plain.rank R n3 i]! = i) := fun i hi => by
              have := Plain.at_rank R n3 d'.toList (perm_list hp) (sorted_list hso) (distinct_inj HD.out) i hi
              rwa [← arr_getD] at this
            have hB2 : Below w.heap.size w w2 := hB1.trans (hb2.mono hB1.size)
            clear hh2 hp hso HI1 HH HS hb2 hB1 hd
            have mixed := mixedO
            go_wp2
            go_loopw [12] (fun i wr => ∃ k : Nat, k ≤ n3 ∧ i = .int .i64 k ∧ Below w2.heap.size w2 wr) (fun i _ => n3 - (intOf i).toNat)
            case atStart => exact ⟨0, by omega, rfl, Below.refl _ _⟩
            case round =>
              obtain ⟨k, hk, rfl, hbel⟩ := hrel
              by_cases hlt : k < n3
              · have hlt' : (k : Int) < (n3 : Int) := by omega
                have HI3 : Hid (Ins wr n3 b1 o1 b2 o2 b3 o3 E R Z) := HI2.out.below hbel (Nat.le_refl _)
                have HM3 : Hid (Msgs wr g n3 (fun j => d'[j]!) E R S Z) := HM2.out.below hbel (Nat.le_refl _)
                have key : ∀ p v, w2.cell? p = some v → wr.cell? p = some v := fun p v hp => (hbel.cell (p := p) (World.block_lt_of_cell? _ _ hp)).trans hp
                have g1 := key _ _ k1
                clear key
                obtain ⟨r, Hr⟩ : ∃ r, Hid (r = R k) := ⟨_, rfl⟩
                have ck := HI3.out.cr k hlt
                rw [← Hr.out] at ck
                go_wp2
                go_loopw [13, 14] (fun x j wq => ∃ m q p : Nat, m ≤ n3 ∧ j = .int .i64 m ∧ x = .int .i64 p ∧ p ≤ m ∧ Hid (p = Plain.rank R m k) ∧ wq = wr.drewN q) (fun _ j _ => n3 - (intOf j).toNat)
                case atStart => exact ⟨0, 0, 0, by omega, rfl, rfl, by omega, rfl, rfl⟩
                case round =>
                  obtain ⟨m, q', p, hm, rfl, rfl, hpm, HP, rfl⟩ := hrel
                  by_cases hml : m < n3
                  · have hml' : (m : Int) < (n3 : Int) := by omega
                    have cm := HI3.out.cr m hml
                    obtain ⟨s, Hs⟩ : ∃ s, Hid (s = R m) := ⟨_, rfl⟩
                    rw [← Hs.out] at cm
                    by_cases hsr : s < r
                    · have HP' : Hid (p + 1 = Plain.rank R (m + 1) k) := by unfold Hid; rw [rank_succ, ← Hs.out, ← Hr.out, if_pos hsr, HP.out]
                      go_wp2
                      go_quiet (fail)
                      go_wp2
                      go_roundw
                      case rel => exact ⟨m + 1, _, p + 1, by omega, by go_num, by go_num, by omega, HP', rfl⟩
                      case measure => simp [intOf]; omega
                    · have HP' : Hid (p = Plain.rank R (m + 1) k) := by unfold Hid; rw [rank_succ, ← Hs.out, ← Hr.out, if_neg hsr, HP.out]; rfl
                      go_wp2
                      go_quiet (fail)
                      go_wp2
                      go_roundw
                      case rel => exact ⟨m + 1, _, p, by omega, by go_num, rfl, by omega, HP', rfl⟩
                      case measure => simp [intOf]; omega
                  · obtain rfl : m = n3 := by omega
                    have hpk : p < m ∧ d'[p]! = k := by rw [HP.out]; exact HK.out k hlt
                    obtain ⟨hpl, hpe⟩ := hpk
                    have HE : Hid (d'[p]! = k) := hpe
                    clear hpe
                    have hpl' : (p : Int) < (m : Int) := by omega
                    obtain ⟨W, HW⟩ : ∃ W, Hid (W = wr.drewN q') := ⟨_, rfl⟩
                    rw [← HW.out]
                    have hbW : Below wr.heap.size wr W := by rw [HW.out]; exact bel_drewN (Below.refl _ _) _
                    have HI4 : Hid (Ins W m b1 o1 b2 o2 b3 o3 E R Z) := HI3.out.below hbW (Nat.le_refl _)
                    have HM4 : Hid (Msgs W g m (fun j => d'[j]!) E R S Z) := HM3.out.below hbW (Nat.le_refl _)
                    have g4 := (hbW.cell (p := ⟨gp, 1, none⟩) (World.block_lt_of_cell? _ _ g1)).trans g1
                    obtain ⟨v, hv, hsv⟩ := HI4.out.cs k hlt
                    have m0 := HM4.out.c0 p hpl
                    have m1 := HM4.out.c1 p hpl
                    have m2 := HM4.out.c2 p hpl
                    have ms := HM4.out.sg p hpl
                    simp only [HE.out] at m0 m1 m2 ms
                    rw [← Hr.out] at m1
                    have ce := HI4.out.ce k hlt
                    have ck4 := HI4.out.cr k hlt
                    rw [← Hr.out] at ck4
                    have t0 := cell_grown (World.block_lt_of_cell? _ _ m0) m0
                    have t1 := cell_grown (World.block_lt_of_cell? _ _ m1) m1
                    have t2 := cell_grown (World.block_lt_of_cell? _ _ m2) m2
                    have t3 := cell_grown (World.block_lt_of_cell? _ _ hv) hv
                    have t4 := cell_grown (World.block_lt_of_cell? _ _ ce) ce
                    have t5 := cell_grown (World.block_lt_of_cell? _ _ ck4) ck4
                    have t6 := cell_grown (World.block_lt_of_cell? _ _ g4) g4
                    have con := same_grown (E k) r (E k) r _ v (Z k) (Z k) W ms hsv (HI4.out.zl k hlt) (HI4.out.zl k hlt)
                    rw [show sameB (E k) r (E k) r (Z k) (Z k) = true by unfold sameB; simp] at con
                    obtain ⟨x, c, rfl, _, _⟩ := hsv
                    have CON : Hid (∀ nq os, Calls Try.prog 12 #[.agg #[.int .u64 (E k), .int .i64 r, .slice (S k).1 (S k).2.1 (S k).2.2], .int .u64 (E k), .int .i64 r, .slice x (Z k).length c] (Sort.grow (W.drewN nq) os) fun e w' => e = .returned (.bool true) ∧ ∃ q os', w' = Sort.grow ((Sort.grow (W.drewN nq) os).drewN q) os') := con
                    have hbel4 : Below w2.heap.size w2 W := hbel.trans (hbW.mono hbel.size)
                    clear con m0 m1 m2 ms hv ce ck4 g4 hbW g1 ck k0 k1
                    go_wp2
                    go_quiet_grown (first | (go_at_call 12; refine Calls.grown_of (CON.out _ _)))
                    go_wp2
                    go_roundw
                    case rel => exact ⟨k + 1, by omega, by go_num, hbel4.trans ((below_grown W nq osq).mono hbel4.size)⟩
                    case measure => simp [intOf]; omega
              · go_wp2_with fail
                refine (untouched_pos w.heap.size n3 c1 c2 c3 q3 wr (HI2.out.below hbel (Nat.le_refl _)) (HM1.out.below hbel (Nat.le_refl _))).mono ?_
                rintro e w3 ⟨rfl, hb3⟩
                go_wp2
                go_ret
                exact ⟨rfl, hB2.trans ((hbel.mono hB2.size).trans (hb3.mono (Nat.le_trans hB2.size hbel.size)))⟩
          · obtain rfl : n3 = 0 := by omega
            go_wp2_with fail
            refine (build_zero a1 a2 a3 c1 c2 c3 _).mono ?_
            rintro e w1 ⟨⟨a, rfl, ha⟩, hb1⟩
            have HA : Hid (NilOr w.heap.size a) := ha
            clear ha
            go_wp2_with fail
            refine (cert_zero ep _ a HA.out _).mono ?_
            rintro e w2 ⟨gp, a', cap, rfl, k0, k1, hb2⟩
            go_wp2
            refine wp_loop_rounds 1 ?_
            rw [rounds_succ]
            go_wp2_with fail
            refine (untouched_zero a a1 a2 a3 0 c1 c2 c3 w2).mono ?_
            rintro e w3 ⟨rfl, hw⟩
            rw [hw]
            clear hw
            go_wp2
            go_ret
            exact ⟨rfl, (bel_drewN (Below.refl _ _) q).trans (hb1.trans (hb2.mono hb1.size))⟩
    · go_wp2
      go_ret
      exact ⟨rfl, Below.refl _ _⟩

set_option maxHeartbeats 1000000 in
theorem rank_any (ep : Int) (a1 a2 a3 : Option Addr) (n1 n2 n3 c1 c2 c3 : Nat) (E R : Nat → Int) (Z : Nat → List Int) (h0 : ∀ i, n2 ≤ i → R i = 0) (w : World)
    (h1 : IRow .u64 w a1 n1 E) (h2 : IRow .i64 w a2 n2 R) (h3 : ZRow w a3 n3 Z) :
    Calls Try.prog 3 #[.int .u64 ep, .slice a1 n1 c1, .slice a2 n2 c2, .slice a3 n3 c3] w fun e w' => e = .returned (.bool true) ∧ Below w.heap.size w w' := by
  have H3 : Hid (ZRow w a3 n3 Z) := h3
  by_cases q1 : 4096 < n1
  · clear h0 h1 h2 h3
    go_enter Try.func3, Try.ntmps3
    go_wp2_with fail
    refine (zzBytes6 ep a1 a2 a3 n1 n2 n3 c1 c2 c3 Z _ H3.out).mono ?_
    rintro e w1 ⟨⟨b, rfl⟩, hw⟩
    rw [hw]
    clear hw w1
    cases b
    all_goals
      go_wp2
      go_ret
      exact ⟨rfl, Below.refl _ _⟩
  by_cases q2 : 4096 < n2
  · have q1' : n1 ≤ 4096 := by omega
    clear h0 h1 h2 h3
    go_enter Try.func3, Try.ntmps3
    go_wp2_with fail
    refine (zzBytes6 ep a1 a2 a3 n1 n2 n3 c1 c2 c3 Z _ H3.out).mono ?_
    rintro e w1 ⟨⟨b, rfl⟩, hw⟩
    rw [hw]
    clear hw w1
    cases b
    all_goals
      go_wp2
      go_ret
      exact ⟨rfl, Below.refl _ _⟩
  by_cases q3 : 4096 < n3
  · have q1' : n1 ≤ 4096 := by omega
    have q2' : n2 ≤ 4096 := by omega
    clear h0 h1 h2 h3
    go_enter Try.func3, Try.ntmps3
    go_wp2_with fail
    refine (zzBytes6 ep a1 a2 a3 n1 n2 n3 c1 c2 c3 Z _ H3.out).mono ?_
    rintro e w1 ⟨⟨b, rfl⟩, hw⟩
    rw [hw]
    clear hw w1
    cases b
    all_goals
      go_wp2
      go_ret
      exact ⟨rfl, Below.refl _ _⟩
  exact rank_small ep a1 a2 a3 n1 n2 n3 c1 c2 c3 (by omega) (by omega) (by omega) E R Z h0 w h1 h2 h3
#print axioms rank_any
end Go.Proofs.Qxb6600853a
