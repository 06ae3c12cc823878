import Derived.Test.Qxb6600853aCommon
namespace Go.Proofs.Qxb6600853a
open Go.RowKit
set_option linter.unusedVariables false

/-- One step of the fold, as the walk spells it. -/
def fstep (h b : Int) : Int := IntKind.u64.wrap (bits .xor .u64 h (IntKind.u64.wrap b) * 1099511628211)
def foldF (bs : List Int) : Int := bs.foldl fstep 14695981039346656037

theorem fold_snoc (bs : List Int) (k : Nat) (h : k < bs.length) : foldF (bs.take (k + 1)) = fstep (foldF (bs.take k)) (bs.getD k 0) := by
  unfold foldF
  rw [List.take_succ_eq_append_getElem h, List.foldl_append, List.getD_eq_getElem?_getD, List.getElem?_eq_getElem h]
  rfl

set_option maxHeartbeats 1000000 in
theorem fold_any (v : Value) (bs : List Int) (w : World) (h : Sig w v bs) (hl : bs.length ≤ 1048576) :
    Calls Try.prog 18 #[v] w fun e w' => e = .returned (.int .u64 (foldF bs)) ∧ w' = w := by
  obtain ⟨a, c, rfl, _, k1⟩ := h
  have K : Hid (∀ j, j < bs.length → ∃ g o, a = some ⟨g, o, none⟩ ∧ w.cell? ⟨g, o + j, none⟩ = some (.int .u8 (bs.getD j 0))) := k1
  clear k1
  go_enter Try.func18, Try.ntmps18
  go_wp2
  go_loop [3, 4] (fun x i => ∃ (k : Nat) (y : Int), k ≤ bs.length ∧ i = .int .i64 k ∧ x = .int .u64 y ∧ Hid (y = foldF (bs.take k))) (fun _ i => bs.length - (intOf i).toNat)
  case atStart => exact ⟨0, _, by omega, rfl, rfl, rfl⟩
  case round =>
    obtain ⟨k, y, hk, rfl, rfl, HY⟩ := hrel
    by_cases hlt : k < bs.length
    · obtain ⟨g, o, rfl, e1⟩ := K.out k hlt
      have hlt' : (k : Int) < (bs.length : Int) := by omega
      have hs : Hid (foldF (bs.take (k + 1)) = fstep y (bs.getD k 0)) := by unfold Hid; rw [fold_snoc bs k hlt, HY.out]
      generalize bs.getD k 0 = z at e1 hs
      go_wp2
      go_round
      case rel =>
        refine ⟨k + 1, _, by omega, by go_num, rfl, ?_⟩
        unfold Hid
        rw [hs.out]
        rfl
      case measure => simp [intOf]; omega
    · have hf : Hid (foldF bs = y) := by unfold Hid; rw [HY.out, List.take_of_length_le (by omega)]
      go_wp2
      go_ret
      exact ⟨by rw [hf.out]; rfl, rfl⟩

theorem info22 : (Try.prog.info? 22).map (fun i => (i.zero, i.size, i.bytes)) = some (some (.int .u64 0), 1, 8) := by kernel_rfl
theorem info4 : (Try.prog.info? 4).map (fun i => (i.zero, i.size, i.bytes)) = some (some (.bool false), 1, 1) := by kernel_rfl

/-- A row of folds, k of them laid. -/
def foldRow (Y : Nat → List Int) (k j : Nat) : Value := .int .u64 (if j < k then foldF (Y j) else 0)

theorem foldRow_step (Y : Nat → List Int) (k j : Nat) : (if j = k then Value.int .u64 (foldF (Y k)) else foldRow Y k j) = foldRow Y (k + 1) j := by
  unfold foldRow
  by_cases h : j = k
  · subst h; rw [if_pos rfl, if_pos (by omega)]
  · rw [if_neg h]
    by_cases h2 : j < k
    · rw [if_pos h2, if_pos (by omega)]
    · rw [if_neg h2, if_neg (by omega)]

set_option maxHeartbeats 8000000 in
set_option maxRecDepth 100000 in
/-- FnNewSilenceCertificateSortedPermutation, none of the three slices longer than 4096. -/
theorem perm_small (ep : Int) (a1 a2 a3 : Option Addr) (n1 n2 n3 c1 c2 c3 : Nat) (q1 : n1 ≤ 4096) (q2 : n2 ≤ 4096) (q3 : n3 ≤ 4096) (E R : Nat → Int) (Z : Nat → List Int) (h0 : ∀ i, n2 ≤ i → R i = 0) (w : World)
    (h1 : IRow .u64 w a1 n1 E) (h2 : IRow .i64 w a2 n2 R) (h3 : ZRow w a3 n3 Z) :
    Calls Try.prog 5 #[.int .u64 ep, .slice a1 n1 c1, .slice a2 n2 c2, .slice a3 n3 c3] w fun e w' => e = .returned (.bool true) ∧ Below w.heap.size w w' := by
  have H1 : Hid (IRow .u64 w a1 n1 E) := h1
  have H2 : Hid (IRow .i64 w a2 n2 R) := h2
  have H3 : Hid (ZRow w a3 n3 Z) := h3
  have H0 : Hid (∀ i, n2 ≤ i → R i = 0) := h0
  clear h1 h2 h3 h0
  go_enter Try.func5, Try.ntmps5
  go_wp2_with fail
  refine (zzBytes17 ep a1 a2 a3 n1 n2 n3 c1 c2 c3 Z _ H3.out).mono ?_
  rintro e w1 ⟨⟨b, rfl⟩, hw⟩
  rw [hw]
  clear hw w1
  cases b with
  | false =>
    go_wp2
    go_ret
    exact ⟨rfl, Below.refl _ _⟩
  | true =>
    go_wp2_with fail
    refine (sigBytes_any a3 n3 c3 Z q3 _ H3.out).mono ?_
    rintro e w1 ⟨⟨t, rfl, ht, hZ⟩, hw⟩
    rw [hw]
    clear hw w1
    have HZ : Hid (t ≤ 1048576 → ∀ i, i < n3 → (Z i).length ≤ 1048576) := hZ
    clear hZ
    by_cases htot : 8 * n1 + 8 * n2 + 8 * n3 + t ≤ 1048576
    · go_wp2_with fail
      refine (shape_any a1 a2 a3 n1 n2 n3 c1 c2 c3 q1 q2 q3 R _ H2.out).mono ?_
      rintro e w1 ⟨⟨b, rfl, hb⟩, hw⟩
      rw [hw]
      clear hw w1
      cases b with
      | false =>
        go_wp2
        go_ret
        exact ⟨rfl, Below.refl _ _⟩
      | true =>
        obtain ⟨e1, e3, hB⟩ := hb rfl
        clear hb
        subst e1
        subst e3
        have HB : Hid (Bounded n3 R) := hB
        clear hB
        by_cases hpos : 0 < n3
        · obtain ⟨b1, o1, b2, o2, b3, o3, rfl, rfl, rfl, hI⟩ := ins_of hpos H1.out H2.out H3.out (HZ.out (by omega))
          have HI : Hid (Ins w n3 b1 o1 b2 o2 b3 o3 E R Z) := hI
          have HR : Hid (∀ i, -4611686018427387904 < R i ∧ R i < 4611686018427387904) := bounded_all HB.out H0.out
          clear hI H1 H2 H3 H0 HZ HB
          go_wp2_with fail
          refine (build_some c1 c2 c3 q3 _ HI.out).mono ?_
          rintro e w1 ⟨S, rfl, hh, hs, hb1⟩
          have HI1 : Hid (Ins w1 n3 b1 o1 b2 o2 b3 o3 E R Z) := HI.out.below hb1 (Nat.le_refl _)
          have HH : Hid (Sort.HoldsK (enc E R S) 3 w1 w.heap.size 0 (Array.range n3)) := hh
          have HS : Hid (∀ i, i < n3 → Sig w1 (.slice (S i).1 (S i).2.1 (S i).2.2) (Z i)) := hs
          clear hh hs HI
          go_wp2_with fail
          refine (cert_some ep E R S HR.out w.heap.size 0 n3 n3 q3 w1 HH.out).mono ?_
          rintro e w2 ⟨gp, d, rfl, ⟨k0, g, cap, k1, hg, hd, hh2⟩, hp, hso, hb2⟩
          have HI2 : Hid (Ins w2 n3 b1 o1 b2 o2 b3 o3 E R Z) := HI1.out.below hb2 (Nat.le_refl _)
          have HM1 : Hid (Msgs w2 w.heap.size n3 (fun j => j) E R S Z) := (Msgs.congr (msgs_of_holds HH.out (by simp) (fun j hj => by rw [range_at n3 j hj]; exact HS.out j hj)) (fun j hj => range_at n3 j hj)).below hb2 (Nat.le_refl _)
          have HM2 : Hid (Msgs w2 g n3 (fun j => d[j]!) E R S Z) := msgs_of_holds hh2 hd (fun j hj => (HS.out _ (perm_lt hp j hj)).below hb2 (Nat.le_refl _))
          have HPm : Hid (d.toList.Perm (List.range n3)) := perm_list hp
          have HPl : Hid (∀ j, j < n3 → d[j]! < n3) := perm_lt hp
          have HSo : Hid (∀ i j, i < j → j < n3 → R d[i]! ≤ R d[j]!) := fun i j x y => by
            have := sorted_list hso i j x y
            rw [← arr_getD, ← arr_getD] at this
            omega
          have hB2 : Below w.heap.size w w2 := hb1.trans (hb2.mono hb1.size)
          clear hh2 hp hso HI1 HH HS hb2 hb1 hd
          have mk8 := run_make_row' (P := Try.prog) 23 22 (.int .u64 0) 8 Try.underlying23 info22 rfl .i64 .i64 n3 (by omega) (by omega)
          have mk1 := run_make_row' (P := Try.prog) 44 4 (.bool false) 1 Try.underlying44 info4 rfl .i64 .i64 n3 (by omega) (by omega)
          have MK8 : Hid _ := mk8
          have MK1 : Hid _ := mk1
          clear mk8 mk1
          have mixed := mixedO
          go_wp2
          go_loopw [13] (fun i wr => ∃ m q : Nat, m < n3 ∧ i = .int .i64 ((m : Int) + 1) ∧ wr = w2.drewN q) (fun i _ => n3 - (intOf i).toNat)
          case atStart => exact ⟨0, 0, hpos, rfl, rfl⟩
          case round =>
            obtain ⟨m, q, hm, rfl, rfl⟩ := hrel
            by_cases hlt : m + 1 < n3
            · have hlt' : (m : Int) + 1 < (n3 : Int) := by omega
              have x1 := HM2.out.c1 m (by omega)
              have x2 := HM2.out.c1 (m + 1) hlt
              have hle := HSo.out m (m + 1) (by omega) hlt
              generalize R d[m]! = r1 at *
              generalize R d[m + 1]! = r2 at *
              go_wp2
              go_quiet (fail)
              go_wp2
              go_roundw
              case rel => exact ⟨m + 1, _, by omega, by go_num, rfl⟩
              case measure => simp [intOf]; omega
            · have mk8 := MK8.out
              go_wp2
              clear mk8
              go_loopw [16] (fun i wr => ∃ k : Nat, k ≤ n3 ∧ i = .int .i64 k ∧ wr.rowIs w2.heap.size 22 n3 (foldRow Z k) ∧ wr.rowIs (w2.heap.size + 1) 22 n3 (foldRow (fun j => Z d[j]!) k) ∧ Below w2.heap.size w2 wr) (fun i _ => n3 - (intOf i).toNat)
              case atStart =>
                refine ⟨0, by omega, rfl, ?_, ?_, ((bel_drewN (Below.refl _ _) q).alloc (Nat.le_refl _) _).alloc (by simp) _⟩
                · refine ((World.rowIs_made (w2.drewN q) (.int .u64 0) n3 22).alloc _).congr fun j _ => ?_
                  unfold foldRow; rw [if_neg (by omega)]
                · have := World.rowIs_made ((w2.drewN q).alloc (.cells (madeCells #[.int .u64 0] n3) 22)) (.int .u64 0) n3 22
                  rw [show ((w2.drewN q).alloc (.cells (madeCells #[.int .u64 0] n3) 22)).heap.size = w2.heap.size + 1 by simp] at this
                  refine this.congr fun j _ => ?_
                  unfold foldRow; rw [if_neg (by omega)]
              case round =>
                obtain ⟨k, hk, rfl, hr1, hr2, hbel⟩ := hrel
                by_cases hkl : k < n3
                · have hkl' : (k : Int) < (n3 : Int) := by omega
                  have I := HI2.out.below hbel (Nat.le_refl _)
                  have M := HM2.out.below hbel (Nat.le_refl _)
                  obtain ⟨v, hv, hsv⟩ := I.cs k hkl
                  have hz1 := I.zl k hkl
                  have hz2 := I.zl _ (HPl.out k hkl)
                  have x2 := M.c2 k hkl
                  have xs := M.sg k hkl
                  have p1 := hr1.cell (i := k) hkl
                  have p2 := hr1.frozen k
                  have p3 := hr2.cell (i := k) hkl
                  have p4 := hr2.frozen k
                  obtain ⟨f1, HF1⟩ : ∃ f, Hid (f = foldF (Z k)) := ⟨_, rfl⟩
                  obtain ⟨f2, HF2⟩ : ∃ f, Hid (f = foldF (Z d[k]!)) := ⟨_, rfl⟩
                  have nb : notByte (foldRow Z k k) = true := rfl
                  have XS : Hid (Sig (wr.setCell ⟨w2.heap.size, k, none⟩ (.int .u64 f1)) (.slice (S d[k]!).1 (S d[k]!).2.1 (S d[k]!).2.2) (Z d[k]!)) := xs.setCell p1 nb
                  have HSV : Hid (Sig wr v (Z k)) := hsv
                  have hgne : g ≠ w2.heap.size := by omega
                  have hr3 : (wr.setCell ⟨w2.heap.size, k, none⟩ (.int .u64 f1)).rowIs w2.heap.size 22 n3 (foldRow Z (k + 1)) := by
                    rw [HF1.out]
                    exact (hr1.set k _).congr fun j _ => foldRow_step Z k j
                  have hr4 : (wr.setCell ⟨w2.heap.size, k, none⟩ (.int .u64 f1)).rowIs (w2.heap.size + 1) 22 n3 (foldRow (fun j => Z d[j]!) k) := hr2.setOther (by simp) _
                  have HR5 : Hid (((wr.setCell ⟨w2.heap.size, k, none⟩ (.int .u64 f1)).setCell ⟨w2.heap.size + 1, k, none⟩ (.int .u64 f2)).rowIs w2.heap.size 22 n3 (foldRow Z (k + 1)) ∧ ((wr.setCell ⟨w2.heap.size, k, none⟩ (.int .u64 f1)).setCell ⟨w2.heap.size + 1, k, none⟩ (.int .u64 f2)).rowIs (w2.heap.size + 1) 22 n3 (foldRow (fun j => Z d[j]!) (k + 1))) := by
                    refine ⟨hr3.setOther (by simp) _, ?_⟩
                    rw [HF2.out]
                    exact (hr4.set k _).congr fun j _ => foldRow_step (fun j => Z d[j]!) k j
                  obtain ⟨vx, vc, rfl, _, _⟩ := hsv
                  clear hr3 hr4 I M nb xs
                  generalize S d[k]! = s at *
                  go_wp2_with fail
                  refine (fold_any _ (Z k) _ HSV.out hz1).mono ?_
                  rintro e W1 ⟨rfl, hW⟩
                  rw [hW, ← HF1.out]
                  clear hW W1
                  go_wp2_with fail
                  refine (fold_any _ (Z d[k]!) _ XS.out hz2).mono ?_
                  rintro e W1 ⟨rfl, hW⟩
                  rw [hW, ← HF2.out]
                  clear hW W1
                  go_wp2
                  go_roundw
                  case rel => exact ⟨k + 1, by omega, by go_num, HR5.out.1, HR5.out.2, (hbel.setCell (Nat.le_refl _) _).setCell (by simp) _⟩
                  case measure => simp [intOf]; omega
                · obtain rfl : k = n3 := by omega
                  have HFA : Hid (∀ j, j < k → wr.cell? ⟨w2.heap.size, j, none⟩ = some (.int .u64 (foldF (Z j)))) := fun j hj => by
                    rw [hr1.cell hj]; unfold foldRow; rw [if_pos hj]
                  have HFB : Hid (∀ j, j < k → wr.cell? ⟨w2.heap.size + 1, j, none⟩ = some (.int .u64 (foldF (Z d[j]!)))) := fun j hj => by
                    rw [hr2.cell hj]; unfold foldRow; rw [if_pos hj]
                  have HI4 : Hid (Ins wr k b1 o1 b2 o2 b3 o3 E R Z) := HI2.out.below hbel (Nat.le_refl _)
                  have HM4 : Hid (Msgs wr g k (fun j => d[j]!) E R S Z) := HM2.out.below hbel (Nat.le_refl _)
                  have HM5 : Hid (Msgs wr w.heap.size k (fun j => j) E R S Z) := HM1.out.below hbel (Nat.le_refl _)
                  have hB4 : Below w.heap.size w wr := hB2.trans (hbel.mono hB2.size)
                  have hl1 := hr1.lt
                  have hl2 := hr2.lt
                  clear hr1 hr2 hbel HI2 HM2 HM1 hB2 k0 k1
                  obtain ⟨V, hV⟩ : ∃ V, V = wr := ⟨_, rfl⟩
                  subst hV
                  have mk1 := MK1.out
                  go_wp2
                  clear mk1
                  go_loopw [18] (fun i wq => ∃ (x : Nat) (used : Nat → Bool), x ≤ k ∧ i = .int .i64 x ∧ wq.rowIs V.heap.size 4 k (fun j => .bool (used j)) ∧ Hid (Plain.Inv k d.toList (fun i => (E i, R i, Z i)) used x) ∧ Below V.heap.size V wq) (fun i _ => k - (intOf i).toNat)
                  case atStart =>
                    refine ⟨0, fun _ => false, by omega, rfl, World.rowIs_made V (.bool false) k 4, Plain.Inv.zero _ _ _ _ (fun _ => rfl), (Below.refl _ _).alloc (Nat.le_refl _) _⟩
                  case round =>
                    obtain ⟨x, used, hx, rfl, hru, HV, hbq⟩ := hrel
                    by_cases hxl : x < k
                    · have hxl' : (x : Int) < (k : Int) := by omega
                      obtain ⟨U, hU⟩ : ∃ U, U = wr := ⟨_, rfl⟩
                      subst hU
                      go_wp2
                      go_loopw [19, 20] (fun f j wq => ∃ (m : Nat) (used' : Nat → Bool) (b : Bool), m ≤ k ∧ j = .int .i64 m ∧ f = .bool b ∧ wq.rowIs V.heap.size 4 k (fun j => .bool (used' j)) ∧
                          Hid ((b = false → used' = used ∧ ∀ j, j < m → used j = false → (E d[j]!, R d[j]!, Z d[j]!) ≠ (E x, R x, Z x)) ∧ (b = true → Plain.Inv k d.toList (fun i => (E i, R i, Z i)) used' (x + 1))) ∧ Below V.heap.size V wq) (fun _ j _ => k - (intOf j).toNat)
                      case atStart => exact ⟨0, used, false, by omega, rfl, rfl, hru, ⟨fun _ => ⟨rfl, fun j hj => absurd hj (Nat.not_lt_zero _)⟩, fun h => by cases h⟩, hbq⟩
                      case round =>
                        obtain ⟨y, used', b, hy, rfl, rfl, hrv, HC, hbv⟩ := hrel
                        cases b with
                        | true =>
                          have HV' : Hid (Plain.Inv k d.toList (fun i => (E i, R i, Z i)) used' (x + 1)) := HC.out.2 rfl
                          clear HC
                          by_cases hyl : y < k
                          · have hyl' : (y : Int) < (k : Int) := by omega
                            go_wp2
                            go_roundw
                            case rel => exact ⟨x + 1, used', by omega, by go_num, hrv, HV', hbv⟩
                            case measure => simp [intOf]; omega
                          · go_wp2
                            go_roundw
                            case rel => exact ⟨x + 1, used', by omega, by go_num, hrv, HV', hbv⟩
                            case measure => simp [intOf]; omega
                        | false =>
                          obtain ⟨hue, hno⟩ := HC.out.1 rfl
                          have HNo : Hid (∀ j, j < y → used j = false → (E d[j]!, R d[j]!, Z d[j]!) ≠ (E x, R x, Z x)) := hno
                          clear HC hno
                          subst hue
                          by_cases hyl : y < k
                          · have hyl' : (y : Int) < (k : Int) := by omega
                            have cu := hrv.cell (i := y) hyl
                            have fu := hrv.frozen y
                            cases hub : used' y with
                            | true =>
                              rw [hub] at cu
                              have HNo' : Hid (∀ j, j < y + 1 → used' j = false → (E d[j]!, R d[j]!, Z d[j]!) ≠ (E x, R x, Z x)) := fun j hj hf => by
                                by_cases e : j = y
                                · rw [e, hub] at hf; cases hf
                                · exact HNo.out j (by omega) hf
                              clear hub
                              go_wp2
                              go_quiet (fail)
                              go_wp2
                              go_roundw
                              case rel => exact ⟨y + 1, used', false, by omega, by go_num, rfl, hrv, ⟨fun _ => ⟨rfl, HNo'.out⟩, fun h => by cases h⟩, bel_drewN hbv _⟩
                              case measure => simp [intOf]; omega
                            | false =>
                              rw [hub] at cu
                              have HUB : Hid (used' y = false) := hub
                              clear hub
                              have A1 := (hbv.cell (p := ⟨w2.heap.size, x, none⟩) hl1).trans (HFA.out x hxl)
                              have A2 := (hbv.cell (p := ⟨w2.heap.size + 1, y, none⟩) hl2).trans (HFB.out y hyl)
                              obtain ⟨p, Hp⟩ : ∃ p, Hid (p = d[y]!) := ⟨_, rfl⟩
                              have hpk : p < k := by rw [Hp.out]; exact HPl.out y hyl
                              rw [← Hp.out] at A2
                              have HStep : Hid ((E p, R p, Z p) ≠ (E x, R x, Z x) → ∀ j, j < y + 1 → used' j = false → (E d[j]!, R d[j]!, Z d[j]!) ≠ (E x, R x, Z x)) := fun hne j hj hf => by
                                by_cases e : j = y
                                · rw [e, ← Hp.out]; exact hne
                                · exact HNo.out j (by omega) hf
                              obtain ⟨f1, HF1⟩ : ∃ f, Hid (f = foldF (Z x)) := ⟨_, rfl⟩
                              obtain ⟨f2, HF2⟩ : ∃ f, Hid (f = foldF (Z p)) := ⟨_, rfl⟩
                              rw [← HF1.out] at A1
                              rw [← HF2.out] at A2
                              by_cases hff : f2 = f1
                              · subst hff
                                have I := HI4.out.below hbv (Nat.le_refl _)
                                have M := HM4.out.below hbv (Nat.le_refl _)
                                obtain ⟨v, hv, hsv⟩ := I.cs x hxl
                                have m0 := M.c0 y hyl
                                have m1 := M.c1 y hyl
                                have m2 := M.c2 y hyl
                                have ms := M.sg y hyl
                                simp only [← Hp.out] at m0 m1 m2 ms
                                have ce := I.ce x hxl
                                have cr := I.cr x hxl
                                have t0 := cell_grown (World.block_lt_of_cell? _ _ m0) m0
                                have t1 := cell_grown (World.block_lt_of_cell? _ _ m1) m1
                                have t2 := cell_grown (World.block_lt_of_cell? _ _ m2) m2
                                have t3 := cell_grown (World.block_lt_of_cell? _ _ hv) hv
                                have t4 := cell_grown (World.block_lt_of_cell? _ _ ce) ce
                                have t5 := cell_grown (World.block_lt_of_cell? _ _ cr) cr
                                have t6 := cell_grown (World.block_lt_of_cell? _ _ A1) A1
                                have t7 := cell_grown (World.block_lt_of_cell? _ _ A2) A2
                                have t8 := cell_grown (World.block_lt_of_cell? _ _ cu) cu
                                have t9 : ∀ (n : Nat) (os : Array Obj), (Sort.grow (wr.drewN n) os).frozen? ⟨V.heap.size, y, none⟩ = false := fun n os => by
                                  rw [Sort.frozen?_grow _ _ _ (by exact hrv.lt)]; exact fu
                                have con := same_grown (E p) (R p) (E x) (R x) _ v (Z p) (Z x) wr ms hsv (I.zl p hpk) (I.zl x hxl)
                                obtain ⟨xa, xc, rfl, _, _⟩ := hsv
                                cases hsb : sameB (E p) (R p) (E x) (R x) (Z p) (Z x) with
                                | true =>
                                  rw [hsb] at con
                                  have CON : Hid (∀ nq os, Calls Try.prog 12 #[.agg #[.int .u64 (E p), .int .i64 (R p), .slice (S p).1 (S p).2.1 (S p).2.2], .int .u64 (E x), .int .i64 (R x), .slice xa (Z x).length xc] (Sort.grow (wr.drewN nq) os) fun e w' => e = .returned (.bool true) ∧ ∃ q os', w' = Sort.grow ((Sort.grow (wr.drewN nq) os).drewN q) os') := con
                                  have HK : Hid ((E p, R p, Z p) = (E x, R x, Z x)) := by
                                    unfold sameB at hsb
                                    obtain ⟨e1, e2, e3⟩ := of_decide_eq_true hsb
                                    unfold Hid
                                    rw [e1, e2, e3]
                                  clear con hsb m0 m1 m2 ms ce cr hv A1 A2 I M cu fu
                                  go_wp2
                                  go_quiet_grown (first | (go_at_call 12; refine Calls.grown_of (CON.out _ _)))
                                  go_wp2
                                  go_roundw
                                  case rel =>
                                    have hbg : Below wr.heap.size wr (Sort.grow (wr.drewN nq) osq) := below_grown wr nq osq
                                    have hrg : (Sort.grow (wr.drewN nq) osq).rowIs V.heap.size 4 k (fun j => .bool (used' j)) := hrv.of_block (hbg.block _ hrv.lt)
                                    refine ⟨y + 1, fun j => if j = y then true else used' j, true, by omega, by go_num, rfl, (hrg.set y _).congr fun j _ => ?_, ⟨(fun h => by cases h), fun _ => ?_⟩, (hbv.trans (hbg.mono hbv.size)).setCell (Nat.le_refl _) _⟩
                                    · by_cases e : j = y
                                      · simp [e]
                                      · simp [e]
                                    · exact Plain.Inv.step HV.out hyl HUB.out (by rw [← arr_getD, ← Hp.out]; exact HK.out) (by simp) (fun m hm => by simp [hm])
                                  case measure => simp [intOf]; omega
                                | false =>
                                  rw [hsb] at con
                                  have CON : Hid (∀ nq os, Calls Try.prog 12 #[.agg #[.int .u64 (E p), .int .i64 (R p), .slice (S p).1 (S p).2.1 (S p).2.2], .int .u64 (E x), .int .i64 (R x), .slice xa (Z x).length xc] (Sort.grow (wr.drewN nq) os) fun e w' => e = .returned (.bool false) ∧ ∃ q os', w' = Sort.grow ((Sort.grow (wr.drewN nq) os).drewN q) os') := con
                                  have HNo' : Hid (∀ j, j < y + 1 → used' j = false → (E d[j]!, R d[j]!, Z d[j]!) ≠ (E x, R x, Z x)) := HStep.out (fun h => by
                                    have e1 : E p = E x := congrArg (fun t => t.1) h
                                    have e2 : R p = R x := congrArg (fun t => t.2.1) h
                                    have e3 : Z p = Z x := congrArg (fun t => t.2.2) h
                                    unfold sameB at hsb
                                    exact of_decide_eq_false hsb ⟨e1, e2, e3⟩)
                                  clear con hsb m0 m1 m2 ms ce cr hv A1 A2 I M cu fu
                                  go_wp2
                                  go_quiet_grown (first | (go_at_call 12; refine Calls.grown_of (CON.out _ _)))
                                  go_wp2
                                  go_roundw
                                  case rel =>
                                    have hbg : Below wr.heap.size wr (Sort.grow (wr.drewN nq) osq) := below_grown wr nq osq
                                    exact ⟨y + 1, used', false, by omega, by go_num, rfl, hrv.of_block (hbg.block _ hrv.lt), ⟨fun _ => ⟨rfl, HNo'.out⟩, fun h => by cases h⟩, hbv.trans (hbg.mono hbv.size)⟩
                                  case measure => simp [intOf]; omega
                              · have hff' : (f2 == f1) = false := by simp [hff]
                                have HNo' : Hid (∀ j, j < y + 1 → used' j = false → (E d[j]!, R d[j]!, Z d[j]!) ≠ (E x, R x, Z x)) := HStep.out (fun h => hff (by
                                  rw [HF1.out, HF2.out]
                                  rw [show Z p = Z x from congrArg (fun t => t.2.2) h]))
                                clear hff
                                go_wp2
                                go_quiet (fail)
                                go_wp2
                                go_roundw
                                case rel => exact ⟨y + 1, used', false, by omega, by go_num, rfl, hrv, ⟨fun _ => ⟨rfl, HNo'.out⟩, fun h => by cases h⟩, bel_drewN hbv _⟩
                                case measure => simp [intOf]; omega
                          · have hcon : False := by
                              obtain ⟨j, hj, hf, hK⟩ := Plain.Inv.finds HPm.out HV.out hxl
                              rw [← arr_getD] at hK
                              exact HNo.out j (by omega) hf hK
                            exact hcon.elim
                    · go_wp2_with fail
                      refine (untouched_pos w.heap.size k c1 c2 c3 q3 _ (HI4.out.below hbq (Nat.le_refl _)) (HM5.out.below hbq (Nat.le_refl _))).mono ?_
                      rintro e w3 ⟨rfl, hb3⟩
                      go_wp2
                      go_ret
                      exact ⟨rfl, hB4.trans ((hbq.mono hB4.size).trans (hb3.mono (Nat.le_trans hB4.size hbq.size)))⟩
        · obtain rfl : n3 = 0 := by omega
          have mk8 := run_make_row' (P := Try.prog) 23 22 (.int .u64 0) 8 Try.underlying23 info22 rfl .i64 .i64 0 (by omega) (by omega)
          have mk1 := run_make_row' (P := Try.prog) 44 4 (.bool false) 1 Try.underlying44 info4 rfl .i64 .i64 0 (by omega) (by omega)
          simp only [Int.natCast_zero] at mk8 mk1
          go_wp2_with fail
          refine (build_zero a1 a2 a3 c1 c2 c3 _).mono ?_
          rintro e w1 ⟨⟨a, rfl, ha⟩, hb1⟩
          have HA : Hid (NilOr w.heap.size a) := ha
          clear ha
          go_wp2_with fail
          refine (cert_zero ep _ a HA.out _).mono ?_
          rintro e w2 ⟨gp, a', cap, rfl, k0, k1, hb2⟩
          go_wp2
          refine wp_loop_rounds 1 ?_
          rw [rounds_succ]
          go_wp2
          refine wp_loop_rounds 1 ?_
          rw [rounds_succ]
          go_wp2
          refine wp_loop_rounds 1 ?_
          rw [rounds_succ]
          go_wp2_with fail
          refine (untouched_zero a a1 a2 a3 0 c1 c2 c3 _).mono ?_
          rintro e w3 ⟨rfl, hw⟩
          rw [hw]
          clear hw
          go_wp2
          go_ret
          have hB : Below w.heap.size w w2 := hb1.trans (hb2.mono hb1.size)
          exact ⟨rfl, ((hB.alloc hB.size _).alloc (by have := hB.size; simp; omega) _).alloc (by have := hB.size; simp; omega) _⟩
    · go_wp2
      go_ret
      exact ⟨rfl, Below.refl _ _⟩

set_option maxHeartbeats 1000000 in
set_option maxRecDepth 100000 in
theorem perm_any (ep : Int) (a1 a2 a3 : Option Addr) (n1 n2 n3 c1 c2 c3 : Nat) (E R : Nat → Int) (Z : Nat → List Int) (h0 : ∀ i, n2 ≤ i → R i = 0) (w : World)
    (h1 : IRow .u64 w a1 n1 E) (h2 : IRow .i64 w a2 n2 R) (h3 : ZRow w a3 n3 Z) :
    Calls Try.prog 5 #[.int .u64 ep, .slice a1 n1 c1, .slice a2 n2 c2, .slice a3 n3 c3] w fun e w' => e = .returned (.bool true) ∧ Below w.heap.size w w' := by
  have H3 : Hid (ZRow w a3 n3 Z) := h3
  by_cases q1 : 4096 < n1
  · clear h0 h1 h2 h3
    go_enter Try.func5, Try.ntmps5
    go_wp2_with fail
    refine (zzBytes17 ep a1 a2 a3 n1 n2 n3 c1 c2 c3 Z _ H3.out).mono ?_
    rintro e w1 ⟨⟨b, rfl⟩, hw⟩
    rw [hw]
    clear hw w1
    cases b
    all_goals
      go_wp2
      go_ret
      exact ⟨rfl, Below.refl _ _⟩
  by_cases q2 : 4096 < n2
  · have q1' : n1 ≤ 4096 := by omega
    clear h0 h1 h2 h3
    go_enter Try.func5, Try.ntmps5
    go_wp2_with fail
    refine (zzBytes17 ep a1 a2 a3 n1 n2 n3 c1 c2 c3 Z _ H3.out).mono ?_
    rintro e w1 ⟨⟨b, rfl⟩, hw⟩
    rw [hw]
    clear hw w1
    cases b
    all_goals
      go_wp2
      go_ret
      exact ⟨rfl, Below.refl _ _⟩
  by_cases q3 : 4096 < n3
  · have q1' : n1 ≤ 4096 := by omega
    have q2' : n2 ≤ 4096 := by omega
    clear h0 h1 h2 h3
    go_enter Try.func5, Try.ntmps5
    go_wp2_with fail
    refine (zzBytes17 ep a1 a2 a3 n1 n2 n3 c1 c2 c3 Z _ H3.out).mono ?_
    rintro e w1 ⟨⟨b, rfl⟩, hw⟩
    rw [hw]
    clear hw w1
    cases b
    all_goals
      go_wp2
      go_ret
      exact ⟨rfl, Below.refl _ _⟩
  exact perm_small ep a1 a2 a3 n1 n2 n3 c1 c2 c3 (by omega) (by omega) (by omega) E R Z h0 w h1 h2 h3
#print axioms perm_any
end Go.Proofs.Qxb6600853a
