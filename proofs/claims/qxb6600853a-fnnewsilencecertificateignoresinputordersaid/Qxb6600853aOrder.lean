import Derived.Test.Qxb6600853aCommon
namespace Go.Proofs.Qxb6600853a
open Go.RowKit
set_option linter.unusedVariables false

set_option maxHeartbeats 1000000 in
/-- chainB1SameSilence: it lays blocks; it may draw. -/
theorem sameSil_any (e1 r1 e2 r2 : Int) (s1 s2 : Hdr) (A B : List Int) (w : World) (h1 : Sig w (.slice s1.1 s1.2.1 s1.2.2) A) (h2 : Sig w (.slice s2.1 s2.2.1 s2.2.2) B) (hA : A.length ≤ 1048576) (hB : B.length ≤ 1048576) :
    Calls Try.prog 16 #[.agg #[.int .u64 e1, .int .i64 r1, .slice s1.1 s1.2.1 s1.2.2], .agg #[.int .u64 e2, .int .i64 r2, .slice s2.1 s2.2.1 s2.2.2]] w fun e w' => e = .returned (.bool (sameB e1 r1 e2 r2 A B)) ∧ ∃ q os, w' = Sort.grow (w.drewN q) os := by
  have H1 : Hid (Sig w (.slice s1.1 s1.2.1 s1.2.2) A) := h1
  have H2 : Hid (Sig w (.slice s2.1 s2.2.1 s2.2.2) B) := h2
  clear h1 h2
  obtain ⟨b, HB⟩ : ∃ b, Hid (b = sameB e1 r1 e2 r2 A B) := ⟨_, rfl⟩
  go_enter Try.func16, Try.ntmps16
  go_wp2_with fail
  have hb : ∀ x y, Below w.heap.size w ((w.alloc x).alloc y) := fun x y => ((Below.refl _ _).alloc (Nat.le_refl _) _).alloc (by simp) _
  refine (same_any e1 r1 e2 r2 _ _ A B _ (H1.out.below (hb _ _) (Nat.le_refl _)) (H2.out.below (hb _ _) (Nat.le_refl _)) hA hB).mono ?_
  rintro e w1 ⟨rfl, q, o, rfl⟩
  rw [← HB.out]
  go_wp2
  go_ret
  exact ⟨by rw [← HB.out]; rfl, q, _, by rw [Sort.alloc_eq_grow, Sort.alloc_eq_grow, Sort.alloc_eq_grow, Sort.grow_grow, Sort.grow_grow]; rfl⟩

theorem sameSil_grown (e1 r1 e2 r2 : Int) (s1 s2 : Hdr) (A B : List Int) (w : World) (h1 : Sig w (.slice s1.1 s1.2.1 s1.2.2) A) (h2 : Sig w (.slice s2.1 s2.2.1 s2.2.2) B) (hA : A.length ≤ 1048576) (hB : B.length ≤ 1048576) (n : Nat) (os : Array Obj) :
    Calls Try.prog 16 #[.agg #[.int .u64 e1, .int .i64 r1, .slice s1.1 s1.2.1 s1.2.2], .agg #[.int .u64 e2, .int .i64 r2, .slice s2.1 s2.2.1 s2.2.2]] (Sort.grow (w.drewN n) os) fun e w' => e = .returned (.bool (sameB e1 r1 e2 r2 A B)) ∧ ∃ q os', w' = Sort.grow ((Sort.grow (w.drewN n) os).drewN q) os' :=
  sameSil_any e1 r1 e2 r2 s1 s2 A B _ (h1.below (below_grown w n os) (Nat.le_refl _)) (h2.below (below_grown w n os) (Nat.le_refl _)) hA hB
#print axioms sameSil_grown

theorem holds_below {en : Nat → List Value} {k : Nat} {w w' : World} {g off : Nat} {d : Array Nat} (h : Sort.HoldsK en k w g off d) {B : Nat} (hb : Below B w w') (hB : w.heap.size ≤ B) : Sort.HoldsK en k w' g off d := by
  intro j hj
  obtain ⟨h1, h2⟩ := h j hj
  have hlt := Nat.lt_of_lt_of_le (World.block_lt_of_cell? _ _ h1) hB
  exact ⟨(hb.cell (p := ⟨g, off + j, none⟩) hlt).trans h1, (hb.frozen (p := ⟨g, off + j, none⟩) hlt).trans h2⟩

set_option maxHeartbeats 4000000 in
set_option maxRecDepth 100000 in
/-- FnNewSilenceCertificateIgnoresInputOrder, none of the three slices longer than 4096. -/
theorem order_small (ep : Int) (a1 a2 a3 : Option Addr) (n1 n2 n3 c1 c2 c3 : Nat) (q1 : n1 ≤ 4096) (q2 : n2 ≤ 4096) (q3 : n3 ≤ 4096) (E R : Nat → Int) (Z : Nat → List Int) (h0 : ∀ i, n2 ≤ i → R i = 0) (w : World)
    (h1 : IRow .u64 w a1 n1 E) (h2 : IRow .i64 w a2 n2 R) (h3 : ZRow w a3 n3 Z) :
    Calls Try.prog 4 #[.int .u64 ep, .slice a1 n1 c1, .slice a2 n2 c2, .slice a3 n3 c3] w fun e w' => e = .returned (.bool true) ∧ Below w.heap.size w w' := by
  have H1 : Hid (IRow .u64 w a1 n1 E) := h1
  have H2 : Hid (IRow .i64 w a2 n2 R) := h2
  have H3 : Hid (ZRow w a3 n3 Z) := h3
  have H0 : Hid (∀ i, n2 ≤ i → R i = 0) := h0
  clear h1 h2 h3 h0
  obtain ⟨i0, hi, hz0, hz1, hz2⟩ := info_parts info39
  have hmk : ∀ (n : Nat) (W : World), n ≤ 4096 → (Instr.makeSlice 30 (.int .i64 n) (.int .i64 n)).run Try.prog W = .ok (.slice (some ⟨W.heap.size, 0, none⟩) n n) (W.alloc (.cells (madeCells #[.int .u64 0, .int .i64 0, .slice none 0 0] (n * 3)) 39)) := fun n W hn => by
    have := run_make (P := Try.prog) W 30 39 i0 _ Try.underlying30 hi hz0 .i64 .i64 n n (by omega) (Int.le_refl _) (by rw [hz2]; omega) (by omega)
    rw [hz1] at this
    exact this
  have HMK : Hid (∀ (n : Nat) (W : World), n ≤ 4096 → (Instr.makeSlice 30 (.int .i64 n) (.int .i64 n)).run Try.prog W = .ok (.slice (some ⟨W.heap.size, 0, none⟩) n n) (W.alloc (.cells (madeCells #[.int .u64 0, .int .i64 0, .slice none 0 0] (n * 3)) 39))) := hmk
  clear hi hz0 hz1 hz2 hmk
  go_enter Try.func4, Try.ntmps4
  go_wp2_with fail
  refine (zzBytes14 ep a1 a2 a3 n1 n2 n3 c1 c2 c3 Z _ H3.out).mono ?_
  rintro e w1 ⟨⟨b, rfl⟩, hw⟩
  rw [hw]
  clear hw w1
  cases b with
  | false =>
    go_wp2
    go_ret
    exact ⟨rfl, Below.refl _ _⟩
  | true =>
    go_wp2_with fail
    refine (sigBytes_any a3 n3 c3 Z q3 _ H3.out).mono ?_
    rintro e w1 ⟨⟨t, rfl, ht, hZ⟩, hw⟩
    rw [hw]
    clear hw w1
    have HZ : Hid (t ≤ 1048576 → ∀ i, i < n3 → (Z i).length ≤ 1048576) := hZ
    clear hZ
    by_cases htot : 8 * n1 + 8 * n2 + 8 * n3 + t ≤ 1048576
    · go_wp2_with fail
      refine (shape_any a1 a2 a3 n1 n2 n3 c1 c2 c3 q1 q2 q3 R _ H2.out).mono ?_
      rintro e w1 ⟨⟨b, rfl, hb⟩, hw⟩
      rw [hw]
      clear hw w1
      cases b with
      | false =>
        go_wp2
        go_ret
        exact ⟨rfl, Below.refl _ _⟩
      | true =>
        obtain ⟨e1, e3, hB⟩ := hb rfl
        clear hb
        subst e1
        subst e3
        have HB : Hid (Bounded n3 R) := hB
        clear hB
        go_wp2_with fail
        refine (distinct_any a2 n3 c2 q3 R _ H2.out).mono ?_
        rintro e w1 ⟨⟨b, rfl, hb⟩, q, rfl⟩
        cases b with
        | false =>
          go_wp2
          go_ret
          exact ⟨rfl, bel_drewN (Below.refl _ _) q⟩
        | true =>
          have HD : Hid (Distinct n3 R) := hb rfl
          clear hb
          by_cases hpos : 0 < n3
          · obtain ⟨b1, o1, b2, o2, b3, o3, rfl, rfl, rfl, hI⟩ := ins_of hpos H1.out H2.out H3.out (HZ.out (by omega))
            have HI : Hid (Ins (w.drewN q) n3 b1 o1 b2 o2 b3 o3 E R Z) := hI.below (bel_drewN (Below.refl w.heap.size w) q) (Nat.le_refl _)
            have HR : Hid (∀ i, -4611686018427387904 < R i ∧ R i < 4611686018427387904) := bounded_all HB.out H0.out
            clear hI H1 H2 H3 H0 HZ HB
            go_wp2_with fail
            refine (build_some c1 c2 c3 q3 _ HI.out).mono ?_
            rintro e w1 ⟨S, rfl, hh, hs, hb1⟩
            have HI1 : Hid (Ins w1 n3 b1 o1 b2 o2 b3 o3 E R Z) := HI.out.below hb1 (Nat.le_refl _)
            have HH : Hid (Sort.HoldsK (enc E R S) 3 w1 w.heap.size 0 (Array.range n3)) := hh
            have HS : Hid (∀ i, i < n3 → Sig w1 (.slice (S i).1 (S i).2.1 (S i).2.2) (Z i)) := hs
            have hB1 : Below w.heap.size w w1 := (bel_drewN (Below.refl _ _) q).trans hb1
            have hwb : w.heap.size < w1.heap.size := by
              have := (hh 0 (by simp; omega)).1
              exact World.block_lt_of_cell? _ _ this
            clear hh hs hb1 HI
            have hmk := fun W => HMK.out n3 W q3
            obtain ⟨E', HE⟩ : ∃ E' : Nat → Int, Hid (∀ i, E' i = E (n3 - 1 - i)) := ⟨_, fun _ => rfl⟩
            obtain ⟨R', HR'⟩ : ∃ R' : Nat → Int, Hid (∀ i, R' i = R (n3 - 1 - i)) := ⟨_, fun _ => rfl⟩
            obtain ⟨Z', HZ'⟩ : ∃ Z' : Nat → List Int, Hid (∀ i, Z' i = Z (n3 - 1 - i)) := ⟨_, fun _ => rfl⟩
            go_wp2
            go_loopw [12] (fun i wr => ∃ (k : Nat) (S2 : Nat → Hdr), k ≤ n3 ∧ i = .int .i64 k ∧ wr.rowIs w1.heap.size 39 (n3 * 3) (rowF E' R' S2 k) ∧ Hid (∀ i, i < k → Sig wr (.slice (S2 i).1 (S2 i).2.1 (S2 i).2.2) (Z' i)) ∧ Below w1.heap.size w1 wr) (fun i _ => n3 - (intOf i).toNat)
            case atStart =>
              refine ⟨0, fun _ => (none, 0, 0), by omega, rfl, ?_, fun i hi => absurd hi (Nat.not_lt_zero _), (Below.refl _ _).alloc (Nat.le_refl _) _⟩
              have := World.rowIs_alloc w1 (madeCells #[.int .u64 0, .int .i64 0, .slice none 0 0] (n3 * 3)) 39 (rowF E' R' (fun _ => (none, 0, 0)) 0) (fun t ht => by
                rw [Array.getElem?_eq_getElem ht]
                unfold rowF zcell
                rw [if_neg (by omega)]
                simp [madeCells])
              rw [size_madeCells] at this
              exact this
            case round =>
              obtain ⟨k, S2, hk, rfl, hrow, HS2, hbel⟩ := hrel
              clear hmk
              by_cases hlt : k < n3
              · have hlt' : (k : Int) < (n3 : Int) := by omega
                have HI2 : Hid (Ins wr n3 b1 o1 b2 o2 b3 o3 E R Z) := HI1.out.below hbel (Nat.le_refl _)
                go_wp2_with fail
                rw [show ((n3 : Int) - 1 - (k : Int)) = ((n3 - 1 - k : Nat) : Int) from by omega]
                refine (message_any c1 c2 c3 (n3 - 1 - k) (by omega) q3 wr HI2.out).mono ?_
                rintro e w2 ⟨s, rfl, hs1, hb2⟩
                rw [← HE.out k, ← HR'.out k]
                rw [← HZ'.out k] at hs1
                have hrow1 : w2.rowIs w1.heap.size 39 (n3 * 3) (rowF E' R' S2 k) := hrow.of_block (hb2.block _ hrow.lt)
                have HS3 : Hid (∀ i, i < k → Sig w2 (.slice (S2 i).1 (S2 i).2.1 (S2 i).2.2) (Z' i)) := fun i hi => (HS2.out i hi).below hb2 (Nat.le_refl _)
                have HS4 : Hid (Sig w2 (.slice s.1 s.2.1 s.2.2) (Z' k)) := hs1
                have hbel1 : Below w1.heap.size w1 w2 := hbel.trans (hb2.mono hbel.size)
                clear hs1 HS2 hbel hrow
                have st := store_step s hrow1 (by omega) HS4.out HS3.out
                have ST : Hid _ := st
                have p0 := hrow1.cell (i := k * 3) (by omega)
                have p1 := hrow1.cell (i := k * 3 + 1) (by omega)
                have p2 := hrow1.cell (i := k * 3 + 2) (by omega)
                have f0 := hrow1.frozen (k * 3)
                have f1 := hrow1.frozen (k * 3 + 1)
                have f2 := hrow1.frozen (k * 3 + 2)
                clear st
                go_wp2
                go_roundw
                case rel => exact ⟨k + 1, _, by omega, by go_num, ST.out.1, ST.out.2, ((hbel1.setCell (Nat.le_refl _) _).setCell (Nat.le_refl _) _).setCell (Nat.le_refl _) _⟩
                case measure => simp [intOf]; omega
              · obtain rfl : k = n3 := by omega
                have HRev : Hid (Sort.HoldsK (enc E' R' S2) 3 wr w1.heap.size 0 (Array.range k)) := holds_rowF hrow
                have HH2 : Hid (Sort.HoldsK (enc E R S) 3 wr w.heap.size 0 (Array.range k)) := holds_below HH.out hbel (Nat.le_refl _)
                have HSa : Hid (∀ i, i < k → Sig wr (.slice (S i).1 (S i).2.1 (S i).2.2) (Z i)) := fun i hi => (HS.out i hi).below hbel (Nat.le_refl _)
                have HR2 : Hid (∀ i, -4611686018427387904 < R' i ∧ R' i < 4611686018427387904) := fun i => by rw [HR'.out i]; exact HR.out _
                have hBr : Below w.heap.size w wr := hB1.trans (hbel.mono hB1.size)
                clear hrow HH HS hB1 hbel
                go_wp2_with fail
                refine (cert_some ep E R S HR.out w.heap.size 0 k k q3 wr HH2.out).mono ?_
                rintro e w2 ⟨gp, d, rfl, ⟨k0, g, cap, k1, hg, hd, hh2⟩, hp, hso, hb2⟩
                have HRev2 : Hid (Sort.HoldsK (enc E' R' S2) 3 w2 w1.heap.size 0 (Array.range k)) := holds_below HRev.out hb2 (Nat.le_refl _)
                have HMa : Hid (Msgs w2 g k (fun j => d[j]!) E R S Z) := msgs_of_holds hh2 hd (fun j hj => (HSa.out _ (perm_lt hp j hj)).below hb2 (Nat.le_refl _))
                have HSb : Hid (∀ i, i < k → Sig w2 (.slice (S2 i).1 (S2 i).2.1 (S2 i).2.2) (Z' i)) := fun i hi => (HS2.out i hi).below hb2 (Nat.le_refl _)
                have HP : Hid (d.toList.Perm (List.range k) ∧ ∀ i j, i < j → j < k → ¬ R (d.toList.getD j 0) < R (d.toList.getD i 0)) := ⟨perm_list hp, sorted_list hso⟩
                have HZL : Hid (∀ i, i < k → (Z i).length ≤ 1048576) := HI1.out.zl
                have HPl : Hid (∀ j, j < k → d[j]! < k) := perm_lt hp
                have hB2 : Below w.heap.size w w2 := hBr.trans (hb2.mono hBr.size)
                clear hh2 hp hso HRev HSa HS2 hb2 hBr HH2
                go_wp2_with fail
                refine (cert_some ep E' R' S2 HR2.out w1.heap.size 0 k k q3 w2 HRev2.out).mono ?_
                rintro e w3 ⟨gp', d', rfl, ⟨k0', g', cap', k1', hg', hd', hh3⟩, hp', hso', hb3⟩
                have HMa3 : Hid (Msgs w3 g k (fun j => d[j]!) E R S Z) := HMa.out.below hb3 (Nat.le_refl _)
                have HMb3 : Hid (Msgs w3 g' k (fun j => d'[j]!) E' R' S2 Z') := msgs_of_holds hh3 hd' (fun j hj => (HSb.out _ (perm_lt hp' j hj)).below hb3 (Nat.le_refl _))
                have y0 := (hb3.cell (p := ⟨gp, 0, none⟩) (World.block_lt_of_cell? _ _ k0)).trans k0
                have y1 := (hb3.cell (p := ⟨gp, 1, none⟩) (World.block_lt_of_cell? _ _ k1)).trans k1
                have HT : Hid (∀ j, j < k → d[j]! = k - 1 - d'[j]! ∧ k - 1 - d'[j]! < k) := fun j hj => by
                  have := Plain.two_sorts R k d.toList d'.toList HP.out.1 (perm_list hp') (fun i j x y => by have := HP.out.2 i j x y; omega) (fun i j hij hj => by
                    have := sorted_list hso' i j hij hj
                    rwa [HR'.out, HR'.out] at this) (distinct_inj HD.out) j hj
                  rwa [← arr_getD, ← arr_getD] at this
                have hB3 : Below w.heap.size w w3 := hB2.trans (hb3.mono hB2.size)
                clear hh3 hp' hso' HMa HSb hb3 hB2 k0 k1 HRev2 HP
                have mixed := mixedO
                go_wp2
                go_quiet (fail)
                go_wp2
                go_loopw [15] (fun i wq => ∃ m : Nat, m ≤ k ∧ i = .int .i64 m ∧ Below w3.heap.size w3 wq) (fun i _ => k - (intOf i).toNat)
                case atStart => exact ⟨0, by omega, rfl, bel_drewN (Below.refl _ _) _⟩
                case round =>
                  obtain ⟨m, hm, rfl, hbel⟩ := hrel
                  by_cases hml : m < k
                  · have hml' : (m : Int) < (k : Int) := by omega
                    obtain ⟨he, hle⟩ := HT.out m hml
                    have Ma := HMa3.out.below hbel (Nat.le_refl _)
                    have Mb := HMb3.out.below hbel (Nat.le_refl _)
                    have x0 := Ma.c0 m hml
                    have x1 := Ma.c1 m hml
                    have x2 := Ma.c2 m hml
                    have xs := Ma.sg m hml
                    have z0 := Mb.c0 m hml
                    have z1 := Mb.c1 m hml
                    have z2 := Mb.c2 m hml
                    have zs := Mb.sg m hml
                    simp only [HE.out, HR'.out, HZ'.out, ← he] at z0 z1 zs
                    have v1 := (hbel.cell (p := ⟨gp, 1, none⟩) (World.block_lt_of_cell? _ _ y1)).trans y1
                    have v2 := (hbel.cell (p := ⟨gp', 1, none⟩) (World.block_lt_of_cell? _ _ k1')).trans k1'
                    have hpl := HPl.out m hml
                    have hzl := HZL.out _ hpl
                    clear he hle
                    generalize d[m]! = p at *
                    generalize S2 d'[m]! = s2 at *
                    have t0 := cell_grown (World.block_lt_of_cell? _ _ x0) x0
                    have t1 := cell_grown (World.block_lt_of_cell? _ _ x1) x1
                    have t2 := cell_grown (World.block_lt_of_cell? _ _ x2) x2
                    have t3 := cell_grown (World.block_lt_of_cell? _ _ z0) z0
                    have t4 := cell_grown (World.block_lt_of_cell? _ _ z1) z1
                    have t5 := cell_grown (World.block_lt_of_cell? _ _ z2) z2
                    have t6 := cell_grown (World.block_lt_of_cell? _ _ v1) v1
                    have t7 := cell_grown (World.block_lt_of_cell? _ _ v2) v2
                    have con := sameSil_grown (E p) (R p) (E p) (R p) (S p) s2 (Z p) (Z p) wr xs zs hzl hzl
                    rw [show sameB (E p) (R p) (E p) (R p) (Z p) (Z p) = true by unfold sameB; simp] at con
                    have CON : Hid (∀ nq os, Calls Try.prog 16 #[.agg #[.int .u64 (E p), .int .i64 (R p), .slice (S p).1 (S p).2.1 (S p).2.2], .agg #[.int .u64 (E p), .int .i64 (R p), .slice s2.1 s2.2.1 s2.2.2]] (Sort.grow (wr.drewN nq) os) fun e w' => e = .returned (.bool true) ∧ ∃ q os', w' = Sort.grow ((Sort.grow (wr.drewN nq) os).drewN q) os') := con
                    clear con x0 x1 x2 xs z0 z1 z2 zs v1 v2 Ma Mb y0 y1 k0' k1'
                    go_wp2
                    go_quiet_grown (first | (go_at_call 16; refine Calls.grown_of (CON.out _ _)))
                    go_wp2
                    go_roundw
                    case rel => exact ⟨m + 1, by omega, by go_num, hbel.trans ((below_grown wr nq osq).mono hbel.size)⟩
                    case measure => simp [intOf]; omega
                  · go_wp2
                    go_ret
                    exact ⟨rfl, hB3.trans (hbel.mono hB3.size)⟩
          · obtain rfl : n3 = 0 := by omega
            have hmk := fun W => HMK.out 0 W (by omega)
            simp only [Int.natCast_zero, Nat.zero_mul] at hmk
            go_wp2_with fail
            refine (build_zero a1 a2 a3 c1 c2 c3 _).mono ?_
            rintro e w1 ⟨⟨a, rfl, ha⟩, hb1⟩
            have HA : Hid (NilOr w.heap.size a) := ha
            clear ha
            go_wp2
            refine wp_loop_rounds 1 ?_
            rw [rounds_succ]
            go_wp2_with fail
            refine (cert_zero ep _ a HA.out _).mono ?_
            rintro e w2 ⟨gp, a', cap, rfl, k0, k1, hb2⟩
            go_wp2_with fail
            refine (cert_zero ep w1.heap.size _ (Or.inr rfl) _).mono ?_
            rintro e w3 ⟨gp', a'', cap', rfl, k0', k1', hb3⟩
            have y0 := (hb3.cell (p := ⟨gp, 0, none⟩) (World.block_lt_of_cell? _ _ k0)).trans k0
            have y1 := (hb3.cell (p := ⟨gp, 1, none⟩) (World.block_lt_of_cell? _ _ k1)).trans k1
            clear k0 k1
            go_wp2
            go_quiet (fail)
            go_wp2
            refine wp_loop_rounds 1 ?_
            rw [rounds_succ]
            go_wp2
            go_ret
            have hbA : Below w.heap.size w1 w2 := ((Below.refl w.heap.size w1).alloc hb1.size _).trans (hb2.mono (by have := hb1.size; simp at this ⊢; omega))
            exact ⟨rfl, bel_drewN ((bel_drewN (Below.refl w.heap.size w) q).trans (hb1.trans (hbA.trans (hb3.mono (by have := hb1.size; have := hbA.size; simp at *; omega))))) _⟩
    · go_wp2
      go_ret
      exact ⟨rfl, Below.refl _ _⟩

set_option maxHeartbeats 1000000 in
theorem order_any (ep : Int) (a1 a2 a3 : Option Addr) (n1 n2 n3 c1 c2 c3 : Nat) (E R : Nat → Int) (Z : Nat → List Int) (h0 : ∀ i, n2 ≤ i → R i = 0) (w : World)
    (h1 : IRow .u64 w a1 n1 E) (h2 : IRow .i64 w a2 n2 R) (h3 : ZRow w a3 n3 Z) :
    Calls Try.prog 4 #[.int .u64 ep, .slice a1 n1 c1, .slice a2 n2 c2, .slice a3 n3 c3] w fun e w' => e = .returned (.bool true) ∧ Below w.heap.size w w' := by
  have H3 : Hid (ZRow w a3 n3 Z) := h3
  by_cases q1 : 4096 < n1
  · clear h0 h1 h2 h3
    go_enter Try.func4, Try.ntmps4
    go_wp2_with fail
    refine (zzBytes14 ep a1 a2 a3 n1 n2 n3 c1 c2 c3 Z _ H3.out).mono ?_
    rintro e w1 ⟨⟨b, rfl⟩, hw⟩
    rw [hw]
    clear hw w1
    cases b
    all_goals
      go_wp2
      go_ret
      exact ⟨rfl, Below.refl _ _⟩
  by_cases q2 : 4096 < n2
  · have q1' : n1 ≤ 4096 := by omega
    clear h0 h1 h2 h3
    go_enter Try.func4, Try.ntmps4
    go_wp2_with fail
    refine (zzBytes14 ep a1 a2 a3 n1 n2 n3 c1 c2 c3 Z _ H3.out).mono ?_
    rintro e w1 ⟨⟨b, rfl⟩, hw⟩
    rw [hw]
    clear hw w1
    cases b
    all_goals
      go_wp2
      go_ret
      exact ⟨rfl, Below.refl _ _⟩
  by_cases q3 : 4096 < n3
  · have q1' : n1 ≤ 4096 := by omega
    have q2' : n2 ≤ 4096 := by omega
    clear h0 h1 h2 h3
    go_enter Try.func4, Try.ntmps4
    go_wp2_with fail
    refine (zzBytes14 ep a1 a2 a3 n1 n2 n3 c1 c2 c3 Z _ H3.out).mono ?_
    rintro e w1 ⟨⟨b, rfl⟩, hw⟩
    rw [hw]
    clear hw w1
    cases b
    all_goals
      go_wp2
      go_ret
      exact ⟨rfl, Below.refl _ _⟩
  exact order_small ep a1 a2 a3 n1 n2 n3 c1 c2 c3 (by omega) (by omega) (by omega) E R Z h0 w h1 h2 h3
#print axioms order_any
end Go.Proofs.Qxb6600853a
