import Derived.Test.Qxb6600853aShape
import Derived.Shelf.SlSortCmp.QuietGrown
namespace Go.Proofs.Qxb6600853a
open Go.RowKit
set_option linter.unusedVariables false

theorem mixedO : Try.prog.follows .mixedOrders = true := by kernel_rfl

theorem below_grown (w : World) (n : Nat) (os : Array Obj) : Below w.heap.size w (Sort.grow (w.drewN n) os) :=
  ⟨rfl, rfl, rfl, by rw [Sort.size_grow]; exact Nat.le_add_right _ _, fun k hk => by rw [Sort.heap_grow_old _ _ (by exact hk)]; rfl⟩

/-- chainB1Same, met in a world of a region that draws. -/
theorem same_grown (e1 r1 e2 r2 : Int) (v1 v2 : Value) (A B : List Int) (w : World) (h1 : Sig w v1 A) (h2 : Sig w v2 B) (hA : A.length ≤ 1048576) (hB : B.length ≤ 1048576) (n : Nat) (os : Array Obj) :
    Calls Try.prog 12 #[.agg #[.int .u64 e1, .int .i64 r1, v1], .int .u64 e2, .int .i64 r2, v2] (Sort.grow (w.drewN n) os) fun e w' => e = .returned (.bool (sameB e1 r1 e2 r2 A B)) ∧ ∃ q os', w' = Sort.grow ((Sort.grow (w.drewN n) os).drewN q) os' := by
  refine (same_any e1 r1 e2 r2 v1 v2 A B _ (h1.below (below_grown w n os) (Nat.le_refl _)) (h2.below (below_grown w n os) (Nat.le_refl _)) hA hB).mono ?_
  rintro e w' ⟨he, q, o, rfl⟩
  exact ⟨he, q, #[o], by rw [Sort.alloc_eq_grow]; rfl⟩

/-- A row of messages: place j holds message d[j]. -/
structure Msgs (w : World) (g n : Nat) (d : Nat → Nat) (E R : Nat → Int) (S : Nat → Hdr) (Z : Nat → List Int) : Prop where
  c0 : ∀ j, j < n → w.cell? ⟨g, j * 3, none⟩ = some (.int .u64 (E (d j)))
  c1 : ∀ j, j < n → w.cell? ⟨g, j * 3 + 1, none⟩ = some (.int .i64 (R (d j)))
  c2 : ∀ j, j < n → w.cell? ⟨g, j * 3 + 2, none⟩ = some (.slice (S (d j)).1 (S (d j)).2.1 (S (d j)).2.2)
  sg : ∀ j, j < n → Sig w (.slice (S (d j)).1 (S (d j)).2.1 (S (d j)).2.2) (Z (d j))

theorem Msgs.below {w w' : World} {g n : Nat} {d : Nat → Nat} {E R : Nat → Int} {S : Nat → Hdr} {Z : Nat → List Int} (h : Msgs w g n d E R S Z) {B : Nat} (hb : Below B w w') (hB : w.heap.size ≤ B) : Msgs w' g n d E R S Z := by
  have key : ∀ p v, w.cell? p = some v → w'.cell? p = some v := fun p v hp => (hb.cell (p := p) (Nat.lt_of_lt_of_le (World.block_lt_of_cell? _ _ hp) hB)).trans hp
  exact ⟨fun i hi => key _ _ (h.c0 i hi), fun i hi => key _ _ (h.c1 i hi), fun i hi => key _ _ (h.c2 i hi), fun i hi => (h.sg i hi).below hb hB⟩

theorem msgs_of_holds {w : World} {g n : Nat} {d : Array Nat} {E R : Nat → Int} {S : Nat → Hdr} {Z : Nat → List Int} (h : Sort.HoldsK (enc E R S) 3 w g 0 d) (hd : d.size = n) (hs : ∀ j, j < n → Sig w (.slice (S d[j]!).1 (S d[j]!).2.1 (S d[j]!).2.2) (Z d[j]!)) : Msgs w g n (fun j => d[j]!) E R S Z := by
  have key : ∀ j c, j < n → c < 3 → w.cell? ⟨g, j * 3 + c, none⟩ = some (enc E R S d[j]!)[c]! := fun j c hj hc => by
    have := (h.cell (i := j) (c := c) (by omega) hc).1
    rwa [Nat.zero_add] at this
  exact ⟨fun j hj => key j 0 hj (by omega), fun j hj => key j 1 hj (by omega), fun j hj => key j 2 hj (by omega), hs⟩

set_option maxHeartbeats 2000000 in
/-- chainB1Untouched: the row holds message i at place i: true. -/
theorem untouched_pos {n b1 o1 b2 o2 b3 o3 : Nat} {E R : Nat → Int} {Z : Nat → List Int} {S : Nat → Hdr} (g ci c1 c2 c3 : Nat) (hn : n ≤ 4096) (w : World) (h : Ins w n b1 o1 b2 o2 b3 o3 E R Z) (hm : Msgs w g n (fun j => j) E R S Z) :
    Calls Try.prog 13 #[.slice (some ⟨g, 0, none⟩) n ci, .slice (some ⟨b1, o1, none⟩) n c1, .slice (some ⟨b2, o2, none⟩) n c2, .slice (some ⟨b3, o3, none⟩) n c3] w fun e w' => e = .returned (.bool true) ∧ Below w.heap.size w w' := by
  have HI : Hid (Ins w n b1 o1 b2 o2 b3 o3 E R Z) := h
  have HM : Hid (Msgs w g n (fun j => j) E R S Z) := hm
  clear h hm
  have mixed := mixedO
  go_enter Try.func13, Try.ntmps13
  go_wp2
  go_loopw [9] (fun i wr => ∃ k : Nat, k ≤ n ∧ i = .int .i64 k ∧ Below w.heap.size w wr) (fun i _ => n - (intOf i).toNat)
  case atStart => exact ⟨0, by omega, rfl, Below.refl _ _⟩
  case round =>
    obtain ⟨k, hk, rfl, hbel⟩ := hrel
    by_cases hlt : k < n
    · have hlt' : (k : Int) < (n : Int) := by omega
      have I := HI.out.below hbel (Nat.le_refl _)
      have M := HM.out.below hbel (Nat.le_refl _)
      obtain ⟨v, hv, hsv⟩ := I.cs k hlt
      have k1 := cell_grown (World.block_lt_of_cell? _ _ (I.ce k hlt)) (I.ce k hlt)
      have k2 := cell_grown (World.block_lt_of_cell? _ _ (I.cr k hlt)) (I.cr k hlt)
      have k3 := cell_grown (World.block_lt_of_cell? _ _ hv) hv
      have m0 := cell_grown (World.block_lt_of_cell? _ _ (M.c0 k hlt)) (M.c0 k hlt)
      have m1 := cell_grown (World.block_lt_of_cell? _ _ (M.c1 k hlt)) (M.c1 k hlt)
      have m2 := cell_grown (World.block_lt_of_cell? _ _ (M.c2 k hlt)) (M.c2 k hlt)
      have con := same_grown (E k) (R k) (E k) (R k) _ v (Z k) (Z k) wr (M.sg k hlt) hsv (I.zl k hlt) (I.zl k hlt)
      rw [show sameB (E k) (R k) (E k) (R k) (Z k) (Z k) = true by unfold sameB; simp] at con
      obtain ⟨x, c, rfl, _, _⟩ := hsv
      have CON : Hid (∀ nq os, Calls Try.prog 12 #[.agg #[.int .u64 (E k), .int .i64 (R k), .slice (S k).1 (S k).2.1 (S k).2.2], .int .u64 (E k), .int .i64 (R k), .slice x (Z k).length c] (Sort.grow (wr.drewN nq) os) fun e w' => e = .returned (.bool true) ∧ ∃ q os', w' = Sort.grow ((Sort.grow (wr.drewN nq) os).drewN q) os') := con
      clear con I M hv
      go_wp2
      go_quiet_grown (first | (go_at_call 12; refine Calls.grown_of (CON.out _ _)))
      go_wp2
      go_roundw
      case rel => exact ⟨k + 1, by omega, by go_num, hbel.trans ((below_grown wr nq osq).mono hbel.size)⟩
      case measure => simp [intOf]; omega
    · go_wp2
      go_ret
      exact ⟨rfl, hbel⟩
#print axioms untouched_pos

theorem Msgs.congr {w : World} {g n : Nat} {d d' : Nat → Nat} {E R : Nat → Int} {S : Nat → Hdr} {Z : Nat → List Int} (h : Msgs w g n d E R S Z) (e : ∀ j, j < n → d j = d' j) : Msgs w g n d' E R S Z :=
  ⟨fun j hj => by rw [← e j hj]; exact h.c0 j hj, fun j hj => by rw [← e j hj]; exact h.c1 j hj, fun j hj => by rw [← e j hj]; exact h.c2 j hj, fun j hj => by rw [← e j hj]; exact h.sg j hj⟩

theorem range_at (n j : Nat) (h : j < n) : (Array.range n)[j]! = j := by
  rw [getElem!_pos _ j (by simpa using h), Array.getElem_range]

/-! ### No message at all -/
set_option maxHeartbeats 400000 in
theorem untouched_zero (a a1 a2 a3 : Option Addr) (c c1 c2 c3 : Nat) (w : World) :
    Calls Try.prog 13 #[.slice a 0 c, .slice a1 0 c1, .slice a2 0 c2, .slice a3 0 c3] w fun e w' => e = .returned (.bool true) ∧ w' = w := by
  go_enter Try.func13, Try.ntmps13
  go_wp2
  refine wp_loop_rounds 1 ?_
  rw [rounds_succ]
  go_wp2
  go_ret
  exact ⟨rfl, rfl⟩

/-- nil, or the head of a new block. -/
def NilOr (g : Nat) (a : Option Addr) : Prop := a = none ∨ a = some ⟨g, 0, none⟩

set_option maxHeartbeats 400000 in
theorem build_zero (a1 a2 a3 : Option Addr) (c1 c2 c3 : Nat) (w : World) :
    Calls Try.prog 10 #[.slice a1 0 c1, .slice a2 0 c2, .slice a3 0 c3] w fun e w' => (∃ a, e = .returned (.slice a 0 0) ∧ NilOr w.heap.size a) ∧ Below w.heap.size w w' := by
  obtain ⟨i0, hi, hz0, hz1, hz2⟩ := info_parts info39
  have hmk : ∀ W : World, (Instr.makeSlice 30 (.int .i64 0) (.int .i64 0)).run Try.prog W = .ok (.slice (some ⟨W.heap.size, 0, none⟩) 0 0) (W.alloc (.cells (madeCells #[.int .u64 0, .int .i64 0, .slice none 0 0] (0 * 3)) 39)) := fun W => by
    have := run_make (P := Try.prog) W 30 39 i0 _ Try.underlying30 hi hz0 .i64 .i64 0 0 (by omega) (Int.le_refl _) (by rw [hz2]; omega) (by omega)
    rw [hz1] at this
    exact this
  clear hi hz0 hz1 hz2
  cases a2 with
  | none =>
    have hq := fun (w : World) => Lib.run_eql_slice_nil (P := Try.prog) w 24 3 none 0 c2 0 0 Try.underlying24
    go_enter Try.func10, Try.ntmps10
    go_wp2
    go_ret
    exact ⟨⟨_, rfl, Or.inl rfl⟩, Below.refl _ _⟩
  | some x =>
    have hq := fun (w : World) => Lib.run_eql_slice_nil (P := Try.prog) w 24 3 (some x) 0 c2 0 0 Try.underlying24
    go_enter Try.func10, Try.ntmps10
    go_wp2
    refine wp_loop_rounds 1 ?_
    rw [rounds_succ]
    go_wp2
    go_ret
    exact ⟨⟨_, rfl, Or.inr rfl⟩, (Below.refl _ _).alloc (Nat.le_refl _) _⟩

set_option maxHeartbeats 1000000 in
theorem cert_nil (ep : Int) (w : World) :
    Calls Try.prog 11 #[.int .u64 ep, .slice none 0 0] w fun e w' => ∃ gp, e = .returned (.pointer (some ⟨gp, 0, none⟩)) ∧ w'.cell? ⟨gp, 0, none⟩ = some (.int .u64 ep) ∧ w'.cell? ⟨gp, 1, none⟩ = some (.slice none 0 0) ∧ Below w.heap.size w w' := by
  have hcl := fun W => AnyE.slices_Clone_nil Try.cloneSil 0 0 W
  change ∀ W, Calls Try.prog 19 _ _ _ at hcl
  have hso := fun fv W => AnyF.slices_SortFunc_none { Try.sortSil with } none 0 fv W
  change ∀ fv W, Calls Try.prog 20 _ _ _ at hso
  have HCL : Hid (∀ W, Calls Try.prog 19 #[.slice none 0 0] W fun e w' => e = .returned (.slice none 0 0) ∧ w' = W) := hcl
  have HSO : Hid (∀ fv W, Calls Try.prog 20 #[.slice none 0 0, fv] W fun e w' => e = .returned (.tuple #[]) ∧ w' = W) := hso
  clear hcl hso
  go_enter Try.func11, Try.ntmps11
  go_wp2_with fail
  refine (HCL.out _).mono ?_
  rintro e w1 ⟨rfl, rfl⟩
  go_wp2_with fail
  refine (HSO.out _ _).mono ?_
  rintro e w2 ⟨rfl, rfl⟩
  go_wp2
  go_ret
  exact ⟨w2.heap.size, rfl, by simp, by simp, (Below.refl _ _).alloc (Nat.le_refl _) _⟩

/-- NewSilenceCertificate of no message: a certificate of none. -/
theorem cert_zero (ep : Int) (g : Nat) (a : Option Addr) (ha : NilOr g a) (w : World) :
    Calls Try.prog 11 #[.int .u64 ep, .slice a 0 0] w fun e w' => ∃ gp a' cap, e = .returned (.pointer (some ⟨gp, 0, none⟩)) ∧ w'.cell? ⟨gp, 0, none⟩ = some (.int .u64 ep) ∧ w'.cell? ⟨gp, 1, none⟩ = some (.slice a' 0 cap) ∧ Below w.heap.size w w' := by
  rcases ha with rfl | rfl
  · refine (cert_nil ep w).mono ?_
    rintro e w' ⟨gp, h1, h2, h3, h4⟩
    exact ⟨gp, none, 0, h1, h2, h3, h4⟩
  · refine (cert_some ep (fun _ => 0) (fun _ => 0) (fun _ => (none, 0, 0)) (fun _ => by omega) g 0 0 0 (by omega) w (fun j hj => absurd hj (by simp))).mono ?_
    rintro e w' ⟨gp, d', h1, ⟨h2, g', cap, h3, _⟩, _, _, h4⟩
    exact ⟨gp, some ⟨g', 0, none⟩, cap, h1, h2, h3, h4⟩
#print axioms cert_zero
end Go.Proofs.Qxb6600853a
