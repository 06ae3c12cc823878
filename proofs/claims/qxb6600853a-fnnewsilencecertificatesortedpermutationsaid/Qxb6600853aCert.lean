import Derived.Test.Qxb6600853aBytes
import Derived.Test.Qxb6600853aLaid
import Derived.Shelf.SlSortCmp.NoneTotal
import Derived.Shelf.SlicesE.Clone
namespace Go.Proofs
namespace Qxb6600853a
open Go.Shelf Go.RowKit Go.Lib
set_option linter.unusedVariables false

/-- What a signature's header is: address, length, capacity. -/
abbrev Hdr := Option Addr × Nat × Nat

/-- The three cells of message i. -/
def enc (E R : Nat → Int) (S : Nat → Hdr) (i : Nat) : List Value := [.int .u64 (E i), .int .i64 (R i), .slice (S i).1 (S i).2.1 (S i).2.2]

theorem enc_length (E R : Nat → Int) (S : Nat → Hdr) (i : Nat) : (enc E R S i).length = 3 := rfl

theorem enc_one (E R : Nat → Int) (S : Nat → Hdr) (i : Nat) : ∀ v ∈ enc E R S i, v.oneCell' = true := by
  intro v hv
  simp only [enc, List.mem_cons, List.not_mem_nil, or_false] at hv
  rcases hv with rfl | rfl | rfl <;> rfl

def cf (R : Nat → Int) (i j : Nat) : Int := R i - R j

theorem lt_cf (R : Nat → Int) (i j : Nat) : ltOf (cf R) i j = decide (R i < R j) := by
  unfold ltOf cf
  by_cases h : R i < R j
  · rw [decide_eq_true h, decide_eq_true (by omega)]
  · rw [decide_eq_false h, decide_eq_false (by omega)]

theorem swo (R : Nat → Int) : Sort.SWO (ltOf (cf R)) where
  irrefl x := by rw [lt_cf]; simp
  trans x y z h1 h2 := by rw [lt_cf] at *; simp at *; omega
  ntrans x y z h1 h2 := by rw [lt_cf] at *; simp at *; omega

set_option maxHeartbeats 1000000 in
/-- The comparison: 'a.Replica - b.Replica', exact within the bounds. -/
theorem closure21 (e1 r1 e2 r2 : Int) (s1 s2 : Hdr) (h1 : -4611686018427387904 < r1 ∧ r1 < 4611686018427387904) (h2 : -4611686018427387904 < r2 ∧ r2 < 4611686018427387904) (W : World) :
    Calls Try.prog 21 #[.agg #[.int .u64 e1, .int .i64 r1, .slice s1.1 s1.2.1 s1.2.2], .agg #[.int .u64 e2, .int .i64 r2, .slice s2.1 s2.2.1 s2.2.2]] W fun e w' => e = .returned (.int .i64 (r1 - r2)) ∧ ∃ q os', w' = Sort.grow (W.drewN q) os' := by
  obtain ⟨a1, b1⟩ := h1
  obtain ⟨a2, b2⟩ := h2
  go_enter Try.func21, Try.ntmps21
  go_wp2
  go_ret
  exact ⟨rfl, 0, _, by rw [Sort.alloc_eq_grow, Sort.alloc_eq_grow, Sort.grow_grow]; rfl⟩

theorem cmpLays (E R : Nat → Int) (S : Nat → Hdr) (hR : ∀ i, -4611686018427387904 < R i ∧ R i < 4611686018427387904) (blk off size : Nat) (w : World) : CmpLays Try.prog 21 #[] (enc E R S) 3 (cf R) blk off size w :=
  fun _ _ _ _ x y => closure21 (E x) (R x) (E y) (R y) (S x) (S y) (hR x) (hR y) _

theorem info39 : (Try.prog.info? 39).map (fun i => (i.zero, i.size, i.bytes)) = some (some (.agg #[.int .u64 0, .int .i64 0, .slice none 0 0]), 3, 40) := by kernel_rfl

/-- The sort turns its own row and lays blocks: below them all is as it was. -/
theorem below_sortWorld {α : Type} [Inhabited α] (en : α → List Value) (k : Nat) (w : World) (blk off m : Nat) (d : Array α) (os : Array Obj) (B : Nat) (hB : B ≤ blk) (hB2 : B ≤ w.heap.size) : Below B w (sortWorldK en k w blk off m d os) := by
  refine ⟨rfl, rfl, rfl, ?_, fun j hj => ?_⟩
  · exact size_sortWorldK_c en k w blk off m d os
  · unfold sortWorldK
    rw [Sort.heap_grow_old _ _ (by show j < (Sort.putRowK en k (Sort.ahead w m) blk off d).heap.size; rw [Sort.size_putRowK]; exact Nat.lt_of_lt_of_le hj hB2)]
    show (Sort.mapBlock (Sort.ahead w m) blk _).heap[j]? = _
    simp only [Sort.mapBlock, Array.getElem?_modify]
    rw [if_neg (by omega)]
    rfl

/-- What a certificate looks like in memory: its epoch, and a row of n messages, the indices d. -/
def CertAt (E R : Nat → Int) (S : Nat → Hdr) (w : World) (gp : Nat) (ep : Int) (n : Nat) (d : Array Nat) : Prop :=
  w.cell? ⟨gp, 0, none⟩ = some (.int .u64 ep) ∧ ∃ g cap, w.cell? ⟨gp, 1, none⟩ = some (.slice (some ⟨g, 0, none⟩) n cap) ∧ g < w.heap.size ∧ d.size = n ∧ Sort.HoldsK (enc E R S) 3 w g 0 d

theorem owned_holds (E R : Nat → Int) (S : Nat → Hdr) {w : World} {B n : Nat} {v : Value} (h : w.ownsRow B 39 3 v n (Sort.flatK (enc E R S) 3 (Array.range n)).toList) (hv : v ≠ .slice none 0 0) :
    ∃ g cap, v = .slice (some ⟨g, 0, none⟩) n cap ∧ B ≤ g ∧ g < w.heap.size ∧ Sort.HoldsK (enc E R S) 3 w g 0 (Array.range n) := by
  obtain ⟨h1, h2⟩ := h
  rcases h2 with ⟨h0, _⟩ | ⟨g, cap, cur, hv', hg, hh, hc, hm, hs, ht⟩
  · exact absurd h0 hv
  · refine ⟨g, cap, hv', hg, (Array.getElem?_eq_some_iff.1 hh).1, fun j hj => ?_⟩
    have hj3 : j < n * 3 := by simpa using hj
    constructor
    · simp only [World.cell?, hh]
      have e : (cur.toList.take (n * 3))[j]? = (Sort.flatK (enc E R S) 3 (Array.range n)).toList[j]? := by rw [ht]
      rw [List.getElem?_take_of_lt hj3, Array.getElem?_toList, Array.getElem?_toList] at e
      simp only [Option.isSome_none, Bool.false_eq_true, if_false, Nat.zero_add]
      rw [e, Array.getElem?_eq_getElem hj, getElem!_pos _ j hj]
      rfl
    · simp [World.frozen?, hh]

set_option maxHeartbeats 2000000 in
/-- NewSilenceCertificate, handed a slice that is not nil. -/
theorem cert_some (ep : Int) (E R : Nat → Int) (S : Nat → Hdr) (hR : ∀ i, -4611686018427387904 < R i ∧ R i < 4611686018427387904) (gi oi ci n : Nat) (hn : n ≤ 4096) (w : World) (hH : Sort.HoldsK (enc E R S) 3 w gi oi (Array.range n)) :
    Calls Try.prog 11 #[.int .u64 ep, .slice (some ⟨gi, oi, none⟩) n ci] w fun e w' =>
      ∃ gp d', e = .returned (.pointer (some ⟨gp, 0, none⟩)) ∧ CertAt E R S w' gp ep n d' ∧ Sort.PermIn 0 n (Array.range n) d' ∧ Sort.SortedIn (ltOf (cf R)) 0 n d' ∧ Below w.heap.size w w' := by
  obtain ⟨i0, hi, hz0, hz1, hz2⟩ := info_parts info39
  have hcl := AnyE.slices_Clone Try.cloneSil i0 _ 3 40 hi hz0 hz1 hz2 rfl (by decide) Try.sizeOf39 gi oi n ci (Sort.flatK (enc E R S) 3 (Array.range n)).toList w (by simp) (by unfold maxLen; omega) (by omega)
    (fun j u hj => by
      rw [Array.getElem?_toList] at hj
      obtain ⟨hj1, hj2⟩ := Array.getElem?_eq_some_iff.1 hj
      have := (hH j hj1).1
      rw [getElem!_pos _ j hj1] at this
      rw [this, ← hj2]
      rfl)
    (fun u hu => by
      obtain ⟨j, hj1, hj2⟩ := List.getElem_of_mem hu
      rw [Array.getElem_toList] at hj2
      have hj3 : j < n * 3 := by simpa using hj1
      have g := Sort.get_flatK (enc E R S) 3 (Array.range n) j (by simpa using hj3)
      rw [getElem!_pos _ j (by simpa using hj3), hj2] at g
      rw [g]
      have : j % 3 < (enc E R S (Array.range n)[j / 3]!).length := by rw [enc_length]; omega
      rw [getElem!_pos (enc E R S (Array.range n)[j / 3]!) (j % 3) this]
      exact enc_one E R S _ _ (List.getElem_mem this))
  change Calls Try.prog 19 _ _ _ at hcl
  have eg : ∀ args w, (callFunc 21 args).run Try.prog w = .ok (.enter 21 args) w := enters_of Try.func21 (by kernel_rfl) rfl
  have hso : ∀ (g cap : Nat) (W : World), Sort.HoldsK (enc E R S) 3 W g 0 (Array.range n) → g < W.heap.size →
      Calls Try.prog 20 #[.slice (some ⟨g, 0, none⟩) n cap, .func (.func 21) #[] #[]] W fun e w' => e = .returned (.tuple #[]) ∧ ∃ d' q os, Sort.PermIn 0 n (Array.range n) d' ∧ Sort.SortedIn (ltOf (cf R)) 0 n d' ∧ w' = sortWorldK (enc E R S) 3 W g 0 q d' os := by
    intro g cap W h1 h2
    have h := AnyQ.slices_SortFunc Try.sortSil 3 Try.isAgg39 Try.sizeOf39 (enc E R S) (enc_length E R S) (enc_one E R S) (cf R) (swo R) 21 #[] g 0 cap (Array.range n) W eg (cmpLays E R S hR g 0 _ W) h1 h2 (by simp; omega)
    rw [Array.size_range] at h
    exact h
  have HCL : Hid (Calls Try.prog 19 #[.slice (some ⟨gi, oi, none⟩) n ci] w fun e w' => ∃ v', e = .returned v' ∧ w'.ownsRow w.heap.size 39 3 v' n (Sort.flatK (enc E R S) 3 (Array.range n)).toList ∧ v' ≠ .slice none 0 0 ∧ Below w.heap.size w w') := hcl
  have HSO : Hid (∀ (g cap : Nat) (W : World), Sort.HoldsK (enc E R S) 3 W g 0 (Array.range n) → g < W.heap.size →
      Calls Try.prog 20 #[.slice (some ⟨g, 0, none⟩) n cap, .func (.func 21) #[] #[]] W fun e w' => e = .returned (.tuple #[]) ∧ ∃ d' q os, Sort.PermIn 0 n (Array.range n) d' ∧ Sort.SortedIn (ltOf (cf R)) 0 n d' ∧ w' = sortWorldK (enc E R S) 3 W g 0 q d' os) := hso
  clear hso hcl hz0 hz1 hz2 hi hH
  go_enter Try.func11, Try.ntmps11
  go_wp2_with fail
  refine HCL.out.mono ?_
  rintro e w1 ⟨v1, rfl, o1, hv1, hb1⟩
  obtain ⟨g, cap, rfl, hg1, hg2, hH1⟩ := owned_holds E R S o1 hv1
  clear o1 hv1
  go_wp2_with fail
  refine (HSO.out g cap w1 hH1 hg2).mono ?_
  rintro e w2 ⟨rfl, d', q, os, hp, hs, rfl⟩
  have hds : d'.size = n := by simpa using hp.1
  have hH2 := holdsK_sortWorldK_c (enc E R S) 3 w1 g 0 (Array.range n) d' q os hH1 hg2 (by simpa using hds)
  have hb2 := below_sortWorld (enc E R S) 3 w1 g 0 q d' os w.heap.size hg1 hb1.size
  have hsz := size_sortWorldK_c (enc E R S) 3 w1 g 0 q d' os
  generalize sortWorldK (enc E R S) 3 w1 g 0 q d' os = w2 at *
  clear hH1
  go_wp2
  go_ret
  refine ⟨w2.heap.size, d', rfl, ⟨by simp, g, cap, by simp, by simp; omega, hds, ?_⟩, hp, hs, (hb1.trans hb2).alloc (by have := hb1.size; omega) _⟩
  rw [Sort.alloc_eq_grow]
  exact Sort.holdsK_grow _ _ _ _ _ _ _ (by omega) hH2
#print axioms cert_some
end Qxb6600853a
end Go.Proofs
