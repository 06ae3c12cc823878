import Derived.Test.Qxb6600853aCert
import Derived.Test.Qxb6600853aMessage
import Derived.Test.Qxb6600853aMessageNil
namespace Go.Proofs.Qxb6600853a
open Go.RowKit
set_option linter.unusedVariables false

/-- The three slices of n that came in, in w: the numbers E, R, and the signatures' bytes Z. -/
structure Ins (w : World) (n b1 o1 b2 o2 b3 o3 : Nat) (E R : Nat → Int) (Z : Nat → List Int) : Prop where
  ce : ∀ i, i < n → w.cell? ⟨b1, o1 + i, none⟩ = some (.int .u64 (E i))
  cr : ∀ i, i < n → w.cell? ⟨b2, o2 + i, none⟩ = some (.int .i64 (R i))
  cs : ∀ i, i < n → ∃ v, w.cell? ⟨b3, o3 + i, none⟩ = some v ∧ Sig w v (Z i)
  zl : ∀ i, i < n → (Z i).length ≤ 1048576

theorem Ins.below {w w' : World} {n b1 o1 b2 o2 b3 o3 : Nat} {E R : Nat → Int} {Z : Nat → List Int} (h : Ins w n b1 o1 b2 o2 b3 o3 E R Z) {B : Nat} (hb : Below B w w') (hB : w.heap.size ≤ B) : Ins w' n b1 o1 b2 o2 b3 o3 E R Z := by
  have key : ∀ p v, w.cell? p = some v → w'.cell? p = some v := fun p v hp => (hb.cell (p := p) (Nat.lt_of_lt_of_le (World.block_lt_of_cell? _ _ hp) hB)).trans hp
  exact ⟨fun i hi => key _ _ (h.ce i hi), fun i hi => key _ _ (h.cr i hi), fun i hi => by obtain ⟨v, hv, hs⟩ := h.cs i hi; exact ⟨v, key _ _ hv, hs.below hb hB⟩, h.zl⟩

/-- chainB1Message: a fresh message i. -/
theorem message_any {n b1 o1 b2 o2 b3 o3 : Nat} {E R : Nat → Int} {Z : Nat → List Int} (c1 c2 c3 i : Nat) (hi : i < n) (hn : n ≤ 4096) (w : World) (h : Ins w n b1 o1 b2 o2 b3 o3 E R Z) :
    Calls Try.prog 15 #[.slice (some ⟨b1, o1, none⟩) n c1, .slice (some ⟨b2, o2, none⟩) n c2, .slice (some ⟨b3, o3, none⟩) n c3, .int .i64 i] w fun e w' =>
      ∃ s : Hdr, e = .returned (.agg #[.int .u64 (E i), .int .i64 (R i), .slice s.1 s.2.1 s.2.2]) ∧ Sig w' (.slice s.1 s.2.1 s.2.2) (Z i) ∧ Below w.heap.size w w' := by
  obtain ⟨v, hv, hs⟩ := h.cs i hi
  obtain ⟨a, c, rfl, hnil, hc⟩ := hs
  cases a with
  | none =>
    obtain ⟨h0, rfl⟩ := hnil rfl
    have hz : Z i = [] := List.eq_nil_of_length_eq_zero h0
    rw [h0] at hv
    refine (message_nil b1 o1 c1 b2 o2 c2 b3 o3 c3 n i hi hn (E i) (R i) w (h.ce i hi) (h.cr i hi) hv).mono ?_
    rintro e w' ⟨rfl, rfl⟩
    refine ⟨(none, 0, 0), rfl, ⟨none, 0, by rw [hz]; rfl, fun _ => ⟨by rw [hz]; rfl, rfl⟩, fun j hj => by rw [hz] at hj; exact absurd hj (Nat.not_lt_zero _)⟩, ?_⟩
    exact ((Below.refl _ _).alloc (Nat.le_refl _) _).drew
  | some x =>
    refine (message_some b1 o1 c1 b2 o2 c2 b3 o3 c3 n i hi hn (E i) (R i) x c (Z i) (h.zl i hi) w (h.ce i hi) (h.cr i hi) hv ⟨some x, c, rfl, hnil, hc⟩).mono ?_
    rintro e w' ⟨rfl, rfl⟩
    refine ⟨(some ⟨w.heap.size + 1, 0, none⟩, (Z i).length, (Z i).length), rfl, ⟨_, _, rfl, fun h => (by cases h), fun j hj => ⟨w.heap.size + 1, 0, rfl, ?_⟩⟩, ?_⟩
    · rw [show w.heap.size + 1 = (w.alloc (.cells #[.int .u64 (E i), .int .i64 (R i), .slice (some ⟨w.heap.size + 1, 0, none⟩) (Z i).length (Z i).length] 39)).heap.size by simp]
      show (World.alloc _ _).cell? _ = _
      simp [hj]
    · exact (((Below.refl _ _).alloc (Nat.le_refl _) _).alloc (by simp) _).drew
#print axioms message_any

def zcell (t : Nat) : Value := (#[Value.int .u64 0, Value.int .i64 0, Value.slice none 0 0] : Array Value)[t % 3]!

/-- The row's cells after k messages. -/
def rowF (E R : Nat → Int) (S : Nat → Hdr) (k t : Nat) : Value := if t < k * 3 then (enc E R S (t / 3))[t % 3]! else zcell t

theorem rowF_step (E R : Nat → Int) (S : Nat → Hdr) (k t : Nat) (s : Hdr) :
    (if t = k * 3 + 2 then Value.slice s.1 s.2.1 s.2.2 else if t = k * 3 + 1 then .int .i64 (R k) else if t = k * 3 then .int .u64 (E k) else rowF E R S k t) = rowF E R (fun i => if i = k then s else S i) (k + 1) t := by
  unfold rowF
  by_cases h2 : t = k * 3 + 2
  · subst h2
    rw [if_pos rfl, if_pos (by omega), show (k * 3 + 2) / 3 = k by omega, show (k * 3 + 2) % 3 = 2 by omega]
    simp [enc]
  · rw [if_neg h2]
    by_cases h1 : t = k * 3 + 1
    · subst h1
      rw [if_pos rfl, if_pos (by omega), show (k * 3 + 1) / 3 = k by omega, show (k * 3 + 1) % 3 = 1 by omega]
      simp [enc]
    · rw [if_neg h1]
      by_cases h0 : t = k * 3
      · subst h0
        rw [if_pos rfl, if_pos (by omega), show (k * 3) / 3 = k by omega, show (k * 3) % 3 = 0 by omega]
        simp [enc]
      · rw [if_neg h0]
        by_cases hl : t < k * 3
        · rw [if_pos hl, if_pos (by omega)]
          have : t / 3 ≠ k := by omega
          simp [enc, this]
        · rw [if_neg hl, if_neg (by omega)]

def notByte : Value → Bool
  | .int .u8 _ => false
  | _ => true

theorem notByte_rowF (E R : Nat → Int) (S : Nat → Hdr) (k t : Nat) : notByte (rowF E R S k t) = true := by
  have h : t % 3 = 0 ∨ t % 3 = 1 ∨ t % 3 = 2 := by omega
  unfold rowF zcell enc
  rcases h with h | h | h <;> rw [h] <;> split <;> rfl

/-- A store over a cell that holds no byte leaves the signatures alone. -/
theorem Sig.setCell {w : World} {v : Value} {bs : List Int} (h : Sig w v bs) {q : Addr} {u u0 : Value} (h0 : w.cell? q = some u0) (hb : notByte u0 = true) : Sig (w.setCell q u) v bs := by
  obtain ⟨a, c, hv, hn, hc⟩ := h
  refine ⟨a, c, hv, hn, fun j hj => ?_⟩
  obtain ⟨g, o, ha, hg⟩ := hc j hj
  refine ⟨g, o, ha, ?_⟩
  by_cases e : q = ⟨g, o + j, none⟩
  · rw [e, hg] at h0
    cases h0
    cases hb
  · rw [← hg]
    exact World.cell?_setCell_other w _ _ _ e

/-- One message stored at place k. -/
theorem store_step {w1 : World} {go m k : Nat} {E R : Nat → Int} {S : Nat → Hdr} {Z : Nat → List Int} (s : Hdr) (hrow : w1.rowIs go 39 m (rowF E R S k)) (hk : k * 3 + 2 < m) (hs : Sig w1 (.slice s.1 s.2.1 s.2.2) (Z k)) (hS : ∀ i, i < k → Sig w1 (.slice (S i).1 (S i).2.1 (S i).2.2) (Z i)) :
    (((w1.setCell ⟨go, k * 3, none⟩ (.int .u64 (E k))).setCell ⟨go, k * 3 + 1, none⟩ (.int .i64 (R k))).setCell ⟨go, k * 3 + 2, none⟩ (.slice s.1 s.2.1 s.2.2)).rowIs go 39 m (rowF E R (fun i => if i = k then s else S i) (k + 1)) ∧
    (∀ i, i < k + 1 → Sig (((w1.setCell ⟨go, k * 3, none⟩ (.int .u64 (E k))).setCell ⟨go, k * 3 + 1, none⟩ (.int .i64 (R k))).setCell ⟨go, k * 3 + 2, none⟩ (.slice s.1 s.2.1 s.2.2)) (.slice ((fun i => if i = k then s else S i) i).1 ((fun i => if i = k then s else S i) i).2.1 ((fun i => if i = k then s else S i) i).2.2) (Z i)) := by
  have r1 := hrow.set (k * 3) (.int .u64 (E k))
  have r2 := r1.set (k * 3 + 1) (.int .i64 (R k))
  have r3 := r2.set (k * 3 + 2) (.slice s.1 s.2.1 s.2.2)
  have keep : ∀ v bs, Sig w1 v bs → Sig (((w1.setCell ⟨go, k * 3, none⟩ (.int .u64 (E k))).setCell ⟨go, k * 3 + 1, none⟩ (.int .i64 (R k))).setCell ⟨go, k * 3 + 2, none⟩ (.slice s.1 s.2.1 s.2.2)) v bs := by
    intro v bs h
    have h1 := h.setCell (u := .int .u64 (E k)) (hrow.cell (i := k * 3) (by omega)) (notByte_rowF _ _ _ _ _)
    have h2 := h1.setCell (u := .int .i64 (R k)) (r1.cell (i := k * 3 + 1) (by omega)) (by rw [if_neg (by omega)]; exact notByte_rowF _ _ _ _ _)
    exact h2.setCell (u := .slice s.1 s.2.1 s.2.2) (r2.cell (i := k * 3 + 2) (by omega)) (by rw [if_neg (by omega), if_neg (by omega)]; exact notByte_rowF _ _ _ _ _)
  refine ⟨r3.congr fun t ht => ?_, fun i hi => ?_⟩
  · exact rowF_step E R S k t s
  · by_cases e : i = k
    · subst e
      simp only [if_true]
      exact keep _ _ hs
    · simp only [if_neg e]
      exact keep _ _ (hS i (by omega))

theorem holds_rowF {w : World} {go n : Nat} {E R : Nat → Int} {S : Nat → Hdr} (h : w.rowIs go 39 (n * 3) (rowF E R S n)) : Sort.HoldsK (enc E R S) 3 w go 0 (Array.range n) := by
  intro j hj
  have hj3 : j < n * 3 := by simpa using hj
  rw [Nat.zero_add]
  refine ⟨?_, h.frozen j⟩
  rw [h.cell hj3, Sort.get_flatK _ _ _ _ (by simpa using hj3)]
  unfold rowF
  rw [if_pos hj3, getElem!_pos (Array.range n) (j / 3) (by simp; omega), Array.getElem_range]
  rfl

set_option maxHeartbeats 2000000 in
theorem build_some {n b1 o1 b2 o2 b3 o3 : Nat} {E R : Nat → Int} {Z : Nat → List Int} (c1 c2 c3 : Nat) (hn : n ≤ 4096) (w : World) (h : Ins w n b1 o1 b2 o2 b3 o3 E R Z) :
    Calls Try.prog 10 #[.slice (some ⟨b1, o1, none⟩) n c1, .slice (some ⟨b2, o2, none⟩) n c2, .slice (some ⟨b3, o3, none⟩) n c3] w fun e w' =>
      ∃ S : Nat → Hdr, e = .returned (.slice (some ⟨w.heap.size, 0, none⟩) n n) ∧ Sort.HoldsK (enc E R S) 3 w' w.heap.size 0 (Array.range n) ∧ (∀ i, i < n → Sig w' (.slice (S i).1 (S i).2.1 (S i).2.2) (Z i)) ∧ Below w.heap.size w w' := by
  have HI : Hid (Ins w n b1 o1 b2 o2 b3 o3 E R Z) := h
  clear h
  obtain ⟨i0, hi, hz0, hz1, hz2⟩ := info_parts info39
  have hmk : ∀ W : World, (Instr.makeSlice 30 (.int .i64 n) (.int .i64 n)).run Try.prog W = .ok (.slice (some ⟨W.heap.size, 0, none⟩) n n) (W.alloc (.cells (madeCells #[.int .u64 0, .int .i64 0, .slice none 0 0] (n * 3)) 39)) := fun W => by
    have := run_make (P := Try.prog) W 30 39 i0 _ Try.underlying30 hi hz0 .i64 .i64 n n (by omega) (Int.le_refl _) (by rw [hz2]; omega) (by omega)
    rw [hz1] at this
    exact this
  have hq := fun (w : World) => Lib.run_eql_slice_nil (P := Try.prog) w 24 3 (some ⟨b2, o2, none⟩) n c2 0 0 Try.underlying24
  clear hi hz0 hz1 hz2
  go_enter Try.func10, Try.ntmps10
  go_wp2
  go_loopw [9] (fun i wr => ∃ (k : Nat) (S : Nat → Hdr), k ≤ n ∧ i = .int .i64 k ∧ wr.rowIs w.heap.size 39 (n * 3) (rowF E R S k) ∧ Hid (∀ i, i < k → Sig wr (.slice (S i).1 (S i).2.1 (S i).2.2) (Z i)) ∧ Below w.heap.size w wr) (fun i _ => n - (intOf i).toNat)
  case atStart =>
    refine ⟨0, fun _ => (none, 0, 0), by omega, rfl, ?_, fun i hi => absurd hi (Nat.not_lt_zero _), (Below.refl _ _).alloc (Nat.le_refl _) _⟩
    have := World.rowIs_alloc w (madeCells #[.int .u64 0, .int .i64 0, .slice none 0 0] (n * 3)) 39 (rowF E R (fun _ => (none, 0, 0)) 0) (fun t ht => by
      rw [Array.getElem?_eq_getElem ht]
      unfold rowF zcell
      rw [if_neg (by omega)]
      simp [madeCells])
    rw [size_madeCells] at this
    exact this
  case round =>
    obtain ⟨k, S, hk, rfl, hrow, HS, hbel⟩ := hrel
    by_cases hlt : k < n
    · have hlt' : (k : Int) < (n : Int) := by omega
      have hins : Ins wr n b1 o1 b2 o2 b3 o3 E R Z := HI.out.below hbel (Nat.le_refl _)
      have HINS : Hid (Ins wr n b1 o1 b2 o2 b3 o3 E R Z) := hins
      clear hins
      go_wp2_with fail
      refine (message_any c1 c2 c3 k hlt hn wr HINS.out).mono ?_
      rintro e w1 ⟨s, rfl, hs1, hb1⟩
      have hrow1 : w1.rowIs w.heap.size 39 (n * 3) (rowF E R S k) := hrow.of_block (hb1.block _ hrow.lt)
      have HS1 : Hid (∀ i, i < k → Sig w1 (.slice (S i).1 (S i).2.1 (S i).2.2) (Z i)) := fun i hi => (HS.out i hi).below hb1 (Nat.le_refl _)
      have HS2 : Hid (Sig w1 (.slice s.1 s.2.1 s.2.2) (Z k)) := hs1
      have hbel1 : Below w.heap.size w w1 := hbel.trans (hb1.mono hbel.size)
      clear hs1 HS hbel hrow
      have st := store_step s hrow1 (by omega) HS2.out HS1.out
      have ST : Hid _ := st
      have q0 := hrow1.cell (i := k * 3) (by omega)
      have q1 := hrow1.cell (i := k * 3 + 1) (by omega)
      have q2 := hrow1.cell (i := k * 3 + 2) (by omega)
      have f0 := hrow1.frozen (k * 3)
      have f1 := hrow1.frozen (k * 3 + 1)
      have f2 := hrow1.frozen (k * 3 + 2)
      clear st
      go_wp2
      go_roundw
      case rel => exact ⟨k + 1, _, by omega, by go_num, ST.out.1, ST.out.2, ((hbel1.setCell (Nat.le_refl _) _).setCell (Nat.le_refl _) _).setCell (Nat.le_refl _) _⟩
      case measure => simp [intOf]; omega
    · obtain rfl : k = n := by omega
      go_wp2
      go_ret
      exact ⟨S, rfl, holds_rowF hrow, HS.out, hbel⟩
#print axioms build_some
end Go.Proofs.Qxb6600853a
