import Derived.Test.Qxb6600862aDigit
import Derived.Deep.OwnRows
import Derived.Deep.QuietTactic
import Derived.BigQuiet
import Derived.Outline
namespace Go.Proofs.Qxb6600862a
open Go.RowKit
set_option linter.unusedVariables false

/-- What the array holds after k rounds. -/
def txt (N k j : Nat) : Value := .int .u8 ((if 26 - k ≤ j then Plain.crock (N / 32 ^ (25 - j) % 32) else 0 : Nat) : Int)

theorem ownsRow_same {w w' : World} {B e size n : Nat} {v : Value} {xs : List Value} (h : w.ownsRow B e size v n xs) (hs : ∀ k, k < w.heap.size → w'.heap[k]? = w.heap[k]?) : w'.ownsRow B e size v n xs := by
  obtain ⟨h1, h2⟩ := h
  refine ⟨h1, ?_⟩
  rcases h2 with h2 | ⟨g, cap, cur, hv, hg, hh, r⟩
  · exact Or.inl h2
  · refine Or.inr ⟨g, cap, cur, hv, hg, ?_, r⟩
    rw [hs g ?_]; · exact hh
    exact (Array.getElem?_eq_some_iff.1 hh).1

theorem info5 : (Try.prog.info? 5).map (fun i => (i.zero, i.size, i.bytes)) = some (some (.int .u8 0), 1, 1) := by kernel_rfl

theorem bel_drewN {B : Nat} {a w : World} (h : Below B a w) (q : Nat) : Below B a (w.drewN q) := ⟨h.os, h.tape, h.output, h.size, h.block⟩

/-- The text of a ulid, as cells. -/
def bytesV (l : List Nat) : List Value := l.map fun b => Value.int .u8 ((b : Nat) : Int)

theorem bytesV_at (l : List Nat) (j : Nat) (u : Value) (h : (bytesV l)[j]? = some u) : j < l.length ∧ u = .int .u8 ((l.getD j 0 : Nat) : Int) := by
  unfold bytesV at h
  rw [List.getElem?_map] at h
  by_cases hj : j < l.length
  · rw [List.getElem?_eq_getElem hj] at h
    simp at h
    exact ⟨hj, by simp [hj, h]⟩
  · rw [List.getElem?_eq_none (by omega)] at h
    simp at h

theorem bytesV_one (l : List Nat) : ∀ u ∈ bytesV l, u.oneCell' = true := by
  intro u hu
  simp only [bytesV, List.mem_map] at hu
  obtain ⟨b, _, rfl⟩ := hu
  rfl

theorem txt_step (N k j : Nat) (hk : k < 26) : (if j = 25 - k then Value.int .u8 ((Plain.crock (N / 32 ^ k % 32) : Nat) : Int) else txt N k j) = txt N (k + 1) j := by
  unfold txt
  by_cases h : j = 25 - k
  · rw [if_pos h, if_pos (by omega), show 25 - j = k by omega]
  · rw [if_neg h]
    by_cases h2 : 26 - k ≤ j
    · rw [if_pos h2, if_pos (by omega)]
    · rw [if_neg h2, if_neg (by omega)]

theorem or_int (h l : Nat) (hl : l < 18446744073709551616) : bits .or .u64 ((l : Int) / 32) (IntKind.u64.wrap ((h : Int) * 576460752303423488)) = ((l / 32 ||| (h * 576460752303423488 % 18446744073709551616) : Nat) : Int) := by
  rw [IntKind.wrap_u64]
  have e1 : (l : Int) / 32 = ((l / 32 : Nat) : Int) := by omega
  have e2 : (h : Int) * 576460752303423488 % 18446744073709551616 = ((h * 576460752303423488 % 18446744073709551616 : Nat) : Int) := by omega
  rw [e1, e2]
  exact bits_or_u64_nat _ _ (by omega) (by omega)

theorem zeros_row (w : World) (N : Nat) (c : Array Value) (hc : c = (List.replicate 26 (Value.int .u8 0)).toArray) (q : Nat) (B : Nat) (hB : B = w.heap.size) : ((w.alloc (.cells c 45)).drewN q).rowIs B 45 26 (txt N 0) := by
  subst hB hc
  refine World.rowIs.congr (f := fun _ => Value.int .u8 0) (World.rowIs_alloc w _ 45 _ (fun i hi => ?_)) (fun i hi => ?_)
  · rw [List.getElem?_toArray, List.getElem?_replicate, if_pos (by simpa using hi)]
  · unfold txt; rw [if_neg (by omega)]; rfl

set_option maxHeartbeats 400000 in
/-- appendText onto nil or a row of the callers' own: the 26 digits behind it. -/
theorem append_any (hi lo : Nat) (hhi : hi < 18446744073709551616) (hlo : lo < 18446744073709551616) (v : Value) (n : Nat) (xs : List Value) (B : Nat) (w : World) (hB : B ≤ w.heap.size) (hown : w.ownsRow B 5 1 v n xs) (hn : n ≤ 2000000) :
    Calls Try.prog 16 #[.agg #[.int .u64 hi, .int .u64 lo], v] w fun e w' => ∃ v', e = .returned v' ∧ w'.ownsRow B 5 1 v' (n + 26) (xs ++ bytesV (Plain.digs 26 (Plain.num hi lo))) ∧ Below B w w' := by
  have hvl := hown.lt
  go_enter Try.func16, Try.ntmps16
  go_wp2
  go_quiet (fail)
  go_wp2
  generalize hN : Plain.num hi lo = N
  have HN0 : Hid (Plain.num hi lo = N) := hN
  clear hN
  go_loopw [6, 7, 8] (fun a b c wr => ∃ k h l : Nat, k ≤ 26 ∧ h < 18446744073709551616 ∧ l < 18446744073709551616 ∧ Hid (Plain.num h l = N / 32 ^ k) ∧ a = .int .u64 h ∧ b = .int .u64 l ∧ c = .int .i64 (25 - (k : Int)) ∧
      wr.rowIs (w.heap.size + 1) 45 26 (txt N k) ∧ Below w.heap.size w wr) (fun _ _ c _ => (intOf c + 1).toNat)
  case atStart =>
    refine ⟨0, hi, lo, by omega, hhi, hlo, by unfold Hid; rw [HN0.out]; simp, rfl, rfl, rfl, ?_, ?_⟩
    · exact zeros_row _ N _ rfl nq _ (by simp)
    · exact bel_drewN (((Below.refl _ _).alloc (Nat.le_refl _) _).alloc (by simp) _) nq
  case round =>
    obtain ⟨k, h, l, hk, hh, hl, HN, rfl, rfl, rfl, hrow, hbel⟩ := hrel
    by_cases hlt : k < 26
    · have hm : (25 : Int) - k = ((25 - k : Nat) : Int) := by omega
      rw [hm]
      have b1 : bits .and .u64 (l : Int) 31 = ((l % 32 : Nat) : Int) := by
        have := bits_and_u64_nat l 31 hl (by omega)
        rw [show ((31 : Nat) : Int) = 31 from rfl] at this
        rw [this, Nat.and_two_pow_sub_one_eq_mod l 5]
      have b2 : l % 32 < 32 := Nat.mod_lt _ (by decide)
      have hc := hrow.cell (i := 25 - k) (by omega)
      have hf := hrow.frozen (25 - k)
      go_wp2
      go_roundw
      case rel =>
        have st := Plain.enc_step h l hl
        have hd : l % 32 = N / 32 ^ k % 32 := by rw [← HN.out]; exact Plain.enc_dig h l
        refine ⟨k + 1, h / 32, _, by omega, by omega, st.2, ?_, by go_num, congrArg (Value.int .u64) (or_int h l hl), by go_num, ?_, hbel.setCell (by simp) _⟩
        · unfold Hid; rw [st.1, HN.out, Nat.pow_succ, Nat.div_div_eq_div_mul]
        · refine (hrow.set (25 - k) _).congr fun j hj => ?_
          rw [← txt_step N k j hlt, ← hd, ← crB_at (l % 32) b2]
      case measure => simp [intOf]
    · have ho := ownsRow_same hown hbel.block
      clear hown
      obtain ⟨i0, hi0, hz0, hz1, hz2⟩ := info_parts info5
      obtain ⟨news, HW⟩ : ∃ l, Hid (l = bytesV (Plain.digs 26 N)) := ⟨_, rfl⟩
      go_wp2_with (at_builtin; refine wpList_append_own _ rfl _ _ 23 rfl B 5 i0 (.int .u8 0) 1 1 Try.underlying23 hi0 hz0 hz1 hz2 rfl (by decide) _ _ _ rfl ho ⟨w.heap.size + 1, 0, none⟩ 26 26 news rfl ?c0 ?c1 ?c2 ?c3 ?c4 ?c5 ?_)
      case c0 => rw [HW.out]; simp [bytesV, Plain.length_digs]
      case c1 =>
        intro j u hj
        rw [HW.out] at hj
        obtain ⟨hj1, rfl⟩ := bytesV_at _ _ _ hj
        rw [Plain.length_digs] at hj1
        rw [Addr.add_lit, Nat.zero_add, hrow.cell hj1]
        unfold txt
        rw [if_pos (by omega), Plain.getD_digs 26 N j hj1]
      case c2 => rw [HW.out]; exact bytesV_one _
      case c3 => unfold maxLen; omega
      case c4 => omega
      case c5 => have := hbel.size; omega
      intro v' w1 hown1 hgrow _
      go_wp2
      go_ret
      refine ⟨v', rfl, by rw [HN0.out, ← HW.out]; exact hown1, ?_⟩
      exact (hbel.mono hB).grown hgrow (by have := hbel.size; omega) (fun k hk => (hvl k hk).1)
#print axioms append_any
end Go.Proofs.Qxb6600862a
