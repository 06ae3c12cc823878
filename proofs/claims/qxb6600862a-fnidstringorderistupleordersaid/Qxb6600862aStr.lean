import Derived.Test.Qxb6600862aAppend
namespace Go.Proofs.Qxb6600862a
open Go.RowKit
set_option linter.unusedVariables false

set_option maxHeartbeats 400000 in
theorem zzappend_any (hi lo : Nat) (hhi : hi < 18446744073709551616) (hlo : lo < 18446744073709551616) (v : Value) (n : Nat) (xs : List Value) (B : Nat) (w : World) (hB : B ≤ w.heap.size) (hown : w.ownsRow B 5 1 v n xs) (hn : n ≤ 2000000) :
    Calls Try.prog 10 #[.int .u64 hi, .int .u64 lo, v] w fun e w' => ∃ v', e = .returned v' ∧ w'.ownsRow B 5 1 v' (n + 26) (xs ++ bytesV (Plain.digs 26 (Plain.num hi lo))) ∧ Below B w w' := by
  have hc := fun W h1 h2 => append_any hi lo hhi hlo v n xs B W h1 h2 hn
  go_enter Try.func10, Try.ntmps10
  go_wp2_with (go_at_call 16; refine (hc _ hB hown).mono ?_; rintro e w' ⟨v', rfl, h1, h2⟩)
  go_ret
  exact ⟨v', rfl, h1, h2⟩

/-- What a row of bytes that the call owns looks like. -/
theorem owned_bytes {w : World} {B n : Nat} {v : Value} {l : List Nat} (h : w.ownsRow B 5 1 v n (bytesV l)) (hn : 0 < n) :
    ∃ g cap, v = .slice (some ⟨g, 0, none⟩) n cap ∧ B ≤ g ∧ g < w.heap.size ∧ n ≤ cap ∧ cap ≤ maxLen ∧ l.length = n ∧ ∀ j, j < n → w.cell? ⟨g, j, none⟩ = some (.int .u8 ((l.getD j 0 : Nat) : Int)) := by
  obtain ⟨h1, h2⟩ := h
  have hl : l.length = n := by simpa [bytesV] using h1
  rcases h2 with ⟨_, h0⟩ | ⟨g, cap, cur, hv, hg, hh, hc, hm, hs, ht⟩
  · omega
  · refine ⟨g, cap, hv, hg, (Array.getElem?_eq_some_iff.1 hh).1, hc, hm, hl, fun j hj => ?_⟩
    simp only [World.cell?, hh]
    have e : (cur.toList.take (n * 1))[j]? = (bytesV l)[j]? := by rw [ht]
    rw [List.getElem?_take_of_lt (by omega)] at e
    rw [Array.getElem?_toList] at e
    simp only [Option.isSome_none, Bool.false_eq_true, if_false]
    rw [e]
    simp [bytesV, List.getElem?_eq_getElem (show j < l.length by omega)]

theorem getD_cast (l : List Nat) (i : Nat) : (l.map fun b : Nat => (b : Int)).getD i 0 = ((l.getD i 0 : Nat) : Int) := by
  by_cases h : i < l.length
  · simp [List.getD_eq_getElem?_getD, h]
  · simp [List.getD_eq_getElem?_getD, h]

/-- The string of some bytes. -/
def strN (l : List Nat) : ByteArray := strOfNums (l.map fun b : Nat => (b : Int))

set_option maxHeartbeats 400000 in
theorem string_any (kd hi lo : Nat) (hk : 0 < kd) (hk2 : kd < 256) (hhi : hi < 18446744073709551616) (hlo : lo < 18446744073709551616) (w : World) :
    Calls Try.prog 18 #[.agg #[.int .u8 kd, .int .u64 hi, .int .u64 lo]] w fun e w' => e = .returned (.string (strN (kd :: Plain.digs 26 (Plain.num hi lo)))) ∧ Below w.heap.size w w' := by
  have hk0 : ((kd : Int) == 0) = false := by simp; omega
  go_enter Try.func18, Try.ntmps18
  go_wp2_with fail
  refine (append_any hi lo hhi hlo _ 1 (bytesV [kd]) w.heap.size _ (by simp; omega) ?_ (by omega)).mono ?_
  · refine ⟨rfl, Or.inr ⟨w.heap.size + 1, 1, #[.int .u8 kd], rfl, by omega, ?_, by omega, by unfold maxLen; omega, rfl, rfl⟩⟩
    have := heap_alloc_new (w.alloc (Obj.cells #[Value.int IntKind.u8 ↑kd, Value.int IntKind.u64 ↑hi, Value.int IntKind.u64 ↑lo] 43)) (Obj.cells #[Value.int IntKind.u8 ↑kd] 5)
    simpa using this
  · rintro e w' ⟨v', rfl, ho, hb⟩
    obtain ⟨g, cap, hv, hg1, hg2, hc1, hc2, hlen, hcell⟩ := owned_bytes (l := kd :: Plain.digs 26 (Plain.num hi lo)) ho (by omega)
    have hcv := run_convert_bytes_arg (P := Try.prog) w' 23 5 Try.underlying23 Try.underlying5 g 0 27 cap ((kd :: Plain.digs 26 (Plain.num hi lo)).map fun b : Nat => (b : Int)) (by rw [List.length_map]; exact hlen) (fun i h27 => by rw [Nat.zero_add, hcell i h27, getD_cast]) 9 Try.underlying9
    rw [hv]
    change (convert 23 9 (.slice (some ⟨g, 0, none⟩) 27 cap)).run Try.prog w' = .ok (.string (strN (kd :: Plain.digs 26 (Plain.num hi lo)))) w' at hcv
    obtain ⟨S, HS⟩ : ∃ S, Hid (S = strN (kd :: Plain.digs 26 (Plain.num hi lo))) := ⟨_, rfl⟩
    rw [← HS.out] at hcv
    clear hcell hlen ho hv
    go_wp2
    go_ret
    exact ⟨by rw [← HS.out]; rfl, ((((Below.refl _ _).alloc (Nat.le_refl _) _).alloc (by simp) _).trans hb)⟩
set_option maxHeartbeats 400000 in
theorem string_zero (hi lo : Nat) (w : World) :
    Calls Try.prog 18 #[.agg #[.int .u8 0, .int .u64 hi, .int .u64 lo]] w fun e w' => e = .returned (.string ⟨#[]⟩) ∧ Below w.heap.size w w' := by
  go_enter Try.func18, Try.ntmps18
  go_wp2
  go_ret
  exact ⟨rfl, (Below.refl _ _).alloc (Nat.le_refl _) _⟩

/-- What the ID's String is. -/
def idStr (kd hi lo : Nat) : ByteArray := if kd = 0 then ⟨#[]⟩ else strN (kd :: Plain.digs 26 (Plain.num hi lo))

set_option maxHeartbeats 400000 in
theorem idstring_any (kd hi lo : Nat) (hk2 : kd < 256) (hhi : hi < 18446744073709551616) (hlo : lo < 18446744073709551616) (w : World) :
    Calls Try.prog 14 #[.int .u8 kd, .int .u64 hi, .int .u64 lo] w fun e w' => e = .returned (.string (idStr kd hi lo)) ∧ Below w.heap.size w w' := by
  by_cases hk : kd = 0
  · subst hk
    go_enter Try.func14, Try.ntmps14
    go_wp2_with fail
    refine (string_zero hi lo _).mono ?_
    rintro e w' ⟨rfl, hb⟩
    go_wp2
    go_ret
    exact ⟨rfl, hb⟩
  · go_enter Try.func14, Try.ntmps14
    go_wp2_with fail
    refine (string_any kd hi lo (by omega) hk2 hhi hlo _).mono ?_
    rintro e w' ⟨rfl, hb⟩
    obtain ⟨S, HS⟩ : ∃ S, Hid (S = strN (kd :: Plain.digs 26 (Plain.num hi lo))) := ⟨_, rfl⟩
    rw [← HS.out]
    go_wp2
    go_ret
    exact ⟨by unfold idStr; rw [if_neg hk, ← HS.out]; rfl, hb⟩
#print axioms string_any
#print axioms idstring_any
end Go.Proofs.Qxb6600862a
