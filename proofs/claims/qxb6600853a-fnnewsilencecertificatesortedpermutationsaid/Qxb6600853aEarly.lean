import Derived.Test.Qxb6600853aBuild
namespace Go.Proofs.Qxb6600853a
open Go.RowKit
set_option linter.unusedVariables false

/-- A slice of integers: n of them, in cells behind its address. -/
def IRow (kd : IntKind) (w : World) (a : Option Addr) (n : Nat) (E : Nat → Int) : Prop := ∀ i, i < n → ∃ b o, a = some ⟨b, o, none⟩ ∧ w.cell? ⟨b, o + i, none⟩ = some (.int kd (E i))
/-- A slice of byte slices. -/
def ZRow (w : World) (a : Option Addr) (n : Nat) (Z : Nat → List Int) : Prop := ∀ i, i < n → ∃ b o x c, a = some ⟨b, o, none⟩ ∧ w.cell? ⟨b, o + i, none⟩ = some (.slice x (Z i).length c) ∧ Sig w (.slice x (Z i).length c) (Z i)

/-- It returns a bool. -/
def SomeBool (e : Ending) : Prop := ∃ b, e = .returned (.bool b)

set_option maxHeartbeats 1000000 in
theorem zzBytes6 (ep : Int) (a1 a2 a3 : Option Addr) (n1 n2 n3 c1 c2 c3 : Nat) (Z : Nat → List Int) (w : World) (h : ZRow w a3 n3 Z) :
    Calls Try.prog 6 #[.int .u64 ep, .slice a1 n1 c1, .slice a2 n2 c2, .slice a3 n3 c3] w fun e w' => SomeBool e ∧ w' = w := by
  have H : Hid (ZRow w a3 n3 Z) := h
  clear h
  by_cases h1' : 1048576 < n1
  · go_enter Try.func6, Try.ntmps6
    go_wp2
    go_ret
    exact ⟨⟨_, rfl⟩, rfl⟩
  have h1 : n1 ≤ 1048576 := by omega
  clear h1'
  by_cases h2' : 1048576 < n2
  · go_enter Try.func6, Try.ntmps6
    go_wp2
    go_ret
    exact ⟨⟨_, rfl⟩, rfl⟩
  have h2 : n2 ≤ 1048576 := by omega
  clear h2'
  by_cases h12' : 1048576 < n1 + n2
  · go_enter Try.func6, Try.ntmps6
    go_wp2
    go_ret
    exact ⟨⟨_, rfl⟩, rfl⟩
  have h12 : n1 + n2 ≤ 1048576 := by omega
  clear h12'
  by_cases h3' : 1048576 < n3
  · go_enter Try.func6, Try.ntmps6
    go_wp2
    go_ret
    exact ⟨⟨_, rfl⟩, rfl⟩
  have h3 : n3 ≤ 1048576 := by omega
  clear h3'
  by_cases h123' : 1048576 < n1 + n2 + n3
  · go_enter Try.func6, Try.ntmps6
    go_wp2
    go_ret
    exact ⟨⟨_, rfl⟩, rfl⟩
  have h123 : n1 + n2 + n3 ≤ 1048576 := by omega
  clear h123'
  go_enter Try.func6, Try.ntmps6
  go_wp2
  go_loop [9, 10] (fun t i => ∃ k m : Nat, k ≤ n3 ∧ i = .int .i64 k ∧ t = .int .i64 m ∧ m ≤ 1048576) (fun _ i => n3 - (intOf i).toNat)
  case atStart => exact ⟨0, n1 + n2 + n3, by omega, rfl, by go_num, h123⟩
  case round =>
    obtain ⟨k, m, hk, rfl, rfl, hm⟩ := hrel
    by_cases hlt : k < n3
    · obtain ⟨b, o, x, c, rfl, hc, _⟩ := H.out k hlt
      have hlt' : (k : Int) < (n3 : Int) := by omega
      generalize (Z k).length = l at hc
      by_cases hl : l ≤ 1048576
      · by_cases hml : m + l ≤ 1048576
        · go_wp2
          go_round
          case rel => exact ⟨k + 1, m + l, by omega, by go_num, by go_num, hml⟩
          case measure => simp [intOf]; omega
        · go_wp2
          go_ret
          exact ⟨⟨_, rfl⟩, rfl⟩
      · go_wp2
        go_ret
        exact ⟨⟨_, rfl⟩, rfl⟩
    · go_wp2
      go_ret
      exact ⟨⟨_, rfl⟩, rfl⟩

set_option maxHeartbeats 1000000 in
theorem zzBytes14 (ep : Int) (a1 a2 a3 : Option Addr) (n1 n2 n3 c1 c2 c3 : Nat) (Z : Nat → List Int) (w : World) (h : ZRow w a3 n3 Z) :
    Calls Try.prog 14 #[.int .u64 ep, .slice a1 n1 c1, .slice a2 n2 c2, .slice a3 n3 c3] w fun e w' => SomeBool e ∧ w' = w := by
  have H : Hid (ZRow w a3 n3 Z) := h
  clear h
  by_cases h1' : 1048576 < n1
  · go_enter Try.func14, Try.ntmps14
    go_wp2
    go_ret
    exact ⟨⟨_, rfl⟩, rfl⟩
  have h1 : n1 ≤ 1048576 := by omega
  clear h1'
  by_cases h2' : 1048576 < n2
  · go_enter Try.func14, Try.ntmps14
    go_wp2
    go_ret
    exact ⟨⟨_, rfl⟩, rfl⟩
  have h2 : n2 ≤ 1048576 := by omega
  clear h2'
  by_cases h12' : 1048576 < n1 + n2
  · go_enter Try.func14, Try.ntmps14
    go_wp2
    go_ret
    exact ⟨⟨_, rfl⟩, rfl⟩
  have h12 : n1 + n2 ≤ 1048576 := by omega
  clear h12'
  by_cases h3' : 1048576 < n3
  · go_enter Try.func14, Try.ntmps14
    go_wp2
    go_ret
    exact ⟨⟨_, rfl⟩, rfl⟩
  have h3 : n3 ≤ 1048576 := by omega
  clear h3'
  by_cases h123' : 1048576 < n1 + n2 + n3
  · go_enter Try.func14, Try.ntmps14
    go_wp2
    go_ret
    exact ⟨⟨_, rfl⟩, rfl⟩
  have h123 : n1 + n2 + n3 ≤ 1048576 := by omega
  clear h123'
  go_enter Try.func14, Try.ntmps14
  go_wp2
  go_loop [9, 10] (fun t i => ∃ k m : Nat, k ≤ n3 ∧ i = .int .i64 k ∧ t = .int .i64 m ∧ m ≤ 1048576) (fun _ i => n3 - (intOf i).toNat)
  case atStart => exact ⟨0, n1 + n2 + n3, by omega, rfl, by go_num, h123⟩
  case round =>
    obtain ⟨k, m, hk, rfl, rfl, hm⟩ := hrel
    by_cases hlt : k < n3
    · obtain ⟨b, o, x, c, rfl, hc, _⟩ := H.out k hlt
      have hlt' : (k : Int) < (n3 : Int) := by omega
      generalize (Z k).length = l at hc
      by_cases hl : l ≤ 1048576
      · by_cases hml : m + l ≤ 1048576
        · go_wp2
          go_round
          case rel => exact ⟨k + 1, m + l, by omega, by go_num, by go_num, hml⟩
          case measure => simp [intOf]; omega
        · go_wp2
          go_ret
          exact ⟨⟨_, rfl⟩, rfl⟩
      · go_wp2
        go_ret
        exact ⟨⟨_, rfl⟩, rfl⟩
    · go_wp2
      go_ret
      exact ⟨⟨_, rfl⟩, rfl⟩


set_option maxHeartbeats 1000000 in
theorem zzBytes17 (ep : Int) (a1 a2 a3 : Option Addr) (n1 n2 n3 c1 c2 c3 : Nat) (Z : Nat → List Int) (w : World) (h : ZRow w a3 n3 Z) :
    Calls Try.prog 17 #[.int .u64 ep, .slice a1 n1 c1, .slice a2 n2 c2, .slice a3 n3 c3] w fun e w' => SomeBool e ∧ w' = w := by
  have H : Hid (ZRow w a3 n3 Z) := h
  clear h
  by_cases h1' : 1048576 < n1
  · go_enter Try.func17, Try.ntmps17
    go_wp2
    go_ret
    exact ⟨⟨_, rfl⟩, rfl⟩
  have h1 : n1 ≤ 1048576 := by omega
  clear h1'
  by_cases h2' : 1048576 < n2
  · go_enter Try.func17, Try.ntmps17
    go_wp2
    go_ret
    exact ⟨⟨_, rfl⟩, rfl⟩
  have h2 : n2 ≤ 1048576 := by omega
  clear h2'
  by_cases h12' : 1048576 < n1 + n2
  · go_enter Try.func17, Try.ntmps17
    go_wp2
    go_ret
    exact ⟨⟨_, rfl⟩, rfl⟩
  have h12 : n1 + n2 ≤ 1048576 := by omega
  clear h12'
  by_cases h3' : 1048576 < n3
  · go_enter Try.func17, Try.ntmps17
    go_wp2
    go_ret
    exact ⟨⟨_, rfl⟩, rfl⟩
  have h3 : n3 ≤ 1048576 := by omega
  clear h3'
  by_cases h123' : 1048576 < n1 + n2 + n3
  · go_enter Try.func17, Try.ntmps17
    go_wp2
    go_ret
    exact ⟨⟨_, rfl⟩, rfl⟩
  have h123 : n1 + n2 + n3 ≤ 1048576 := by omega
  clear h123'
  go_enter Try.func17, Try.ntmps17
  go_wp2
  go_loop [9, 10] (fun t i => ∃ k m : Nat, k ≤ n3 ∧ i = .int .i64 k ∧ t = .int .i64 m ∧ m ≤ 1048576) (fun _ i => n3 - (intOf i).toNat)
  case atStart => exact ⟨0, n1 + n2 + n3, by omega, rfl, by go_num, h123⟩
  case round =>
    obtain ⟨k, m, hk, rfl, rfl, hm⟩ := hrel
    by_cases hlt : k < n3
    · obtain ⟨b, o, x, c, rfl, hc, _⟩ := H.out k hlt
      have hlt' : (k : Int) < (n3 : Int) := by omega
      generalize (Z k).length = l at hc
      by_cases hl : l ≤ 1048576
      · by_cases hml : m + l ≤ 1048576
        · go_wp2
          go_round
          case rel => exact ⟨k + 1, m + l, by omega, by go_num, by go_num, hml⟩
          case measure => simp [intOf]; omega
        · go_wp2
          go_ret
          exact ⟨⟨_, rfl⟩, rfl⟩
      · go_wp2
        go_ret
        exact ⟨⟨_, rfl⟩, rfl⟩
    · go_wp2
      go_ret
      exact ⟨⟨_, rfl⟩, rfl⟩

set_option maxHeartbeats 1000000 in
/-- chainB1SigBytes: where it answers at most 1<<20, no signature is longer. -/
theorem sigBytes_any (a3 : Option Addr) (n3 c3 : Nat) (Z : Nat → List Int) (hn : n3 ≤ 4096) (w : World) (h : ZRow w a3 n3 Z) :
    Calls Try.prog 7 #[.slice a3 n3 c3] w fun e w' => (∃ t : Nat, e = .returned (.int .i64 t) ∧ t ≤ 1048577 ∧ (t ≤ 1048576 → ∀ i, i < n3 → (Z i).length ≤ 1048576)) ∧ w' = w := by
  have H : Hid (ZRow w a3 n3 Z) := h
  clear h
  go_enter Try.func7, Try.ntmps7
  go_wp2
  go_loop [3, 4] (fun t i => ∃ k m : Nat, k ≤ n3 ∧ i = .int .i64 k ∧ t = .int .i64 m ∧ m ≤ 1048576 ∧ Hid (∀ i, i < k → (Z i).length ≤ 1048576)) (fun _ i => n3 - (intOf i).toNat)
  case atStart => exact ⟨0, 0, by omega, rfl, rfl, by omega, fun i hi => absurd hi (Nat.not_lt_zero _)⟩
  case round =>
    obtain ⟨k, m, hk, rfl, rfl, hm, HZ⟩ := hrel
    by_cases hlt : k < n3
    · obtain ⟨b, o, x, c, rfl, hc, _⟩ := H.out k hlt
      have hlt' : (k : Int) < (n3 : Int) := by omega
      obtain ⟨l, HL⟩ : ∃ l, Hid (l = (Z k).length) := ⟨_, rfl⟩
      rw [← HL.out] at hc
      by_cases hl : l ≤ 1048576
      · by_cases hml : m + l ≤ 1048576
        · go_wp2
          go_round
          case rel =>
            refine ⟨k + 1, m + l, by omega, by go_num, by go_num, hml, fun i hi => ?_⟩
            by_cases e : i = k
            · rw [e, ← HL.out]; exact hl
            · exact HZ.out i (by omega)
          case measure => simp [intOf]; omega
        · go_wp2
          go_ret
          exact ⟨⟨1048577, rfl, by omega, fun h => by omega⟩, rfl⟩
      · go_wp2
        go_ret
        exact ⟨⟨1048577, rfl, by omega, fun h => by omega⟩, rfl⟩
    · go_wp2
      go_ret
      exact ⟨⟨m, rfl, by omega, fun _ i hi => HZ.out i (by omega)⟩, rfl⟩
#print axioms sigBytes_any
end Go.Proofs.Qxb6600853a
