import Derived.Test.Qxb6600853aEarly
namespace Go.Proofs.Qxb6600853a
open Go.RowKit
set_option linter.unusedVariables false

/-- It returns a bool; if that is true, p holds. -/
def BoolIf (p : Prop) (e : Ending) : Prop := ∃ b, e = .returned (.bool b) ∧ (b = true → p)

def Bounded (n : Nat) (R : Nat → Int) : Prop := ∀ i, i < n → -4611686018427387904 < R i ∧ R i < 4611686018427387904

set_option maxHeartbeats 1000000 in
/-- chainB1Shape. -/
theorem shape_any (a1 a2 a3 : Option Addr) (n1 n2 n3 c1 c2 c3 : Nat) (h1 : n1 ≤ 4096) (h2 : n2 ≤ 4096) (h3 : n3 ≤ 4096) (R : Nat → Int) (w : World) (h : IRow .i64 w a2 n2 R) :
    Calls Try.prog 8 #[.slice a1 n1 c1, .slice a2 n2 c2, .slice a3 n3 c3] w fun e w' => BoolIf (n1 = n2 ∧ n3 = n2 ∧ Bounded n2 R) e ∧ w' = w := by
  have H : Hid (IRow .i64 w a2 n2 R) := h
  clear h
  by_cases q1 : n1 = n2
  · subst q1
    by_cases q3 : n3 = n1
    · subst q3
      go_enter Try.func8, Try.ntmps8
      go_wp2
      go_loop [8] (fun i => ∃ k : Nat, k ≤ n3 ∧ i = .int .i64 k ∧ Hid (Bounded k R)) (fun i => n3 - (intOf i).toNat)
      case atStart => exact ⟨0, by omega, rfl, fun i hi => absurd hi (Nat.not_lt_zero _)⟩
      case round =>
        obtain ⟨k, hk, rfl, HB⟩ := hrel
        by_cases hlt : k < n3
        · obtain ⟨b, o, rfl, hc⟩ := H.out k hlt
          have hlt' : (k : Int) < (n3 : Int) := by omega
          obtain ⟨r, HR⟩ : ∃ r, Hid (r = R k) := ⟨_, rfl⟩
          rw [← HR.out] at hc
          by_cases r1 : r ≤ -4611686018427387904
          · go_wp2
            go_ret
            exact ⟨⟨_, rfl, fun h => by cases h⟩, rfl⟩
          · by_cases r2 : 4611686018427387904 ≤ r
            · go_wp2
              go_ret
              exact ⟨⟨_, rfl, fun h => by cases h⟩, rfl⟩
            · go_wp2
              go_round
              case rel =>
                refine ⟨k + 1, by omega, by go_num, fun i hi => ?_⟩
                by_cases e : i = k
                · rw [e, ← HR.out]; omega
                · exact HB.out i (by omega)
              case measure => simp [intOf]; omega
        · obtain rfl : k = n3 := by omega
          go_wp2
          go_ret
          exact ⟨⟨_, rfl, fun _ => HB.out⟩, rfl⟩
    · have q3' : ((n3 : Int) != (n1 : Int)) = true := by rw [bne_iff_ne]; omega
      go_enter Try.func8, Try.ntmps8
      go_wp2
      go_ret
      exact ⟨⟨_, rfl, fun h => by cases h⟩, rfl⟩
  · have q1' : ((n1 : Int) != (n2 : Int)) = true := by rw [bne_iff_ne]; omega
    go_enter Try.func8, Try.ntmps8
    go_wp2
    go_ret
    exact ⟨⟨_, rfl, fun h => by cases h⟩, rfl⟩
#print axioms shape_any

def Distinct (n : Nat) (R : Nat → Int) : Prop := ∀ i j, i < j → j < n → R i ≠ R j

set_option maxHeartbeats 1000000 in
/-- chainB1Distinct. -/
theorem distinct_any (a2 : Option Addr) (n c2 : Nat) (hn : n ≤ 4096) (R : Nat → Int) (w : World) (h : IRow .i64 w a2 n R) :
    Calls Try.prog 9 #[.slice a2 n c2] w fun e w' => BoolIf (Distinct n R) e ∧ ∃ q, w' = w.drewN q := by
  have H : Hid (IRow .i64 w a2 n R) := h
  clear h
  go_enter Try.func9, Try.ntmps9
  go_wp2
  go_loopw [3] (fun i wr => ∃ k q : Nat, k ≤ n ∧ i = .int .i64 k ∧ Hid (∀ i j, i < k → i < j → j < n → R i ≠ R j) ∧ wr = w.drewN q) (fun i _ => n - (intOf i).toNat)
  case atStart => exact ⟨0, 0, by omega, rfl, fun i j hi => absurd hi (Nat.not_lt_zero _), rfl⟩
  case round =>
    obtain ⟨k, q, hk, rfl, HD, rfl⟩ := hrel
    by_cases hlt : k < n
    · obtain ⟨b, o, rfl, hc⟩ := H.out k hlt
      have hlt' : (k : Int) < (n : Int) := by omega
      obtain ⟨r, HR⟩ : ∃ r, Hid (r = R k) := ⟨_, rfl⟩
      rw [← HR.out] at hc
      go_wp2
      go_loopw [4] (fun j wr => ∃ m q : Nat, k < m ∧ m ≤ n ∧ j = .int .i64 m ∧ Hid (∀ j, k < j → j < m → R k ≠ R j) ∧ wr = w.drewN q) (fun j _ => n - (intOf j).toNat)
      case atStart => exact ⟨k + 1, q, by omega, by omega, by go_num, fun j h1 h2 => by omega, rfl⟩
      case round =>
        obtain ⟨m, q', hm1, hm2, rfl, HM, rfl⟩ := hrel
        by_cases hmlt : m < n
        · obtain ⟨b', o', hbo, hc'⟩ := H.out m hmlt
          cases hbo
          have hmlt' : (m : Int) < (n : Int) := by omega
          obtain ⟨s, HS⟩ : ∃ s, Hid (s = R m) := ⟨_, rfl⟩
          rw [← HS.out] at hc'
          by_cases hrs : r = s
          · subst hrs
            go_wp2
            go_quiet (fail)
            go_wp2
            go_ret
            exact ⟨⟨_, rfl, fun h => by cases h⟩, _, by rw [World.drewN_drewN]⟩
          · have hrs' : (r == s) = false := by simp [hrs]
            have HX : Hid (R k ≠ R m) := by unfold Hid; rw [← HR.out, ← HS.out]; exact hrs
            clear hrs
            go_wp2
            go_quiet (fail)
            go_wp2
            go_roundw
            case rel =>
              refine ⟨m + 1, _, by omega, by omega, by go_num, fun j h1 h2 => ?_, rfl⟩
              by_cases e : j = m
              · rw [e]; exact HX.out
              · exact HM.out j h1 (by omega)
            case measure => simp [intOf]; omega
        · go_wp2
          go_roundw
          case rel =>
            refine ⟨k + 1, _, by omega, by go_num, fun i j h1 h2 h3 => ?_, rfl⟩
            by_cases e : i = k
            · rw [e]; exact HM.out j (by omega) (by omega)
            · exact HD.out i j (by omega) h2 h3
          case measure => simp [intOf]; omega
    · go_wp2
      go_ret
      exact ⟨⟨_, rfl, fun _ i j h1 h2 => HD.out i j (by omega) h1 h2⟩, _, rfl⟩
#print axioms distinct_any
end Go.Proofs.Qxb6600853a
