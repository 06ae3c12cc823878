import Derived.Test.Qxb6600853aCommon
import Derived.OpenShut
import Derived.Deep.Matrix
namespace Go.Proofs.Qxb6600853a
open Go.ChangeShapes Go.WideShapes Go.ChangeAt Go.RowKit
set_option linter.unusedVariables false

/-- An address behind which a cell lies is plain. -/
theorem plain_of_cell {w : World} {a : Addr} {v : Value} (h : w.cell? (a.add 0) = some v) : ∃ b o, a = ⟨b, o, none⟩ := by
  obtain ⟨b, off, spot⟩ := a
  have hspot : spot = none := by simpa [Addr.add] using World.cell?_spot h
  subst hspot
  exact ⟨b, off, rfl⟩

theorem irow_of {kd : IntKind} {w : World} {x : Addr} {n cap : Nat} {zs : List Int} (hl : n ≤ cap) (hz : zs.length = cap) (hc : ∀ i, i < zs.length → w.cell? (x.add i) = some (.int kd (zs.getD i 0))) : IRow kd w (some x) n (fun i => if i < n then zs.getD i 0 else 0) := by
  intro i hi
  obtain ⟨b, o, rfl⟩ := plain_of_cell (hc 0 (by omega))
  refine ⟨b, o, rfl, ?_⟩
  have := hc i (by omega)
  rw [Addr.add_lit] at this
  rw [this]
  simp only [hi, if_true]

theorem zrow_of {w : World} {a : Addr} {len cap : Nat} {A : Nat → Option Addr} {L C : Nat → Nat} {Z : Nat → List Int} (hl : len ≤ cap)
    (h : ∀ r, r < cap → w.cell? (a.add r) = some (.slice (A r) (L r) (C r)) ∧ L r ≤ C r ∧ C r ≤ maxLen ∧ (Z r).length = C r ∧ (∀ n ∈ Z r, (Lit.int .u8 n).wf = true) ∧ (A r = none → C r = 0) ∧
        ∀ a', A r = some a' → 0 ≤ a'.block ∧ ∀ c, c < C r → w.cell? (a'.add c) = some (.int .u8 ((Z r).getD c 0))) :
    ZRow w (some a) len (fun r => (Z r).take (L r)) := by
  intro i hi
  obtain ⟨hcell, hLC, _, hZ, _, hnil, hsome⟩ := h i (by omega)
  obtain ⟨b, o, rfl⟩ := plain_of_cell (h 0 (by omega)).1
  rw [Addr.add_lit] at hcell
  have hlen : ((Z i).take (L i)).length = L i := by rw [List.length_take]; omega
  refine ⟨b, o, A i, C i, rfl, by rw [hlen]; exact hcell, A i, C i, rfl, fun hn => ⟨by rw [hlen]; have := hnil hn; omega, hnil hn⟩, fun j hj => ?_⟩
  rw [hlen] at hj
  cases hA : A i with
  | none => have := hnil hA; omega
  | some a' =>
    have hc := (hsome a' hA).2
    obtain ⟨b', o', rfl⟩ := plain_of_cell (hc 0 (by omega))
    refine ⟨b', o', rfl, ?_⟩
    have := hc j (by omega)
    rw [Addr.add_lit] at this
    rw [this]
    simp [List.getD_eq_getElem?_getD, List.getElem?_take_of_lt hj]

end Go.Proofs.Qxb6600853a
