import Derived.Test.Qxb6600853aBytes
import Derived.BigRegion
import Derived.Deep.RegionWith
namespace Go.Proofs.Qxb6600853a
open Go.RowKit
set_option linter.unusedVariables false

set_option maxHeartbeats 4000000 in
theorem message_some (b1 o1 c1 b2 o2 c2 b3 o3 c3 n i : Nat) (hi : i < n) (hn : n ≤ 4096) (E R : Int) (x : Addr) (c : Nat) (bs : List Int) (hl : bs.length ≤ 1048576) (w : World)
    (k1 : w.cell? ⟨b1, o1 + i, none⟩ = some (.int .u64 E)) (k2 : w.cell? ⟨b2, o2 + i, none⟩ = some (.int .i64 R)) (k3 : w.cell? ⟨b3, o3 + i, none⟩ = some (.slice (some x) bs.length c)) (hs : Sig w (.slice (some x) bs.length c) bs) :
    Calls Try.prog 15 #[.slice (some ⟨b1, o1, none⟩) n c1, .slice (some ⟨b2, o2, none⟩) n c2, .slice (some ⟨b3, o3, none⟩) n c3, .int .i64 i] w fun e w' =>
      e = .returned (.agg #[.int .u64 E, .int .i64 R, .slice (some ⟨w.heap.size + 1, 0, none⟩) bs.length bs.length]) ∧
        w' = ((w.alloc (.cells #[.int .u64 E, .int .i64 R, .slice (some ⟨w.heap.size + 1, 0, none⟩) bs.length bs.length] 39)).alloc (.cells (bs.map (Value.int .u8)).toArray 5)).drew := by
  have hi' : (i : Int) < (n : Int) := by omega
  have g1 := World.block_lt_of_cell? _ _ k1
  have g2 := World.block_lt_of_cell? _ _ k2
  have g3 := World.block_lt_of_cell? _ _ k3
  simp only at g1 g2 g3
  have HS : Hid (∀ o q, Sig ((w.alloc o).drewN q) (.slice (some x) bs.length c) bs) := fun o q => Sig.drewN (hs.below ((Below.refl w.heap.size w).alloc (Nat.le_refl _) _) (Nat.le_refl _)) q
  clear hs
  obtain ⟨L, HL⟩ : ∃ L, Hid (L = bs.length) := ⟨_, rfl⟩
  have con : ∀ (W : World) (o : Obj), W = (w.alloc o).drew → Calls Try.prog 23 #[.slice (some x) L c] W fun e w' => e = .returned (.slice (some ⟨W.heap.size, 0, none⟩) L L) ∧ w' = W.alloc (.cells (bs.map (Value.int .u8)).toArray 5) := by
    intro W o hW
    rw [HL.out]
    exact cloneBytes_some x c bs W hl (by rw [hW]; exact HS.out o 1)
  rw [← HL.out] at k3 ⊢
  generalize (bs.map (Value.int .u8)).toArray = Z at *
  have CON := con
  have CON' : Hid (∀ (W : World) (o : Obj), W = (w.alloc o).drew → Calls Try.prog 23 #[.slice (some x) L c] W fun e w' => e = .returned (.slice (some ⟨W.heap.size, 0, none⟩) L L) ∧ w' = W.alloc (.cells Z 5)) := con
  clear con CON
  go_enter Try.func15, Try.ntmps15
  go_wp2
  go_region_with (go_at_call 23; refine (CON'.out _ _ rfl).mono ?_; rintro e w' ⟨rfl, rfl⟩)
  all_goals
    go_wp2
    exact bodyPost_ret (v := .agg #[.int .u64 E, .int .i64 R, .slice (some ⟨w.heap.size + 1, 0, none⟩) L L]) (by simp [results, Try.results15, go_sem]) rfl ⟨rfl, rfl⟩
#print axioms message_some
end Go.Proofs.Qxb6600853a
