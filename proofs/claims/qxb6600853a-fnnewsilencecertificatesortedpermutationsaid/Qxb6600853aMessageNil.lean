import Derived.Test.Qxb6600853aBytes
import Derived.BigRegion
import Derived.Deep.RegionWith
namespace Go.Proofs.Qxb6600853a
open Go.RowKit
set_option linter.unusedVariables false

set_option maxHeartbeats 4000000 in
theorem message_nil (b1 o1 c1 b2 o2 c2 b3 o3 c3 n i : Nat) (hi : i < n) (hn : n ≤ 4096) (E R : Int) (w : World)
    (k1 : w.cell? ⟨b1, o1 + i, none⟩ = some (.int .u64 E)) (k2 : w.cell? ⟨b2, o2 + i, none⟩ = some (.int .i64 R)) (k3 : w.cell? ⟨b3, o3 + i, none⟩ = some (.slice none 0 0)) :
    Calls Try.prog 15 #[.slice (some ⟨b1, o1, none⟩) n c1, .slice (some ⟨b2, o2, none⟩) n c2, .slice (some ⟨b3, o3, none⟩) n c3, .int .i64 i] w fun e w' =>
      e = .returned (.agg #[.int .u64 E, .int .i64 R, .slice none 0 0]) ∧ w' = (w.alloc (.cells #[.int .u64 E, .int .i64 R, .slice none 0 0] 39)).drew := by
  have hi' : (i : Int) < (n : Int) := by omega
  have g1 := World.block_lt_of_cell? _ _ k1
  have g2 := World.block_lt_of_cell? _ _ k2
  have g3 := World.block_lt_of_cell? _ _ k3
  simp only at g1 g2 g3
  go_enter Try.func15, Try.ntmps15
  go_wp2
  go_region_with (go_at_call 23; refine (cloneBytes_nil _).mono ?_; rintro e w' ⟨rfl, rfl⟩)
  all_goals
    go_wp2
    exact bodyPost_ret (v := .agg #[.int .u64 E, .int .i64 R, .slice none 0 0]) (by simp [results, Try.results15, go_sem]) rfl ⟨rfl, rfl⟩
#print axioms message_nil
end Go.Proofs.Qxb6600853a
