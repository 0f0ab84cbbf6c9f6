/- THE WALKS of LawS6684BWhole. -/
import Derived.Test.YbulkehkcDoorRows
import Derived.WalkKit
import Derived.ProofKit
namespace Go.Proofs.YbulkehkcDoor
open Go.RowKit

theorem walk_past (k : Int) (w : World) (h0 : 9 ≤ k) (h1 : k ≤ 255) : Calls Ybad.prog 3 #[.int .u8 k] w fun e w' => e = .returned (.bool true) ∧ w' = w := by
  go_enter Ybad.func3, Ybad.ntmps3
  go_wp2
  go_ret
  exact ⟨rfl, rfl⟩
theorem walk_0 (w : World) (h : w.cell? ⟨0, 0, none⟩ = some (.int .i64 0)) : Calls Ybad.prog 3 #[.int .u8 0] w fun e w' => e = .returned (.bool true) ∧ w' = w := by
  go_enter Ybad.func3, Ybad.ntmps3
  go_wp2
  go_ret
  exact ⟨rfl, rfl⟩
theorem walk_1 (w : World) (h : w.cell? ⟨0, 1, none⟩ = some (.int .i64 1)) : Calls Ybad.prog 3 #[.int .u8 1] w fun e w' => e = .returned (.bool true) ∧ w' = w := by
  go_enter Ybad.func3, Ybad.ntmps3
  go_wp2
  go_ret
  exact ⟨rfl, rfl⟩
theorem walk_2 (w : World) (h : w.cell? ⟨0, 2, none⟩ = some (.int .i64 2)) : Calls Ybad.prog 3 #[.int .u8 2] w fun e w' => e = .returned (.bool true) ∧ w' = w := by
  go_enter Ybad.func3, Ybad.ntmps3
  go_wp2
  go_ret
  exact ⟨rfl, rfl⟩
theorem walk_3 (w : World) (h : w.cell? ⟨0, 3, none⟩ = some (.int .i64 0)) : Calls Ybad.prog 3 #[.int .u8 3] w fun e w' => e = .returned (.bool true) ∧ w' = w := by
  go_enter Ybad.func3, Ybad.ntmps3
  go_wp2
  go_ret
  exact ⟨rfl, rfl⟩
theorem walk_4 (w : World) (h : w.cell? ⟨0, 4, none⟩ = some (.int .i64 3)) : Calls Ybad.prog 3 #[.int .u8 4] w fun e w' => e = .returned (.bool true) ∧ w' = w := by
  go_enter Ybad.func3, Ybad.ntmps3
  go_wp2
  go_ret
  exact ⟨rfl, rfl⟩
theorem walk_5 (w : World) (h : w.cell? ⟨0, 5, none⟩ = some (.int .i64 4)) : Calls Ybad.prog 3 #[.int .u8 5] w fun e w' => e = .returned (.bool true) ∧ w' = w := by
  go_enter Ybad.func3, Ybad.ntmps3
  go_wp2
  go_ret
  exact ⟨rfl, rfl⟩
theorem walk_6 (w : World) (h : w.cell? ⟨0, 6, none⟩ = some (.int .i64 0)) : Calls Ybad.prog 3 #[.int .u8 6] w fun e w' => e = .returned (.bool true) ∧ w' = w := by
  go_enter Ybad.func3, Ybad.ntmps3
  go_wp2
  go_ret
  exact ⟨rfl, rfl⟩
theorem walk_7 (w : World) (h : w.cell? ⟨0, 7, none⟩ = some (.int .i64 0)) : Calls Ybad.prog 3 #[.int .u8 7] w fun e w' => e = .returned (.bool true) ∧ w' = w := by
  go_enter Ybad.func3, Ybad.ntmps3
  go_wp2
  go_ret
  exact ⟨rfl, rfl⟩
theorem walk_8 (w : World) (h : w.cell? ⟨0, 8, none⟩ = some (.int .i64 0)) : Calls Ybad.prog 3 #[.int .u8 8] w fun e w' => e = .returned (.bool true) ∧ w' = w := by
  go_enter Ybad.func3, Ybad.ntmps3
  go_wp2
  go_ret
  exact ⟨rfl, rfl⟩
end Go.Proofs.YbulkehkcDoor
