/- THE WALK of LawS6682CWhole. -/
import Derived.Test.YbulkehjaRows
import Derived.WalkKit
import Derived.ProofKit
import Derived.RegionTactic
import Derived.ChangeAlike
import Derived.Deep.QuietTactic
import Derived.BigQuiet
namespace Go.Proofs.Ybulkehja
open Go.RowKit

theorem ta_41_41 (a : Addr) (W : World) : (Instr.typeAssert (.iface 41 (.pointer (some a))) 40 41 true).run Yba.prog W = .ok (.tuple #[.pointer (some a), .bool true]) W := by kernel_rfl
theorem ta_42_41 (a : Addr) (W : World) : (Instr.typeAssert (.iface 42 (.pointer (some a))) 40 41 true).run Yba.prog W = .ok (.tuple #[.pointer none, .bool false]) W := by kernel_rfl
theorem ta_42_42 (a : Addr) (W : World) : (Instr.typeAssert (.iface 42 (.pointer (some a))) 40 42 true).run Yba.prog W = .ok (.tuple #[.pointer (some a), .bool true]) W := by kernel_rfl
theorem ta_43_41 (a : Addr) (W : World) : (Instr.typeAssert (.iface 43 (.pointer (some a))) 40 41 true).run Yba.prog W = .ok (.tuple #[.pointer none, .bool false]) W := by kernel_rfl
theorem ta_43_42 (a : Addr) (W : World) : (Instr.typeAssert (.iface 43 (.pointer (some a))) 40 42 true).run Yba.prog W = .ok (.tuple #[.pointer none, .bool false]) W := by kernel_rfl
theorem ta_43_43 (a : Addr) (W : World) : (Instr.typeAssert (.iface 43 (.pointer (some a))) 40 43 true).run Yba.prog W = .ok (.tuple #[.pointer (some a), .bool true]) W := by kernel_rfl
theorem ta_44_41 (a : Addr) (W : World) : (Instr.typeAssert (.iface 44 (.pointer (some a))) 40 41 true).run Yba.prog W = .ok (.tuple #[.pointer none, .bool false]) W := by kernel_rfl
theorem ta_44_42 (a : Addr) (W : World) : (Instr.typeAssert (.iface 44 (.pointer (some a))) 40 42 true).run Yba.prog W = .ok (.tuple #[.pointer none, .bool false]) W := by kernel_rfl
theorem ta_44_43 (a : Addr) (W : World) : (Instr.typeAssert (.iface 44 (.pointer (some a))) 40 43 true).run Yba.prog W = .ok (.tuple #[.pointer none, .bool false]) W := by kernel_rfl
theorem ta_45_41 (a : Addr) (W : World) : (Instr.typeAssert (.iface 45 (.pointer (some a))) 40 41 true).run Yba.prog W = .ok (.tuple #[.pointer none, .bool false]) W := by kernel_rfl
theorem ta_45_42 (a : Addr) (W : World) : (Instr.typeAssert (.iface 45 (.pointer (some a))) 40 42 true).run Yba.prog W = .ok (.tuple #[.pointer none, .bool false]) W := by kernel_rfl
theorem ta_45_43 (a : Addr) (W : World) : (Instr.typeAssert (.iface 45 (.pointer (some a))) 40 43 true).run Yba.prog W = .ok (.tuple #[.pointer none, .bool false]) W := by kernel_rfl
theorem ta_nil_41 (W : World) : (Instr.typeAssert .nilIface 40 41 true).run Yba.prog W = .ok (.tuple #[.pointer none, .bool false]) W := by kernel_rfl
theorem ta_nil_42 (W : World) : (Instr.typeAssert .nilIface 40 42 true).run Yba.prog W = .ok (.tuple #[.pointer none, .bool false]) W := by kernel_rfl
theorem ta_nil_43 (W : World) : (Instr.typeAssert .nilIface 40 43 true).run Yba.prog W = .ok (.tuple #[.pointer none, .bool false]) W := by kernel_rfl


set_option maxHeartbeats 400000 in
theorem heading_41 (l p : Int) (b : Nat) (w : World) (hb : b < w.heap.size) (h0 : w.cell? ⟨b, 0, none⟩ = some (.int .u64 l)) (h1 : w.cell? ⟨b, 1, none⟩ = some (.int .u64 p)) :
    Calls Yba.prog 10 #[.iface 41 (.pointer (some ⟨b, 0, none⟩))] w fun e w' => e = .returned (.tuple #[.agg #[.int .u64 l, .int .u64 p], .bool true]) ∧ w' = w.alloc (.cells #[.int .u64 l, .int .u64 p] 38) := by
  have t41 := ta_41_41
  go_enter Yba.func10, Yba.ntmps10
  go_wp2
  exact bodyPost_ret (v := .tuple #[.agg #[.int .u64 l, .int .u64 p], .bool true]) (by simp [results, Yba.results10, go_sem]) rfl ⟨rfl, rfl⟩

set_option maxHeartbeats 400000 in
theorem heading_42 (l p : Int) (b : Nat) (w : World) (hb : b < w.heap.size) (h0 : w.cell? ⟨b, 0, none⟩ = some (.int .u64 l)) (h1 : w.cell? ⟨b, 1, none⟩ = some (.int .u64 p)) :
    Calls Yba.prog 10 #[.iface 42 (.pointer (some ⟨b, 0, none⟩))] w fun e w' => e = .returned (.tuple #[.agg #[.int .u64 l, .int .u64 p], .bool true]) ∧ w' = w.alloc (.cells #[.int .u64 l, .int .u64 p] 38) := by
  have t41 := ta_42_41
  have t42 := ta_42_42
  go_enter Yba.func10, Yba.ntmps10
  go_wp2
  exact bodyPost_ret (v := .tuple #[.agg #[.int .u64 l, .int .u64 p], .bool true]) (by simp [results, Yba.results10, go_sem]) rfl ⟨rfl, rfl⟩

set_option maxHeartbeats 400000 in
theorem heading_43 (l p : Int) (b : Nat) (w : World) (hb : b < w.heap.size) (h0 : w.cell? ⟨b, 0, none⟩ = some (.int .u64 l)) (h1 : w.cell? ⟨b, 1, none⟩ = some (.int .u64 p)) :
    Calls Yba.prog 10 #[.iface 43 (.pointer (some ⟨b, 0, none⟩))] w fun e w' => e = .returned (.tuple #[.agg #[.int .u64 l, .int .u64 p], .bool true]) ∧ w' = w.alloc (.cells #[.int .u64 l, .int .u64 p] 38) := by
  have t41 := ta_43_41
  have t42 := ta_43_42
  have t43 := ta_43_43
  go_enter Yba.func10, Yba.ntmps10
  go_wp2
  exact bodyPost_ret (v := .tuple #[.agg #[.int .u64 l, .int .u64 p], .bool true]) (by simp [results, Yba.results10, go_sem]) rfl ⟨rfl, rfl⟩

set_option maxHeartbeats 400000 in
theorem heading_44 (a : Addr) (w : World) :
    Calls Yba.prog 10 #[.iface 44 (.pointer (some a))] w fun e w' => e = .returned (.tuple #[.agg #[.int .u64 0, .int .u64 0], .bool false]) ∧ w' = w.alloc (.cells #[.int .u64 0, .int .u64 0] 38) := by
  have t41 := ta_44_41
  have t42 := ta_44_42
  have t43 := ta_44_43
  go_enter Yba.func10, Yba.ntmps10
  go_wp2
  exact bodyPost_ret (v := .tuple #[.agg #[.int .u64 0, .int .u64 0], .bool false]) (by simp [results, Yba.results10, go_sem]) rfl ⟨rfl, rfl⟩

set_option maxHeartbeats 400000 in
theorem heading_45 (a : Addr) (w : World) :
    Calls Yba.prog 10 #[.iface 45 (.pointer (some a))] w fun e w' => e = .returned (.tuple #[.agg #[.int .u64 0, .int .u64 0], .bool false]) ∧ w' = w.alloc (.cells #[.int .u64 0, .int .u64 0] 38) := by
  have t41 := ta_45_41
  have t42 := ta_45_42
  have t43 := ta_45_43
  go_enter Yba.func10, Yba.ntmps10
  go_wp2
  exact bodyPost_ret (v := .tuple #[.agg #[.int .u64 0, .int .u64 0], .bool false]) (by simp [results, Yba.results10, go_sem]) rfl ⟨rfl, rfl⟩

set_option maxHeartbeats 400000 in
theorem heading_nil (w : World) :
    Calls Yba.prog 10 #[.nilIface] w fun e w' => e = .returned (.tuple #[.agg #[.int .u64 0, .int .u64 0], .bool false]) ∧ w' = w.alloc (.cells #[.int .u64 0, .int .u64 0] 38) := by
  have t41 := ta_nil_41
  have t42 := ta_nil_42
  have t43 := ta_nil_43
  go_enter Yba.func10, Yba.ntmps10
  go_wp2
  exact bodyPost_ret (v := .tuple #[.agg #[.int .u64 0, .int .u64 0], .bool false]) (by simp [results, Yba.results10, go_sem]) rfl ⟨rfl, rfl⟩

set_option maxRecDepth 100000 in
set_option maxHeartbeats 1000000 in
theorem head0 (l p s r : Int) (w : World) (h : s % 6 = 0) (hs : 0 ≤ s ∧ s ≤ 255) :
    Calls Yba.prog 4 #[.int .u64 l, .int .u64 p, .int .u8 s, .int .u64 r] w fun e w' => e = .returned (.bool true) ∧ Grown w w' := by
  go_enter Yba.func4, Yba.ntmps4
  go_wp2_with (go_at_call 10; refine (heading_41 l p _ _ (by simp) (by simp [go_sem]) (by simp [go_sem])).mono ?_; rintro e w' ⟨rfl, rfl⟩)
  go_quiet (fail)
  go_wp2
  go_quiet (fail)
  go_wp2
  go_quiet (fail)
  go_wp2
  go_ret
  exact ⟨rfl, by repeat (first | exact Grown.refl _ | apply Grown.drew | apply Grown.alloc)⟩

set_option maxRecDepth 100000 in
set_option maxHeartbeats 1000000 in
theorem head1 (l p s r : Int) (w : World) (h : s % 6 = 1) (hs : 0 ≤ s ∧ s ≤ 255) :
    Calls Yba.prog 4 #[.int .u64 l, .int .u64 p, .int .u8 s, .int .u64 r] w fun e w' => e = .returned (.bool true) ∧ Grown w w' := by
  go_enter Yba.func4, Yba.ntmps4
  go_wp2_with (go_at_call 10; refine (heading_42 l p _ _ (by simp) (by simp [go_sem]) (by simp [go_sem])).mono ?_; rintro e w' ⟨rfl, rfl⟩)
  go_quiet (fail)
  go_wp2
  go_quiet (fail)
  go_wp2
  go_quiet (fail)
  go_wp2
  go_ret
  exact ⟨rfl, by repeat (first | exact Grown.refl _ | apply Grown.drew | apply Grown.alloc)⟩

set_option maxRecDepth 100000 in
set_option maxHeartbeats 1000000 in
theorem head2 (l p s r : Int) (w : World) (h : s % 6 = 2) (hs : 0 ≤ s ∧ s ≤ 255) :
    Calls Yba.prog 4 #[.int .u64 l, .int .u64 p, .int .u8 s, .int .u64 r] w fun e w' => e = .returned (.bool true) ∧ Grown w w' := by
  go_enter Yba.func4, Yba.ntmps4
  go_wp2_with (go_at_call 10; refine (heading_43 l p _ _ (by simp) (by simp [go_sem]) (by simp [go_sem])).mono ?_; rintro e w' ⟨rfl, rfl⟩)
  go_quiet (fail)
  go_wp2
  go_quiet (fail)
  go_wp2
  go_quiet (fail)
  go_wp2
  go_ret
  exact ⟨rfl, by repeat (first | exact Grown.refl _ | apply Grown.drew | apply Grown.alloc)⟩

set_option maxRecDepth 100000 in
set_option maxHeartbeats 1000000 in
theorem head3 (l p s r : Int) (w : World) (h : s % 6 = 3) (hs : 0 ≤ s ∧ s ≤ 255) :
    Calls Yba.prog 4 #[.int .u64 l, .int .u64 p, .int .u8 s, .int .u64 r] w fun e w' => e = .returned (.bool true) ∧ Grown w w' := by
  go_enter Yba.func4, Yba.ntmps4
  go_wp2_with (go_at_call 10; refine (heading_44 _ _).mono ?_; rintro e w' ⟨rfl, rfl⟩)
  go_quiet (fail)
  go_wp2
  go_quiet (fail)
  go_wp2
  go_quiet (fail)
  go_wp2
  go_ret
  exact ⟨rfl, by repeat (first | exact Grown.refl _ | apply Grown.drew | apply Grown.alloc)⟩

set_option maxRecDepth 100000 in
set_option maxHeartbeats 1000000 in
theorem head4 (l p s r : Int) (w : World) (h : s % 6 = 4) (hs : 0 ≤ s ∧ s ≤ 255) :
    Calls Yba.prog 4 #[.int .u64 l, .int .u64 p, .int .u8 s, .int .u64 r] w fun e w' => e = .returned (.bool true) ∧ Grown w w' := by
  go_enter Yba.func4, Yba.ntmps4
  go_wp2_with (go_at_call 10; refine (heading_45 _ _).mono ?_; rintro e w' ⟨rfl, rfl⟩)
  go_quiet (fail)
  go_wp2
  go_quiet (fail)
  go_wp2
  go_quiet (fail)
  go_wp2
  go_ret
  exact ⟨rfl, by repeat (first | exact Grown.refl _ | apply Grown.drew | apply Grown.alloc)⟩

set_option maxRecDepth 100000 in
set_option maxHeartbeats 1000000 in
theorem head5 (l p s r : Int) (w : World) (h : s % 6 = 5) (hs : 0 ≤ s ∧ s ≤ 255) :
    Calls Yba.prog 4 #[.int .u64 l, .int .u64 p, .int .u8 s, .int .u64 r] w fun e w' => e = .returned (.bool true) ∧ Grown w w' := by
  go_enter Yba.func4, Yba.ntmps4
  go_wp2_with (go_at_call 10; refine (heading_nil _).mono ?_; rintro e w' ⟨rfl, rfl⟩)
  go_quiet (fail)
  go_wp2
  go_quiet (fail)
  go_wp2
  go_quiet (fail)
  go_wp2
  go_ret
  exact ⟨rfl, by repeat (first | exact Grown.refl _ | apply Grown.drew | apply Grown.alloc)⟩
end Go.Proofs.Ybulkehja
