/- THE CONTRACTS of zzs6684atally, zzs6684asep, newCoin and the closure. -/
import Derived.Test.YbulkehkcParts
import Derived.Laws.EntriesVeiled
import Derived.RegionTactic
import Derived.ChangeAlike
import Derived.Deep.QuietTactic
import Derived.BigQuiet
import Derived.Deep.LoopGhost
namespace Go.Proofs.Ybulkehkc
open Go.RowKit

/-- Block g is a row of 2N bools, those from N on (at least) false. -/
def Half (w : World) (g N : Nat) : Prop := ∃ cs, w.heap[g]? = some (.cells cs 4 (0, 0)) ∧ cs.size = 2 * N ∧ ∀ j, N ≤ j → j < 2 * N → cs[j]? = some (.bool false)
/-- Block g is a row of 2N bools, all false. -/
def Blank (w : World) (g N : Nat) : Prop := w.heap[g]? = some (.cells (List.replicate (2 * N) (Value.bool false)).toArray 4 (0, 0))
theorem Blank.half {w : World} {g N : Nat} (h : Blank w g N) : Half w g N := ⟨_, h, by simp, fun j _ hj => by simp [hj]⟩
theorem Blank.cell {w : World} {g N j : Nat} (h : Blank w g N) (hj : j < 2 * N) : w.cell? ⟨g, j, none⟩ = some (.bool false) := by
  rw [cell_of_row w g j _ _ _ h]; simp [hj]
theorem Half.free {w : World} {g N j : Nat} (h : Half w g N) : w.frozen? ⟨g, j, none⟩ = false := by
  obtain ⟨cs, h, _⟩ := h; exact frozen_of_row w g j _ _ h
theorem Half.holds {w : World} {g N j : Nat} (h : Half w g N) (hj : j < 2 * N) : ∃ v, w.cell? ⟨g, j, none⟩ = some v := by
  obtain ⟨cs, h, hs, _⟩ := h; exact ⟨cs[j], by rw [cell_of_row w g j _ _ _ h]; simp [hs, hj]⟩
theorem Half.cell {w : World} {g N j : Nat} (h : Half w g N) (h1 : N ≤ j) (hj : j < 2 * N) : w.cell? ⟨g, j, none⟩ = some (.bool false) := by
  obtain ⟨cs, h, hs, hc⟩ := h; rw [cell_of_row w g j _ _ _ h]; exact hc j h1 hj
theorem Half.stored {w : World} {g N j : Nat} (h : Half w g N) (hj : j < N) (u : Value) : Half (w.setCell ⟨g, j, none⟩ u) g N := by
  obtain ⟨cs, h, hs, hc⟩ := h
  refine ⟨_, heap_setCell_same w g j _ _ u h, by simpa using hs, fun i h1 h2 => ?_⟩
  rw [Array.getElem?_setIfInBounds_ne (by omega)]
  exact hc i h1 h2
theorem grown_setCell (w : World) (g j : Nat) (u : Value) : w.grownBy (w.setCell ⟨g, j, none⟩ u) (some g) :=
  ⟨rfl, rfl, rfl, by simp [World.setCell], fun k _ hk => heap_setCell_other w ⟨g, j, none⟩ k u (fun e => hk (by rw [e]))⟩

set_option maxHeartbeats 400000 in
theorem tally_any (g off N c : Nat) (w : World) (hN : N < 1024) (hg : g < w.heap.size) (hc : ∀ j, j < N → w.cell? ⟨g, off + j, none⟩ = some (.bool false)) :
    Calls Yba.prog 6 #[.agg #[.slice (some ⟨g, off, none⟩) N c, .int .i64 0, .int .i64 0, .int .i64 0], .int .i64 N] w fun e w' => e = .returned (.bool true) ∧ w' = w.alloc (.cells #[.slice (some ⟨g, off, none⟩) N c, .int .i64 0, .int .i64 0, .int .i64 0] 40) := by
  have HC := hid hc
  clear hc
  go_enter Yba.func6, Yba.ntmps6
  go_wp2
  go_loop [5] (fun i => ∃ k : Nat, k ≤ N ∧ i = .int .i64 k) (fun i => N - (intOf i).toNat)
  case atStart => exact ⟨0, Nat.zero_le _, rfl⟩
  case round =>
    obtain ⟨k, hk, rfl⟩ := hrel
    by_cases hlt : k < N
    · have hcx : w.cell? ⟨g, off + k, none⟩ = some (.bool false) := HC.out k hlt
      go_wp2
      go_round
      case rel => exact ⟨k + 1, by omega, by go_num⟩
      case measure => simp [intOf]; omega
    · go_wp2
      go_ret
      exact ⟨rfl, rfl⟩

set_option maxHeartbeats 400000 in
theorem sep_any (g N c1 c2 : Nat) (w : World) (hN : N < 1024) (hh : Half w g N) :
    Calls Yba.prog 7 #[.slice (some ⟨g, 0, none⟩) N c1, .slice (some ⟨g, N, none⟩) N c2] w fun e w' => e = .returned (.bool true) ∧ w.grownBy w' (some g) := by
  have HH := hid hh
  clear hh
  go_enter Yba.func7, Yba.ntmps7
  go_wp2
  go_loopw [5] (fun i wr => ∃ k : Nat, k ≤ N ∧ i = .int .i64 k ∧ Hid (Half wr g N) ∧ w.grownBy wr (some g)) (fun i _ => N - (intOf i).toNat)
  case atStart => exact ⟨0, Nat.zero_le _, rfl, HH, ⟨rfl, rfl, rfl, Nat.le_refl _, fun _ _ _ => rfl⟩⟩
  case round =>
    obtain ⟨k, hk, rfl, HR, hgr⟩ := hrel
    by_cases hlt : k < N
    · obtain ⟨v, hcx⟩ := HR.out.holds (j := k) (by omega)
      have hfx := HR.out.free (j := k)
      go_wp2
      go_roundw
      case rel => exact ⟨k + 1, by omega, by go_num, HR.out.stored hlt _, hgr.trans (grown_setCell _ _ _ _)⟩
      case measure => simp [intOf]; omega
    · go_wp2
      go_loop [6] (fun i => ∃ k : Nat, k ≤ N ∧ i = .int .i64 k) (fun i => N - (intOf i).toNat)
      case atStart => exact ⟨0, Nat.zero_le _, rfl⟩
      case round =>
        obtain ⟨j, hj, rfl⟩ := hrel
        by_cases hjt : j < N
        · have hcx : wr.cell? ⟨g, N + j, none⟩ = some (.bool false) := HR.out.cell (by omega) (by omega)
          go_wp2
          go_round
          case rel => exact ⟨j + 1, by omega, by go_num⟩
          case measure => simp [intOf]; omega
        · go_wp2
          go_ret
          exact ⟨rfl, hgr⟩

set_option maxHeartbeats 400000 in
theorem closure_any (B : Nat) (x : Int) (w : World) (hx : 0 ≤ x ∧ x ≤ 1000) (h0 : w.cell? ⟨B, 0, none⟩ = some (.int .i64 0)) (hf : w.frozen? ⟨B, 0, none⟩ = false) :
    Calls Yba.prog 4 #[.int .i64 x, .pointer (some ⟨B, 0, none⟩)] w fun e w' => e = .returned (.int .i64 (x + 7)) ∧ w' = w.setCell ⟨B, 0, none⟩ (.int .i64 1) := by
  go_enter Yba.func4, Yba.ntmps4
  go_wp2
  go_ret
  exact ⟨rfl, rfl⟩
end Go.Proofs.Ybulkehkc
