/- THE CONTRACTS of bytes.Equal and slices.Equal at []uint64. -/
import Derived.Test.YbulkehjaSet
import Derived.Laws.BytesArg
namespace Go.Proofs.Ybulkehja
open Go.RowKit

theorem conv_own {W : World} {B n : Nat} {v : Value} {L : List Int} (h : W.ownsRow B 5 1 v n (L.map (Value.int .u8))) : (convert 24 9 v).run Yba.prog W = .ok (.string (strOfNums L)) W := by
  have hl : L.length = n := by simpa using h.1
  obtain ⟨a, c, rfl⟩ := own_shape h
  rcases h.2 with ⟨e, e0⟩ | ⟨g, cap, cur, e, _⟩
  · simp only [Value.slice.injEq] at e
    obtain ⟨rfl, _, rfl⟩ := e
    subst e0
    obtain rfl : L = [] := List.eq_nil_of_length_eq_zero hl
    exact run_convert_bytes_nil W 24 5 Yba.underlying24 Yba.underlying5 0 0 9 Yba.underlying9
  · simp only [Value.slice.injEq] at e
    obtain ⟨rfl, _, rfl⟩ := e
    refine run_convert_bytes_arg W 24 5 Yba.underlying24 Yba.underlying5 g 0 n c L hl (fun i hi => ?_) 9 Yba.underlying9
    rw [Nat.zero_add]
    exact row_cell h hi

set_option maxHeartbeats 400000 in
theorem bytes_equal (v1 v2 : Value) (n1 n2 B1 B2 : Nat) (L : List Int) (w : World) (h1 : w.ownsRow B1 5 1 v1 n1 (L.map (Value.int .u8))) (h2 : w.ownsRow B2 5 1 v2 n2 (L.map (Value.int .u8))) :
    Calls Yba.prog 8 #[v1, v2] w fun e w' => e = .returned (.bool true) ∧ w' = w := by
  have c1 := conv_own h1
  have c2 := conv_own h2
  clear h1 h2
  go_enter Yba.func8, Yba.ntmps8
  go_wp2
  go_ret
  exact ⟨rfl, rfl⟩

set_option maxHeartbeats 400000 in
theorem slices_equal (v : Value) (n c2 B : Nat) (a2 : Option Addr) (L : List Int) (w : World) (hn : n ≤ 1048576) (h1 : w.ownsRow B 22 1 v n (L.map (Value.int .u64))) (h2 : Src .u64 w a2 n L) :
    Calls Yba.prog 9 #[v, .slice a2 n c2] w fun e w' => e = .returned (.bool true) ∧ Still w w' := by
  have hl : L.length = n := by simpa using h1.1
  have HL := hid hl
  clear hl
  obtain ⟨a1, c1, rfl⟩ := own_shape h1
  have H1 := hid h1
  have H2 := hid h2
  clear h1 h2
  go_enter Yba.func9, Yba.ntmps9
  go_wp2
  go_loopw [13] (fun i wr => ∃ k : Nat, k ≤ n ∧ i = .int .i64 k ∧ Still w wr) (fun i _ => n - (intOf i).toNat)
  case atStart => exact ⟨0, Nat.zero_le _, rfl, Still.refl _⟩
  case round =>
    obtain ⟨k, hk, rfl, hst⟩ := hrel
    by_cases hlt : k < n
    · obtain ⟨g, rfl, _⟩ := own_pos H1.out (by omega)
      obtain ⟨b, off, rfl, hc2⟩ := H2.out.cell k hlt
      have hc1 : wr.cell? ⟨g, k, none⟩ = some (.int .u64 (L.getD k 0)) := by
        rw [hst.cell, H1.out.cellAt k (by omega)]
        simp [List.getD, List.getElem?_map, List.getElem?_eq_getElem (show k < L.length by rw [HL.out]; exact hlt)]
      have hc2' : wr.cell? ⟨b, off + k, none⟩ = some (.int .u64 (L.getD k 0)) := by rw [hst.cell]; exact hc2
      obtain ⟨x, hx⟩ : ∃ x, x = L.getD k 0 := ⟨_, rfl⟩
      rw [← hx] at hc1 hc2'
      clear hx hc2
      go_wp2
      go_quiet (fail)
      go_wp2
      go_roundw
      case rel => exact ⟨k + 1, by omega, by go_num, hst.trans (Still.drewN _ _)⟩
      case measure => simp [intOf]; omega
    · go_wp2
      go_ret
      exact ⟨rfl, hst⟩
end Go.Proofs.Ybulkehja
