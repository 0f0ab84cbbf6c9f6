/- THE CONTRACTS of newCoin and state. -/
import Derived.Test.YbulkehkcTally
import Derived.Deep.RegionWith
namespace Go.Proofs.Ybulkehkc
open Go.RowKit

theorem Yba.info4 : (Yba.prog.info? 4).map (fun i => (i.zero, i.size, i.bytes)) = some (some (.bool false), 1, 1) := by kernel_rfl

abbrev cfgL (M F : Int) (sh : Bool) : List Value := [.int .i64 M, .int .i64 F, .bool sh, .bool false, .bool false, .bool false, .int .i64 0, .bool false]
abbrev cfgO (M F : Int) (sh : Bool) : Obj := .cells #[.int .i64 M, .int .i64 F, .bool sh, .bool false, .bool false, .bool false, .int .i64 0, .bool false] 26 (0, 0)
abbrev fnV (B : Nat) : Value := .func (Fn.func 4) #[] #[.pointer (some ⟨B, 0, none⟩)]
abbrev procO (B bm : Nat) (M F : Int) (sh : Bool) (id cur : Int) : Obj :=
  .cells #[.int .i64 M, .int .i64 F, .bool sh, .bool false, .bool false, .bool false, .int .i64 0, .bool false, .int .i64 id, fnV B, .int .i64 cur, .int .u8 1, .int .i8 1, .int .i8 0, .map (some bm), .bool false, .int .i8 0, .int .i64 0] 33 (0, 0)
abbrev coinO (B gc N : Nat) (F : Int) (sh : Bool) (id rd : Int) : Obj :=
  .cells #[.int .i64 N, .int .i64 F, .bool sh, .bool false, .bool false, .bool false, .int .i64 0, .bool false, .int .i64 id, .int .i64 rd, fnV B, .int .u8 0,
    .slice (some ⟨gc, 0, none⟩) N (2 * N), .int .i64 0, .int .i64 0, .int .i64 0, .slice (some ⟨gc, N, none⟩) N N, .int .i64 0, .int .i64 0, .int .i64 0, .bool false, .int .i8 0] 48 (0, 0)
/-- A round state as 'state' makes it. -/
abbrev rsNew (gc N : Nat) (coin : Value) : Obj :=
  .cells #[.slice (some ⟨gc, 0, none⟩) N (2 * N), .int .i64 0, .int .i64 0, .int .i64 0, .slice (some ⟨gc, N, none⟩) N N, .int .i64 0, .int .i64 0, .int .i64 0, coin] 43 (0, 0)

theorem made_bools (n : Nat) : (madeCells (Value.bool false).cells (n * 1)).toList = List.replicate n (Value.bool false) := by
  rw [show (Value.bool false).cells = #[Value.bool false] from rfl, toList_madeCells_one]; simp
theorem own_full {W : World} {B g n : Nat} {e : TypeId} {xs : List Value} (h : W.ownsRow B e 1 (.slice (some ⟨g, 0, none⟩) n n) n xs) : W.heap[g]? = some (.cells xs.toArray e (0, 0)) := by
  rcases h.2 with ⟨e, _⟩ | ⟨g', cap, cur, e, _, hg, _, _, hs, ht⟩
  · simp at e
  · simp only [Value.slice.injEq, Option.some.injEq, Addr.mk.injEq, and_true, true_and] at e
    obtain ⟨rfl, rfl⟩ := e
    have : cur.toList = xs := by rw [← ht]; exact (List.take_of_length_le (by simp [hs])).symm
    rw [hg, ← this]

section
variable {w : World} {ops : Array Oper} {rest : List Oper} {o : Oper} {a : Act} {Q : Exit → Act → World → Prop}
theorem make_law (hg : o.guard = none) (l : Operand) (hop : o.op = Op.makeSlice 37 l l) (C : Int) (N : Nat) (hl : a.eval l = .int .i64 C) (hC : C = 2 * (N : Int)) (hN : N < 1024)
    (hK : ∀ w', Blank w' w.heap.size N → Below w.heap.size w w' → w.heap.size < w'.heap.size → wpList Yba.prog ops Q rest (a.put o.dst (.slice (some ⟨w.heap.size, 0, none⟩) (2 * N) (2 * N))) w') :
    wpList Yba.prog ops Q (o :: rest) a w := by
  obtain ⟨i0, hi, hz0, hz1, hz2⟩ := info_parts Yba.info4
  refine wpList_make_full w hg l l 37 hop w.heap.size 4 i0 (.bool false) 1 Yba.underlying37 hi hz0 hz1 .i64 .i64 C C (2 * N) hl hl (by omega) (by omega) (by rw [hz2]; omega) (by unfold maxLen; omega) (Nat.le_refl _) ?_
  intro w' hown hgrow
  rw [made_bools] at hown
  have hB := own_full hown
  exact hK w' hB ((Below.refl _ _).grown hgrow (Nat.le_refl _) (by simp)) (lt_of_block hB)
end

/-- The eight cells of a Config at the head of block g. -/
theorem cfg_cells {w : World} {g : Nat} {M F : Int} {sh : Bool} (h : w.heap[g]? = some (cfgO M F sh)) :
    w.cell? ⟨g, 0, none⟩ = some (.int .i64 M) ∧ w.cell? ⟨g, 1, none⟩ = some (.int .i64 F) ∧ w.cell? ⟨g, 2, none⟩ = some (.bool sh) ∧ w.cell? ⟨g, 3, none⟩ = some (.bool false) ∧ w.cell? ⟨g, 4, none⟩ = some (.bool false) ∧
    w.cell? ⟨g, 5, none⟩ = some (.bool false) ∧ w.cell? ⟨g, 6, none⟩ = some (.int .i64 0) ∧ w.cell? ⟨g, 7, none⟩ = some (.bool false) := by
  refine ⟨?_, ?_, ?_, ?_, ?_, ?_, ?_, ?_⟩ <;> (rw [cell_of_row w g _ _ _ _ h]; rfl)

set_option maxHeartbeats 400000 in
theorem newCoin_any (B N : Nat) (F : Int) (sh : Bool) (id rd : Int) (w : World) (hN : N < 1024) :
    Calls Yba.prog 8 #[.agg (cfgL N F sh).toArray, .int .i64 id, .int .i64 rd, fnV B] w fun e w' => ∃ gc gb, e = .returned (.pointer (some ⟨gb, 0, none⟩)) ∧ w.heap.size ≤ gc ∧ gc < gb ∧ Blank w' gc N ∧ w'.heap[gb]? = some (coinO B gc N F sh id rd) ∧ Below w.heap.size w w' := by
  have hcut : 0 < N → (N : Int) < 2 * (N : Int) := by omega
  have fin : ∀ w1 : World, Blank w1 (w.heap.size + 1) N → Below (w.heap.size + 1) (w.alloc (cfgO N F sh)) w1 → w.heap.size + 1 < w1.heap.size →
      ∃ gc gb, Ending.returned (.pointer (some ⟨w1.heap.size, 0, none⟩)) = .returned (.pointer (some ⟨gb, 0, none⟩)) ∧ w.heap.size ≤ gc ∧ gc < gb ∧ Blank ((w1.alloc (coinO B (w.heap.size + 1) N F sh id rd)).drew) gc N ∧
        ((w1.alloc (coinO B (w.heap.size + 1) N F sh id rd)).drew).heap[gb]? = some (coinO B gc N F sh id rd) ∧ Below w.heap.size w ((w1.alloc (coinO B (w.heap.size + 1) N F sh id rd)).drew) := by
    intro w1 hb1 hbel1 hs1
    refine ⟨w.heap.size + 1, w1.heap.size, rfl, by omega, hs1, ?_, heap_alloc_new _ _, ?_⟩
    · exact (Below.heap_alloc w1 _ _ hs1).trans hb1
    · have hb2 : Below w.heap.size w (w1.alloc (coinO B (w.heap.size + 1) N F sh id rd)) := (((Below.refl _ _).alloc (Nat.le_refl _) _).trans (hbel1.mono (by omega))).alloc (by omega) _
      exact ⟨hb2.os, hb2.tape, hb2.output, hb2.size, hb2.block⟩
  have FIN := hid fin
  clear fin
  by_cases h0 : N = 0
  · subst h0
    go_enter Yba.func8, Yba.ntmps8
    go_wp2_with (at_make; refine make_law rfl (.tmp 12) rfl _ 0 rfl rfl (by omega) ?_; intro w1 hb1 hbel1 hs1)
    have hbk : w1.heap[w.heap.size]? = some (cfgO (0 : Nat) F sh) := (hbel1.block _ (by simp)).trans (heap_alloc_new w _)
    obtain ⟨c0, c1, c2, c3, c4, c5, c6, c7⟩ := cfg_cells hbk
    have HB1 := hid hb1
    have HBEL := hid hbel1
    clear hb1 hbel1 hbk
    go_region
    go_wp2
    go_ret
    have es : (w.alloc (Obj.cells (cfgL 0 F sh).toArray 26)).heap.size = w.heap.size + 1 := by simp
    have b1 := HB1.out
    have b2 := HBEL.out
    rw [es] at b1 b2 hs1
    exact FIN.out w1 b1 b2 hs1
  · have hpos : 0 < N := by omega
    go_enter Yba.func8, Yba.ntmps8
    go_wp2_with (at_make; refine make_law rfl (.tmp 12) rfl _ N rfl rfl hN ?_; intro w1 hb1 hbel1 hs1)
    have hbk : w1.heap[w.heap.size]? = some (cfgO N F sh) := (hbel1.block _ (by simp)).trans (heap_alloc_new w _)
    obtain ⟨c0, c1, c2, c3, c4, c5, c6, c7⟩ := cfg_cells hbk
    have HB1 := hid hb1
    have HBEL := hid hbel1
    clear hb1 hbel1 hbk
    go_region
    go_wp2
    go_ret
    have es : (w.alloc (Obj.cells (cfgL N F sh).toArray 26)).heap.size = w.heap.size + 1 := by simp
    have b1 := HB1.out
    have b2 := HBEL.out
    rw [es] at b1 b2 hs1
    rw [show 2 * N - N = N from by omega]
    exact FIN.out w1 b1 b2 hs1
end Go.Proofs.Ybulkehkc
