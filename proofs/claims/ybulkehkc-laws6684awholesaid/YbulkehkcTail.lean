/- WHAT THE LAW READS OF A NEW ROUND STATE. -/
import Derived.Test.YbulkehkcView
namespace Go.Proofs.Ybulkehkc
open Go.RowKit

structure Tail (B : Nat) (w0 W : World) (N : Nat) (F : Int) (sh : Bool) (gr gc : Nat) (coin : Value) : Prop where
  below : Below B w0 W
  calls : W.heap[B]? = some (.cells #[.int .i64 0] 3 (0, 0))
  cfg : W.heap[B + 1]? = some (cfgO N F sh)
  rs : W.heap[gr]? = some (rsNew gc N coin)
  lo : B + 4 ≤ W.heap.size
  gclo : B + 4 ≤ gc

section
variable {B N gr gc gx : Nat} {w0 W W' : World} {F : Int} {sh : Bool} {coin : Value}
theorem Tail.ext (h : Tail B w0 W N F sh gr gc coin) (hb : Below W.heap.size W W') : Tail B w0 W' N F sh gr gc coin :=
  ⟨h.below.trans (hb.mono (by have := h.lo; omega)), (hb.block _ (lt_of_block h.calls)).trans h.calls, (hb.block _ (lt_of_block h.cfg)).trans h.cfg, (hb.block _ (lt_of_block h.rs)).trans h.rs, Nat.le_trans h.lo hb.size, h.gclo⟩
theorem Tail.still (h : Tail B w0 W N F sh gr gc coin) (hs : Still W W') : Tail B w0 W' N F sh gr gc coin := h.ext (hs.below _)
/-- A row of bools is written. -/
theorem Tail.grown (h : Tail B w0 W N F sh gr gc coin) (hg : W.grownBy W' (some gx)) (hlo : B + 4 ≤ gx) (hx : ∃ cs, W.heap[gx]? = some (.cells cs 4 (0, 0))) : Tail B w0 W' N F sh gr gc coin := by
  refine ⟨h.below.grown hg (by have := h.lo; omega) (fun k e => by have := Option.some.inj e; omega), grown_block hg h.calls (fun e => by have := Option.some.inj e; omega), grown_block hg h.cfg (fun e => by have := Option.some.inj e; omega), grown_block hg h.rs (fun e => ?_), Nat.le_trans h.lo hg.size, h.gclo⟩
  obtain ⟨cs, hx⟩ := hx
  rw [← Option.some.inj e, h.rs] at hx
  simp at hx
theorem Blank.ext {w w' : World} {g N : Nat} (h : Blank w g N) (hb : Below w.heap.size w w') : Blank w' g N := (hb.block _ (lt_of_block h)).trans h
theorem Blank.still {w w' : World} {g N : Nat} (h : Blank w g N) (hs : Still w w') : Blank w' g N := h.ext (hs.below _)
theorem Blank.grown {w w' : World} {g N gx : Nat} (h : Blank w g N) (hg : w.grownBy w' (some gx)) (hne : g ≠ gx) : Blank w' g N := grown_block hg h (fun e => hne (Option.some.inj e))
theorem Blank.row {w : World} {g N : Nat} (h : Blank w g N) : ∃ cs, w.heap[g]? = some (.cells cs 4 (0, 0)) := ⟨_, h⟩
theorem coin_ext {w w' : World} {gb gcc : Nat} {id rd : Int} (h : w.heap[gb]? = some (coinO B gcc N F sh id rd)) (hb : Below w.heap.size w w') : w'.heap[gb]? = some (coinO B gcc N F sh id rd) := (hb.block _ (lt_of_block h)).trans h
theorem coin_grown {w w' : World} {gb gcc : Nat} {id rd : Int} (h : w.heap[gb]? = some (coinO B gcc N F sh id rd)) (hg : w.grownBy w' (some gx)) (hx : ∃ cs, w.heap[gx]? = some (.cells cs 4 (0, 0))) : w'.heap[gb]? = some (coinO B gcc N F sh id rd) := by
  refine grown_block hg h (fun e => ?_)
  obtain ⟨cs, hx⟩ := hx
  rw [← Option.some.inj e, h] at hx
  simp at hx

theorem rsnew_cells {w : World} {g : Nat} (h : w.heap[g]? = some (rsNew gc N coin)) :
    w.cell? ⟨g, 0, none⟩ = some (.slice (some ⟨gc, 0, none⟩) N (2 * N)) ∧ w.cell? ⟨g, 1, none⟩ = some (.int .i64 0) ∧ w.cell? ⟨g, 2, none⟩ = some (.int .i64 0) ∧ w.cell? ⟨g, 3, none⟩ = some (.int .i64 0) ∧ w.cell? ⟨g, 4, none⟩ = some (.slice (some ⟨gc, N, none⟩) N N) ∧
    w.cell? ⟨g, 5, none⟩ = some (.int .i64 0) ∧ w.cell? ⟨g, 6, none⟩ = some (.int .i64 0) ∧ w.cell? ⟨g, 7, none⟩ = some (.int .i64 0) ∧ w.cell? ⟨g, 8, none⟩ = some coin := by
  refine ⟨?_, ?_, ?_, ?_, ?_, ?_, ?_, ?_, ?_⟩ <;> (rw [cell_of_row w g _ _ _ _ h]; rfl)
theorem coin_cells {w : World} {gb gcc : Nat} {id rd : Int} (h : w.heap[gb]? = some (coinO B gcc N F sh id rd)) :
    w.cell? ⟨gb, 0, none⟩ = some (.int .i64 N) ∧ w.cell? ⟨gb, 1, none⟩ = some (.int .i64 F) ∧ w.cell? ⟨gb, 2, none⟩ = some (.bool sh) ∧ w.cell? ⟨gb, 3, none⟩ = some (.bool false) ∧ w.cell? ⟨gb, 4, none⟩ = some (.bool false) ∧
    w.cell? ⟨gb, 5, none⟩ = some (.bool false) ∧ w.cell? ⟨gb, 6, none⟩ = some (.int .i64 0) ∧ w.cell? ⟨gb, 7, none⟩ = some (.bool false) ∧ w.cell? ⟨gb, 8, none⟩ = some (.int .i64 id) ∧ w.cell? ⟨gb, 9, none⟩ = some (.int .i64 rd) ∧ w.cell? ⟨gb, 10, none⟩ = some (fnV B) ∧ w.cell? ⟨gb, 11, none⟩ = some (.int .u8 0) ∧
    w.cell? ⟨gb, 12, none⟩ = some (.slice (some ⟨gcc, 0, none⟩) N (2 * N)) ∧ w.cell? ⟨gb, 13, none⟩ = some (.int .i64 0) ∧ w.cell? ⟨gb, 14, none⟩ = some (.int .i64 0) ∧ w.cell? ⟨gb, 15, none⟩ = some (.int .i64 0) ∧ w.cell? ⟨gb, 16, none⟩ = some (.slice (some ⟨gcc, N, none⟩) N N) ∧
    w.cell? ⟨gb, 17, none⟩ = some (.int .i64 0) ∧ w.cell? ⟨gb, 18, none⟩ = some (.int .i64 0) ∧ w.cell? ⟨gb, 19, none⟩ = some (.int .i64 0) ∧ w.cell? ⟨gb, 20, none⟩ = some (.bool false) ∧ w.cell? ⟨gb, 21, none⟩ = some (.int .i8 0) := by
  refine ⟨?_, ?_, ?_, ?_, ?_, ?_, ?_, ?_, ?_, ?_, ?_, ?_, ?_, ?_, ?_, ?_, ?_, ?_, ?_, ?_, ?_, ?_⟩ <;> (rw [cell_of_row w gb _ _ _ _ h]; rfl)
end

theorem fn_nil (B : Nat) (X : World) : (binOp .eql 24 (.func (Fn.func 4) #[] #[.pointer (some ⟨B, 0, none⟩)]) .nilFunc).run Yba.prog X = .ok (.bool false) X := by kernel_rfl

/-- The tally's contract over an abstract world. -/
theorem tally_lo (g N c : Nat) (w : World) (hN : N < 1024) (hb : Blank w g N) :
    Calls Yba.prog 6 #[.agg #[.slice (some ⟨g, 0, none⟩) N c, .int .i64 0, .int .i64 0, .int .i64 0], .int .i64 N] w fun e w' => e = .returned (.bool true) ∧ Below w.heap.size w w' := by
  refine (tally_any g 0 N c w hN (lt_of_block hb) (fun j hj => by rw [Nat.zero_add]; exact hb.cell (by omega))).mono ?_
  rintro e w' ⟨rfl, rfl⟩
  exact ⟨rfl, (Below.refl _ _).alloc (Nat.le_refl _) _⟩
theorem tally_hi (g N c : Nat) (w : World) (hN : N < 1024) (hb : Blank w g N) :
    Calls Yba.prog 6 #[.agg #[.slice (some ⟨g, N, none⟩) N c, .int .i64 0, .int .i64 0, .int .i64 0], .int .i64 N] w fun e w' => e = .returned (.bool true) ∧ Below w.heap.size w w' := by
  refine (tally_any g N N c w hN (lt_of_block hb) (fun j hj => hb.cell (by omega))).mono ?_
  rintro e w' ⟨rfl, rfl⟩
  exact ⟨rfl, (Below.refl _ _).alloc (Nat.le_refl _) _⟩
end Go.Proofs.Ybulkehkc
