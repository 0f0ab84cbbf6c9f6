/- WHAT THE LAW READS BEHIND THE CALL OF state. -/
import Derived.Test.YbulkehkcInv
import Derived.Test.YbulkehkcStates
import Derived.LaidEql
namespace Go.Proofs.Ybulkehkc
open Go.RowKit

structure Still (w w' : World) : Prop where
  os : w'.os = w.os
  tape : w'.tape = w.tape
  output : w'.output = w.output
  heap : w'.heap = w.heap
theorem Still.refl (w : World) : Still w w := ⟨rfl, rfl, rfl, rfl⟩
theorem Still.drewN (w : World) (n : Nat) : Still w (w.drewN n) := ⟨rfl, rfl, rfl, rfl⟩
theorem Still.trans {a b c : World} (h : Still a b) (k : Still b c) : Still a c := ⟨k.os.trans h.os, k.tape.trans h.tape, k.output.trans h.output, k.heap.trans h.heap⟩
theorem Still.below {w w' : World} (h : Still w w') (B : Nat) : Below B w w' := ⟨h.os, h.tape, h.output, by rw [h.heap]; exact Nat.le_refl _, fun _ _ => by rw [h.heap]⟩

structure View (B : Nat) (w0 W : World) (N : Nat) (F : Int) (sh : Bool) (id cur : Int) (kv pv cv : Value) (n : Nat) (K C : List Int) (P : List Nat) (n' : Nat) (f : Int → Option Nat) (sz : Nat) : Prop where
  below : Below B w0 W
  calls : W.heap[B]? = some (.cells #[.int .i64 0] 3 (0, 0))
  cfg : W.heap[B + 1]? = some (cfgO N F sh)
  map : IMap W (B + 1 + 1) n' f sz
  proc : W.heap[B + 1 + 1 + 1]? = some (procO B (B + 1 + 1) N F sh id cur)
  keys : W.ownsRow (B + 4) 3 1 kv n (K.map (Value.int .i64))
  ptrs : W.ownsRow (B + 4) 35 1 pv n (P.map fun b => .pointer (some ⟨b, 0, none⟩))
  cnts : W.ownsRow (B + 4) 3 1 cv n (C.map (Value.int .i64))
  klen : K.length = n
  clen : C.length = n
  plen : P.length = n
  kwf : ∀ k ∈ K, (Lit.int .i64 k).wf = true
  rs : ∀ j, j < n → W.heap[P.getD j 0]? = some (rsO (C.getD j 0))
  hit : ∀ j, j < n → f (K.getD j 0) = some (P.getD j 0)

section
variable {B N n n' sz : Nat} {w0 wr W W' : World} {F : Int} {sh : Bool} {id cur rd : Int} {kv pv cv : Value} {K C : List Int} {P : List Nat} {f : Int → Option Nat}

theorem Inv.view (h : Inv B w0 wr N F sh id cur kv pv cv n K C P f) : View B w0 wr N F sh id cur kv pv cv n K C P n f n :=
  ⟨h.below, h.calls, h.cfg, h.map, h.proc, h.keys, h.ptrs, h.cnts, h.klen, h.clen, h.plen, h.kwf, h.rs, h.hit⟩

theorem View.still (h : View B w0 W N F sh id cur kv pv cv n K C P n' f sz) (hs : Still W W') : View B w0 W' N F sh id cur kv pv cv n K C P n' f sz :=
  ⟨h.below.trans (hs.below _), by rw [hs.heap]; exact h.calls, by rw [hs.heap]; exact h.cfg, h.map.kept (by rw [hs.heap]), by rw [hs.heap]; exact h.proc, own_kept h.keys (fun _ _ => by rw [hs.heap]), own_kept h.ptrs (fun _ _ => by rw [hs.heap]), own_kept h.cnts (fun _ _ => by rw [hs.heap]), h.klen, h.clen, h.plen, h.kwf, fun j hj => by rw [hs.heap]; exact h.rs j hj, h.hit⟩

/-- Behind a call of state that has made a round. -/
theorem Inv.view_new (h : Inv B w0 wr N F sh id cur kv pv cv n K C P f) (g : Nat) (hf : f rd = none) (hm : IMap W (B + 1 + 1) (n + 1) (setF f rd g) (n + 1)) (hg : wr.grownBy W (some (B + 1 + 1))) :
    View B w0 W N F sh id cur kv pv cv n K C P (n + 1) (setF f rd g) (n + 1) := by
  have hz := lt_of_block h.proc
  refine ⟨h.below.grown hg (by omega) (fun k e => by have := Option.some.inj e; omega), grown_block hg h.calls (fun e => by have := Option.some.inj e; omega), grown_block hg h.cfg (fun e => by have := Option.some.inj e; omega), hm, grown_block hg h.proc (fun e => by have := Option.some.inj e; omega), ?_, ?_, ?_, h.klen, h.clen, h.plen, h.kwf, ?_, ?_⟩
  · exact h.keys.kept hg (.inr fun e => by have := (own_block h.keys e).1; omega)
  · exact h.ptrs.kept hg (.inr fun e => by have := (own_block h.ptrs e).1; omega)
  · exact h.cnts.kept hg (.inr fun e => by have := (own_block h.cnts e).1; omega)
  · intro j hj
    exact grown_block hg (h.rs j hj) (fun e => by have := Option.some.inj e; have := h.pge j hj; omega)
  · intro j hj
    unfold setF
    rw [if_neg (fun e => by have := h.hit j hj; rw [e, hf] at this; cases this)]
    exact h.hit j hj

theorem info43 : ∃ i, Yba.prog.info? 43 = some i := by
  cases h : Yba.prog.info? 43 with
  | none => exact absurd h (by have e : (Yba.prog.info? 43).isSome = true := by kernel_rfl
                               intro h'; rw [h'] at e; cases e)
  | some i => exact ⟨i, rfl⟩
theorem ptr_same (d : Nat) (a : Addr) (X : World) : (Op.equalIn (d + 1) 35 (.pointer (some a)) (.pointer (some a))).run Yba.prog X = .ok true X := by
  obtain ⟨i, hi⟩ := info43
  simp [Op.equalIn, run_underlying Yba.underlying35, typeInfo, sizeOf, run_sameAddr_same, hi]
theorem ptr_eql (a : Addr) (X : World) : (binOp .eql 35 (.pointer (some a)) (.pointer (some a))).run Yba.prog X = .ok (.bool true) X := by
  simp only [binOp]
  simp [Op.equal, Op.maxDepth, ptr_same 9999 a X]
theorem ptr_neq (a : Addr) (X : World) : (binOp .neq 35 (.pointer (some a)) (.pointer (some a))).run Yba.prog X = .ok (.bool false) X := by
  simp only [binOp]
  simp [Op.equal, Op.maxDepth, ptr_same 9999 a X]

/-- The nine cells of a round state. -/
theorem rs_cells {w : World} {g : Nat} {c : Int} (h : w.heap[g]? = some (rsO c)) :
    w.cell? ⟨g, 0, none⟩ = some (.slice none 0 0) ∧ w.cell? ⟨g, 1, none⟩ = some (.int .i64 c) ∧ w.cell? ⟨g, 4, none⟩ = some (.slice none 0 0) ∧ w.cell? ⟨g, 8, none⟩ = some (.pointer none) := by
  refine ⟨?_, ?_, ?_, ?_⟩ <;> (rw [cell_of_row w g _ _ _ _ h]; rfl)
end
end Go.Proofs.Ybulkehkc
