/- SMALL LAWS ON WORLDS AND ON THE MAP p.rounds for LawS6684AWhole. -/
import Derived.Test.YbulkehkcRows
import Derived.WalkKit
import Derived.ProofKit
import Derived.OneCell
import Derived.Deep.Draws
import Derived.Maps.OwnSet
import Derived.Maps.OwnOps
import Derived.Maps.AppendAt
namespace Go.Proofs.Ybulkehkc
open Go.RowKit Go.Maps

theorem hid {p : Prop} (h : p) : Hid p := h

/-- How a pointer in the map reads: by its block. -/
def ptrR (v : Value) : Option (DataW Unit × List MemPlace) :=
  match v with
  | .pointer none => some (.nil, [])
  | .pointer (some ⟨b, 0, none⟩) => some (.lit (.int .i64 b), [])
  | _ => none
/-- The pointer's value. -/
def ptrV : Option Nat → Value
  | none => .pointer none
  | some b => .pointer (some ⟨b, 0, none⟩)
def ptrD : Option Nat → DataW Unit
  | none => .nil
  | some b => .lit (.int .i64 b)
theorem ptrR_mk (p : Option Nat) : ptrR (ptrV p) = some (ptrD p, []) := by cases p <;> rfl
theorem ptrR_inv {v : Value} {p : Option Nat} {ps : List MemPlace} (h : ptrR v = some (ptrD p, ps)) : v = ptrV p := by
  unfold ptrR at h
  split at h
  · cases p with
    | none => rfl
    | some b => simp [ptrD] at h
  · cases p with
    | none => simp [ptrD] at h
    | some b => simp [ptrD] at h; obtain ⟨h, _⟩ := h; rw [Int.ofNat_inj.1 h]; rfl
  · cases h

theorem keyLaw : Keyed Yba.prog 3 := int_keyed Yba.underlying3
theorem zeroE (w : World) : (zeroValue 35).run Yba.prog w = .ok (ptrV none) w := by kernel_rfl

/-- Block b of w is the map f, of sz entries (at most n). -/
def IMap (w : World) (b n : Nat) (f : Int → Option Nat) (sz : Nat) : Prop :=
  ∃ D : DataW Unit, w.ownsMap Yba.prog 3 ptrR b n D ∧ (∀ k : Int, (Lit.int .i64 k).wf = true → Maps.has D (.int .i64 k) = (f k).isSome ∧ D.atKey (.int .i64 k) .nil = ptrD (f k)) ∧ Maps.size D = sz

theorem IMap.kept {w w' : World} {b n sz : Nat} {f : Int → Option Nat} (h : IMap w b n f sz) (hb : w'.heap[b]? = w.heap[b]?) : IMap w' b n f sz := by
  obtain ⟨D, ⟨es, clock, hh, r⟩, h2⟩ := h
  exact ⟨D, ⟨es, clock, hb.trans hh, r⟩, h2⟩
theorem IMap.lt {w : World} {b n sz : Nat} {f : Int → Option Nat} (h : IMap w b n f sz) : b < w.heap.size := by
  obtain ⟨D, h1, _⟩ := h
  exact h1.lt
theorem IMap.isMap {w : World} {b n sz : Nat} {f : Int → Option Nat} (h : IMap w b n f sz) : ∃ es clock, w.heap[b]? = some (.map es clock) := by
  obtain ⟨D, ⟨es, clock, hh, r⟩, h2⟩ := h
  exact ⟨es, clock, hh⟩
theorem IMap.made (w : World) : IMap (w.alloc (.map #[] 0)) w.heap.size 0 (fun _ => none) 0 :=
  ⟨_, World.ownsMap_made w Yba.prog 3 ptrR, fun _ _ => ⟨rfl, rfl⟩, rfl⟩

def setF (f : Int → Option Nat) (k : Int) (p : Nat) : Int → Option Nat := fun x => if x = k then some p else f x

section
variable {w : World} {ops : Array Oper} {rest : List Oper} {o : Oper} {a : Act} {Q : Exit → Act → World → Prop}

theorem look_law (hg : o.guard = none) (m x : Operand) (hop : o.op = Op.lookup 31 m x true) (b n sz : Nat) (f : Int → Option Nat) (hown : IMap w b n f sz) (k : Int) (hk : (Lit.int .i64 k).wf = true)
    (hm : a.eval m = .map (some b)) (hx : a.eval x = .int .i64 k) (p : Option Nat) (hp : f k = p)
    (hK : wpList Yba.prog ops Q rest (a.put o.dst (.tuple #[ptrV p, .bool p.isSome])) w) : wpList Yba.prog ops Q (o :: rest) a w := by
  obtain ⟨D, h1, h2, _⟩ := hown
  obtain ⟨hh, hat⟩ := h2 k hk
  refine wpList_lookup_own_ok w hg m x 31 hop 3 35 keyLaw Yba.underlying31 ptrR (zeroE w) (ptrD none) [] (ptrR_mk none) b n D hm h1 _ (.int .i64 k) hx (keyOf_int_mk Yba.underlying3 hk) ?_
  intro v ps hv
  rw [show (ptrD none) = (DataW.nil : DataW Unit) from rfl, hat, hp] at hv
  rw [ptrR_inv hv, hh, hp]
  exact hK

theorem store_law (hg : o.guard = none) (m x v : Operand) (hop : o.op = Op.mapUpdate 31 m x v) (b n sz : Nat) (f : Int → Option Nat) (hown : IMap w b n f sz) (hn : n ≤ 1048576) (k : Int) (hk : (Lit.int .i64 k).wf = true) (p : Nat)
    (hm : a.eval m = .map (some b)) (hx : a.eval x = .int .i64 k) (hv : a.eval v = .pointer (some ⟨p, 0, none⟩)) (hnew : f k = none)
    (hK : ∀ w', IMap w' b (n + 1) (setF f k p) (sz + 1) → w.grownBy w' (some b) → wpList Yba.prog ops Q rest (a.put o.dst undef) w') : wpList Yba.prog ops Q (o :: rest) a w := by
  obtain ⟨D, h1, h2, h3⟩ := hown
  refine wpList_mapUpdate_own w hg m x v 31 hop 3 35 keyLaw Yba.underlying31 ptrR b n D hm h1 (by unfold maxLen; omega) _ _ (.int .i64 k) hx hv (keyOf_int_mk Yba.underlying3 hk) (ptrD (some p)) [] (ptrR_mk (some p)) ?_
  intro w' hown' hgrow
  refine hK w' ⟨_, hown', ?_, ?_⟩ hgrow
  · intro k' hk'
    by_cases e : k' = k
    · subst e
      simp only [setF, if_true]
      exact ⟨has_put_same (k := Lit.int .i64 k') h1.isMap trivial _, atKey_put_same (k := Lit.int .i64 k') h1.isMap trivial _ _⟩
    · have hne : Lit.int .i64 k' ≠ Lit.int .i64 k := fun h => e (by injection h)
      simp only [setF, if_neg e]
      rw [has_put_other hne, atKey_put_other hne]
      exact h2 k' hk'
  · rw [size_put (h1.tidy keyLaw), (h2 k hk).1, hnew, h3]
    rfl

theorem len_law (hg : o.guard = none) (m : Operand) (hop : o.op = Op.call { callee := Callee.builtin Builtin.len, args := #[m], argTypes := #[31] }) (b n sz : Nat) (f : Int → Option Nat) (hown : IMap w b n f sz)
    (hm : a.eval m = .map (some b)) (hK : wpList Yba.prog ops Q rest (a.put o.dst (.int .i64 sz)) w) : wpList Yba.prog ops Q (o :: rest) a w := by
  obtain ⟨D, h1, h2, h3⟩ := hown
  refine wpList_len_own w hg m 31 hop 3 35 Yba.underlying31 ptrR b n D hm h1 ?_
  rw [h3]
  exact hK
end
theorem IMap.look {w : World} {b n sz : Nat} {f : Int → Option Nat} (h : IMap w b n f sz) (k : Int) (hk : (Lit.int .i64 k).wf = true) : (Instr.lookup 31 (.map (some b)) (.int .i64 k) true).run Yba.prog w = .ok (.tuple #[ptrV (f k), .bool (f k).isSome]) w := by
  obtain ⟨D, h1, h2, _⟩ := h
  obtain ⟨hh, hat⟩ := h2 k hk
  obtain ⟨v, ps, hrun, hv⟩ := h1.look_ok keyLaw Yba.underlying31 (zeroE w) (ptrR_mk none) (keyOf_int_mk Yba.underlying3 hk)
  rw [show (ptrD none) = (DataW.nil : DataW Unit) from rfl, hat] at hv
  rw [hrun, ptrR_inv hv, hh]
theorem IMap.len {w : World} {b n sz : Nat} {f : Int → Option Nat} (h : IMap w b n f sz) (ty : TypeId) : (Builtin.len_ #[31] ty #[.map (some b)]).run Yba.prog w = .ok (.int .i64 sz) w := by
  obtain ⟨D, h1, h2, h3⟩ := h
  rw [h1.len Yba.underlying31 ty, h3]
end Go.Proofs.Ybulkehkc
