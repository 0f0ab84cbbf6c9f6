/- THE MAPS of LawS6685CWhole: what their blocks are good for. -/
import Derived.Test.YbulkehkqRows
import Derived.Test.YbulkehkqPlain
import Derived.WalkKit
import Derived.ProofKit
import Derived.WalkSpells
import Derived.OneCell
import Derived.Deep.Draws
import Derived.Maps.OwnSet
import Derived.Maps.OwnOps
import Derived.Maps.RangeWalk
import Derived.Maps.StringElems
namespace Go.Proofs.Ybulkehkq
open Go.RowKit Go.Maps Go.WideMaps Plain

theorem hid {p : Prop} (h : p) : Hid p := h

def strOf (l : Key) : ByteArray := ⟨l.toArray⟩
theorem strOf_key (s : ByteArray) : strOf (key s) = s := by cases s; simp [strOf, key]
theorem key_strOf (l : Key) : key (strOf l) = l := by simp [strOf, key]
theorem eq_key (a b : ByteArray) : (a.toList == b.toList) = decide (key a = key b) := by
  rw [ByteArray.toList_eq, ByteArray.toList_eq]
  show (key a == key b) = _
  by_cases h : key a = key b
  · rw [decide_eq_true h, h]; simp
  · rw [decide_eq_false h]; exact beq_eq_false_iff_ne.2 h

def upd {β : Type} (F : Key → β) (k0 : Key) (x : β) : Key → β := fun k => if k = k0 then x else F k
theorem upd_same {β : Type} (F : Key → β) (k0 : Key) (x : β) : upd F k0 x k0 = x := if_pos rfl
theorem upd_other {β : Type} (F : Key → β) {k0 k : Key} (x : β) (h : k ≠ k0) : upd F k0 x k = F k := if_neg h

/-- How an inner map in the outer one reads: by its block. -/
def mapR (v : Value) : Option (DataW Unit × List MemPlace) :=
  match v with
  | .map none => some (.nil, [])
  | .map (some b) => some (.lit (.int .i64 b), [])
  | _ => none
def mapD : Option Nat → DataW Unit
  | none => .nil
  | some b => .lit (.int .i64 b)
theorem mapR_mk (p : Option Nat) : mapR (.map p) = some (mapD p, []) := by cases p <;> rfl
theorem mapR_inv {v : Value} {p : Option Nat} {ps : List MemPlace} (h : mapR v = some (mapD p, ps)) : v = .map p := by
  unfold mapR at h
  split at h
  · cases p with
    | none => rfl
    | some b => simp [mapD] at h
  · cases p with
    | none => simp [mapD] at h
    | some b => simp [mapD] at h; obtain ⟨h, _⟩ := h; rw [Int.ofNat_inj.1 h]
  · cases h
theorem mapR_shape {v : Value} {y : DataW Unit × List MemPlace} (h : mapR v = some y) : ∃ p, v = .map p := by
  unfold mapR at h
  split at h
  · exact ⟨_, rfl⟩
  · exact ⟨_, rfl⟩
  · cases h

theorem keyLaw : Keyed Yba.prog 9 := string_keyed Yba.underlying9
theorem zero26 (w : World) : (zeroValue 26).run Yba.prog w = .ok (.map none) w := by kernel_rfl
theorem zero3 (w : World) : (zeroValue 3).run Yba.prog w = .ok (.int .i64 0) w := by kernel_rfl
theorem zero9 (w : World) : (zeroValue 9).run Yba.prog w = .ok (.string (strOf [])) w := by kernel_rfl

/-- The outer map. -/
def OMap (w : World) (b n : Nat) (F : Key → Option Nat) : Prop :=
  ∃ D : DataW Unit, w.ownsMap Yba.prog 9 mapR b n D ∧ ∀ k : Key, has D (.string k) = (F k).isSome ∧ D.atKey (.string k) .nil = mapD (F k)
/-- An inner map. -/
def NMap (w : World) (b n : Nat) (G : Key → Int) : Prop :=
  ∃ D : DataW Unit, w.ownsMap Yba.prog 9 (plainElem Yba.prog 3) b n D ∧ ∀ k : Key, D.atKey (.string k) (.lit (.int .i64 0)) = .lit (.int .i64 (G k))
/-- The labels. -/
def LMap (w : World) (b n : Nat) (L : Key → Option Key) : Prop :=
  ∃ D : DataW Unit, w.ownsMap Yba.prog 9 (plainElem Yba.prog 9) b n D ∧ (∀ k : Key, has D (.string k) = (L k).isSome ∧ D.atKey (.string k) (.lit (.string [])) = .lit (.string ((L k).getD []))) ∧ ∀ k v, L k = some v → v.length ≤ maxLen

theorem OMap.kept {w w' : World} {b n : Nat} {F : Key → Option Nat} (h : OMap w b n F) (hb : w'.heap[b]? = w.heap[b]?) : OMap w' b n F := by
  obtain ⟨D, ⟨es, clock, hh, r⟩, h2⟩ := h
  exact ⟨D, ⟨es, clock, hb.trans hh, r⟩, h2⟩
theorem NMap.kept {w w' : World} {b n : Nat} {F : Key → Int} (h : NMap w b n F) (hb : w'.heap[b]? = w.heap[b]?) : NMap w' b n F := by
  obtain ⟨D, ⟨es, clock, hh, r⟩, h2⟩ := h
  exact ⟨D, ⟨es, clock, hb.trans hh, r⟩, h2⟩
theorem LMap.kept {w w' : World} {b n : Nat} {F : Key → Option Key} (h : LMap w b n F) (hb : w'.heap[b]? = w.heap[b]?) : LMap w' b n F := by
  obtain ⟨D, ⟨es, clock, hh, r⟩, h2⟩ := h
  exact ⟨D, ⟨es, clock, hb.trans hh, r⟩, h2⟩
theorem OMap.lt {w : World} {b n : Nat} {F : Key → Option Nat} (h : OMap w b n F) : b < w.heap.size := by obtain ⟨D, h1, _⟩ := h; exact h1.lt
theorem NMap.lt {w : World} {b n : Nat} {F : Key → Int} (h : NMap w b n F) : b < w.heap.size := by obtain ⟨D, h1, _⟩ := h; exact h1.lt
theorem LMap.lt {w : World} {b n : Nat} {F : Key → Option Key} (h : LMap w b n F) : b < w.heap.size := by obtain ⟨D, h1, _⟩ := h; exact h1.lt
theorem NMap.mono {w : World} {b n n' : Nat} {F : Key → Int} (h : NMap w b n F) (hn : n ≤ n') : NMap w b n' F := by obtain ⟨D, h1, h2⟩ := h; exact ⟨D, h1.mono hn, h2⟩
theorem OMap.mono {w : World} {b n n' : Nat} {F : Key → Option Nat} (h : OMap w b n F) (hn : n ≤ n') : OMap w b n' F := by obtain ⟨D, h1, h2⟩ := h; exact ⟨D, h1.mono hn, h2⟩
theorem OMap.made (w : World) : OMap (w.alloc (.map #[] 0)) w.heap.size 0 (fun _ => none) := ⟨_, World.ownsMap_made w Yba.prog 9 mapR, fun _ => ⟨rfl, rfl⟩⟩
theorem NMap.made (w : World) : NMap (w.alloc (.map #[] 0)) w.heap.size 0 (fun _ => 0) := ⟨_, World.ownsMap_made w Yba.prog 9 (plainElem Yba.prog 3), fun _ => rfl⟩
theorem LMap.made (w : World) : LMap (w.alloc (.map #[] 0)) w.heap.size 0 (fun _ => none) := ⟨_, World.ownsMap_made w Yba.prog 9 (plainElem Yba.prog 9), fun _ => ⟨rfl, rfl⟩, fun _ _ e => by cases e⟩

theorem OMap.look {w : World} {b n : Nat} {F : Key → Option Nat} (h : OMap w b n F) (s : ByteArray) (hs : s.size ≤ maxLen) : (Instr.lookup 25 (.map (some b)) (.string s) false).run Yba.prog w = .ok (.map (F (key s))) w := by
  obtain ⟨D, h1, h2⟩ := h
  obtain ⟨v, ps, hrun, hv⟩ := h1.lookup keyLaw Yba.underlying25 (zero26 w) (mapR_mk none) (keyOf_string_mk Yba.underlying9 hs)
  rw [show (mapD none) = (DataW.nil : DataW Unit) from rfl, show s.data.toList = key s from rfl, (h2 (key s)).2] at hv
  rw [hrun, mapR_inv hv]
theorem NMap.look {w : World} {b n : Nat} {G : Key → Int} (h : NMap w b n G) (s : ByteArray) (hs : s.size ≤ maxLen) : (Instr.lookup 26 (.map (some b)) (.string s) false).run Yba.prog w = .ok (.int .i64 (G (key s))) w := by
  obtain ⟨D, h1, h2⟩ := h
  obtain ⟨c, hrun, hat, _⟩ := h1.lookup_int keyLaw Yba.underlying26 Yba.underlying3 (zero3 w) (keyOf_string_mk Yba.underlying9 hs)
  rw [show s.data.toList = key s from rfl, h2 (key s)] at hat
  rw [hrun]
  simp only [DataW.lit.injEq, Lit.int.injEq, true_and] at hat
  rw [hat]
theorem nil_look26 (w : World) (s : ByteArray) (hs : s.size ≤ maxLen) : (Instr.lookup 26 (.map none) (.string s) false).run Yba.prog w = .ok (.int .i64 0) w := by
  have := Maps.look_nil (w := w) false keyLaw Yba.underlying26 (zero3 w) (keyOf_string_mk Yba.underlying9 hs)
  simpa using this
theorem nil_look25 (w : World) (s : ByteArray) (hs : s.size ≤ maxLen) : (Instr.lookup 25 (.map none) (.string s) false).run Yba.prog w = .ok (.map none) w := by
  have := Maps.look_nil (w := w) false keyLaw Yba.underlying25 (zero26 w) (keyOf_string_mk Yba.underlying9 hs)
  simpa using this
theorem nil_look29 (w : World) (c : Bool) (s : ByteArray) (hs : s.size ≤ maxLen) : (Instr.lookup 29 (.map none) (.string s) c).run Yba.prog w = .ok (if c then .tuple #[.string (strOf []), .bool false] else .string (strOf [])) w :=
  Maps.look_nil (w := w) c keyLaw Yba.underlying29 (zero9 w) (keyOf_string_mk Yba.underlying9 hs)
theorem str_inv {v : Value} {k : Key} {ps : List MemPlace} (h : plainElem (H := Unit) Yba.prog 9 v = some (.lit (.string k), ps)) : v = .string (strOf k) := by
  obtain ⟨s, rfl, h2, _⟩ := plainElem_string_inv Yba.underlying9 h
  simp only [Prod.mk.injEq, DataW.lit.injEq, Lit.string.injEq] at h2
  rw [h2.1]
  exact congrArg Value.string (strOf_key s).symm
theorem LMap.look {w : World} {b n : Nat} {L : Key → Option Key} (h : LMap w b n L) (s : ByteArray) (hs : s.size ≤ maxLen) : (Instr.lookup 29 (.map (some b)) (.string s) false).run Yba.prog w = .ok (.string (strOf ((L (key s)).getD []))) w := by
  obtain ⟨D, h1, h2, _⟩ := h
  obtain ⟨v, ps, hrun, hv⟩ := h1.lookup keyLaw Yba.underlying29 (zero9 w) (plainElem_string Yba.underlying9 (by decide)) (keyOf_string_mk Yba.underlying9 hs)
  have hv' : plainElem (H := Unit) Yba.prog 9 v = some (D.atKey (.string (key s)) (.lit (.string [])), ps) := hv
  rw [(h2 (key s)).2] at hv'
  rw [hrun, str_inv hv']
theorem LMap.look_ok {w : World} {b n : Nat} {L : Key → Option Key} (h : LMap w b n L) (s : ByteArray) (hs : s.size ≤ maxLen) : (Instr.lookup 29 (.map (some b)) (.string s) true).run Yba.prog w = .ok (.tuple #[.string (strOf ((L (key s)).getD [])), .bool (L (key s)).isSome]) w := by
  obtain ⟨D, h1, h2, _⟩ := h
  obtain ⟨v, ps, hrun, hv⟩ := h1.look_ok keyLaw Yba.underlying29 (zero9 w) (plainElem_string Yba.underlying9 (by decide)) (keyOf_string_mk Yba.underlying9 hs)
  have hv' : plainElem (H := Unit) Yba.prog 9 v = some (D.atKey (.string (key s)) (.lit (.string [])), ps) := hv
  rw [(h2 (key s)).2] at hv'
  rw [hrun, str_inv hv', show s.data.toList = key s from rfl, (h2 (key s)).1]

section
variable {w : World} {ops : Array Oper} {rest : List Oper} {o : Oper} {a : Act} {Q : Exit → Act → World → Prop}

theorem ostore (hg : o.guard = none) (m x v : Operand) (hop : o.op = Op.mapUpdate 25 m x v) (b n : Nat) (F : Key → Option Nat) (hown : OMap w b n F) (hn : n ≤ 100000) (s : ByteArray) (hs : s.size ≤ maxLen) (g : Nat)
    (hm : a.eval m = .map (some b)) (hx : a.eval x = .string s) (hv : a.eval v = .map (some g))
    (hK : ∀ w', OMap w' b (n + 1) (upd F (key s) (some g)) → w.grownBy w' (some b) → wpList Yba.prog ops Q rest (a.put o.dst undef) w') : wpList Yba.prog ops Q (o :: rest) a w := by
  obtain ⟨D, h1, h2⟩ := hown
  refine wpList_mapUpdate_own w hg m x v 25 hop 9 26 keyLaw Yba.underlying25 mapR b n D hm h1 (by unfold maxLen; omega) _ _ (.string (key s)) hx hv (keyOf_string_mk Yba.underlying9 hs) (mapD (some g)) [] (mapR_mk (some g)) ?_
  intro w' hown' hgrow
  refine hK w' ⟨_, hown', fun k => ?_⟩ hgrow
  by_cases e : k = key s
  · subst e
    rw [upd_same]
    exact ⟨has_put_same (k := Lit.string (key s)) h1.isMap trivial _, atKey_put_same (k := Lit.string (key s)) h1.isMap trivial _ _⟩
  · have hne : Lit.string k ≠ Lit.string (key s) := fun h => e (by injection h)
    rw [upd_other _ _ e, has_put_other hne, atKey_put_other hne]
    exact h2 k
theorem nstore (hg : o.guard = none) (m x v : Operand) (hop : o.op = Op.mapUpdate 26 m x v) (b n : Nat) (G : Key → Int) (hown : NMap w b n G) (hn : n ≤ 100000) (s : ByteArray) (hs : s.size ≤ maxLen) (c : Int) (hc : (Lit.int .i64 c).wf = true)
    (hm : a.eval m = .map (some b)) (hx : a.eval x = .string s) (hv : a.eval v = .int .i64 c)
    (hK : ∀ w', NMap w' b (n + 1) (upd G (key s) c) → w.grownBy w' (some b) → wpList Yba.prog ops Q rest (a.put o.dst undef) w') : wpList Yba.prog ops Q (o :: rest) a w := by
  obtain ⟨D, h1, h2⟩ := hown
  refine wpList_mapUpdate_own w hg m x v 26 hop 9 3 keyLaw Yba.underlying26 (plainElem Yba.prog 3) b n D hm h1 (by unfold maxLen; omega) _ _ (.string (key s)) hx hv (keyOf_string_mk Yba.underlying9 hs) _ [] (plainElem_int Yba.underlying3 hc) ?_
  intro w' hown' hgrow
  refine hK w' ⟨_, hown', fun k => ?_⟩ hgrow
  by_cases e : k = key s
  · subst e
    rw [upd_same]
    exact atKey_put_same (k := Lit.string (key s)) h1.isMap trivial _ _
  · have hne : Lit.string k ≠ Lit.string (key s) := fun h => e (by injection h)
    rw [upd_other _ _ e, atKey_put_other hne]
    exact h2 k
theorem lstore (hg : o.guard = none) (m x v : Operand) (hop : o.op = Op.mapUpdate 29 m x v) (b n : Nat) (L : Key → Option Key) (hown : LMap w b n L) (hn : n ≤ 100000) (s : ByteArray) (hs : s.size ≤ maxLen) (c : ByteArray) (hc : c.size ≤ maxLen)
    (hm : a.eval m = .map (some b)) (hx : a.eval x = .string s) (hv : a.eval v = .string c)
    (hK : ∀ w', LMap w' b (n + 1) (upd L (key s) (some (key c))) → w.grownBy w' (some b) → wpList Yba.prog ops Q rest (a.put o.dst undef) w') : wpList Yba.prog ops Q (o :: rest) a w := by
  obtain ⟨D, h1, h2, h3⟩ := hown
  refine wpList_mapUpdate_own w hg m x v 29 hop 9 9 keyLaw Yba.underlying29 (plainElem Yba.prog 9) b n D hm h1 (by unfold maxLen; omega) _ _ (.string (key s)) hx hv (keyOf_string_mk Yba.underlying9 hs) _ [] (plainElem_string Yba.underlying9 hc) ?_
  intro w' hown' hgrow
  refine hK w' ⟨_, hown', fun k => ?_, fun k v e => ?_⟩ hgrow
  · by_cases e : k = key s
    · subst e
      rw [upd_same]
      exact ⟨has_put_same (k := Lit.string (key s)) h1.isMap trivial _, atKey_put_same (k := Lit.string (key s)) h1.isMap trivial _ _⟩
    · have hne : Lit.string k ≠ Lit.string (key s) := fun h => e (by injection h)
      rw [upd_other _ _ e, has_put_other hne, atKey_put_other hne]
      exact h2 k
  · by_cases ek : k = key s
    · subst ek
      rw [upd_same] at e
      obtain rfl := Option.some.inj e
      simpa [key] using hc
    · rw [upd_other _ _ ek] at e
      exact h3 k v e
end
end Go.Proofs.Ybulkehkq
