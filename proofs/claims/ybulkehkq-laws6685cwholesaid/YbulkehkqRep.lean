/- THE MAP OF MAPS, AND THE LABELS. -/
import Derived.Test.YbulkehkqMaps
namespace Go.Proofs.Ybulkehkq
open Go.RowKit Go.Maps Plain

structure Rep (B : Nat) (w : World) (b n : Nat) (F : Key → Option Nat) (G : Nat → Key → Int) (cnt : Key → Key → Int) : Prop where
  outer : OMap w b n F
  inner : ∀ k g, F k = some g → NMap w g n (G g)
  ne : ∀ k g, F k = some g → g ≠ b
  inj : ∀ k k' g, F k = some g → F k' = some g → k = k'
  yes : ∀ k v g, F k = some g → cnt k v = G g v
  no : ∀ k v, F k = none → cnt k v = 0
  lo : B ≤ b
  ilo : ∀ k g, F k = some g → B ≤ g

/-- rep, nil or not. -/
def RepO (B : Nat) (w : World) (r : Option Nat) (n : Nat) (cnt : Key → Key → Int) : Prop := (r = none ∧ ∀ k v, cnt k v = 0) ∨ ∃ b F G, r = some b ∧ Rep B w b n F G cnt
/-- lab, nil or not. -/
def LabO (w : World) (l : Option Nat) (n : Nat) (L : Key → Option Key) : Prop := (l = none ∧ ∀ k, L k = none) ∨ ∃ b, l = some b ∧ LMap w b n L

section
variable {B : Nat} {w w' : World} {b n : Nat} {F : Key → Option Nat} {G : Nat → Key → Int} {cnt : Key → Key → Int}

theorem Rep.ext (h : Rep B w b n F G cnt) (hb : Below w.heap.size w w') : Rep B w' b n F G cnt :=
  ⟨h.outer.kept (hb.block _ h.outer.lt), fun k g e => (h.inner k g e).kept (hb.block _ (h.inner k g e).lt), h.ne, h.inj, h.yes, h.no, h.lo, h.ilo⟩
theorem Rep.made (w : World) : Rep w.heap.size (w.alloc (.map #[] 0)) w.heap.size 0 (fun _ => none) (fun _ _ => 0) (fun _ _ => 0) :=
  ⟨OMap.made w, fun _ _ e => by simp at e, fun _ _ e => by simp at e, fun _ _ _ e => by simp at e, fun _ _ _ e => by simp at e, fun _ _ _ => rfl, Nat.le_refl _, fun _ _ e => by simp at e⟩
theorem Rep.newKey (h : Rep B w b n F G cnt) (k0 : Key) (hf : F k0 = none) (ho : OMap w' b (n + 1) (upd F k0 (some w.heap.size))) (hg : (w.alloc (.map #[] 0)).grownBy w' (some b)) :
    Rep B w' b (n + 1) (upd F k0 (some w.heap.size)) (fun g k => if g = w.heap.size then 0 else G g k) cnt := by
  have hbl := h.outer.lt
  have keep : ∀ g, g ≠ b → g < w.heap.size → w'.heap[g]? = w.heap[g]? := fun g hne hlt => (hg.block g (by simp; omega) (fun e => hne (Option.some.inj e))).trans (Below.heap_alloc w _ g hlt)
  have fresh : ∀ k g, F k = some g → g < w.heap.size := fun k g e => (h.inner k g e).lt
  refine ⟨ho, ?_, ?_, ?_, ?_, ?_, h.lo, ?_⟩
  · intro k g e
    by_cases ek : k = k0
    · subst ek
      rw [upd_same] at e
      obtain rfl := Option.some.inj e
      have hn : (fun k => if w.heap.size = w.heap.size then 0 else G w.heap.size k) = (fun _ => (0 : Int)) := by funext k; rw [if_pos rfl]
      show NMap w' w.heap.size (n + 1) (fun k => if w.heap.size = w.heap.size then 0 else G w.heap.size k)
      rw [hn]
      exact (((NMap.made w).kept (hg.block _ (by simp) (fun e => by have := Option.some.inj e; omega))).mono (by omega))
    · rw [upd_other F _ ek] at e
      have hlt := fresh k g e
      have hn : (fun k => if g = w.heap.size then 0 else G g k) = G g := by funext k; rw [if_neg (by omega)]
      show NMap w' g (n + 1) (fun k => if g = w.heap.size then 0 else G g k)
      rw [hn]
      exact ((h.inner k g e).kept (keep g (h.ne k g e) hlt)).mono (by omega)
  · intro k g e
    by_cases ek : k = k0
    · subst ek; rw [upd_same] at e; have := Option.some.inj e; omega
    · rw [upd_other F _ ek] at e; exact h.ne k g e
  · intro k k' g e e'
    by_cases ek : k = k0 <;> by_cases ek' : k' = k0
    · rw [ek, ek']
    · subst ek; rw [upd_same] at e; rw [upd_other F _ ek'] at e'; have := Option.some.inj e; have := fresh k' g e'; omega
    · subst ek'; rw [upd_same] at e'; rw [upd_other F _ ek] at e; have := Option.some.inj e'; have := fresh k g e; omega
    · rw [upd_other F _ ek] at e; rw [upd_other F _ ek'] at e'; exact h.inj k k' g e e'
  · intro k v g e
    by_cases ek : k = k0
    · subst ek; rw [upd_same] at e; obtain rfl := Option.some.inj e
      show cnt k v = if w.heap.size = w.heap.size then 0 else G w.heap.size v
      rw [if_pos rfl]; exact h.no k v hf
    · rw [upd_other F _ ek] at e
      show cnt k v = if g = w.heap.size then 0 else G g v
      rw [if_neg (by have := fresh k g e; omega)]; exact h.yes k v g e
  · intro k v e
    by_cases ek : k = k0
    · subst ek; rw [upd_same] at e; cases e
    · rw [upd_other F _ ek] at e; exact h.no k v e
  · intro k g e
    by_cases ek : k = k0
    · subst ek; rw [upd_same] at e; have := Option.some.inj e; have := h.lo; omega
    · rw [upd_other F _ ek] at e; exact h.ilo k g e

theorem Rep.setCnt (h : Rep B w b n F G cnt) (k0 v0 : Key) (c : Int) (g0 : Nat) (hf : F k0 = some g0) (ho : NMap w' g0 (n + 1) (upd (G g0) v0 c)) (hg : w.grownBy w' (some g0)) :
    Rep B w' b (n + 1) F (fun g => if g = g0 then upd (G g0) v0 c else G g) (fun k v => if k0 = k ∧ v0 = v then c else cnt k v) := by
  have hne0 := h.ne k0 g0 hf
  refine ⟨(h.outer.kept (hg.block _ h.outer.lt (fun e => hne0 (Option.some.inj e).symm))).mono (by omega), ?_, h.ne, h.inj, ?_, ?_, h.lo, h.ilo⟩
  · intro k g e
    show NMap w' g (n + 1) (if g = g0 then upd (G g0) v0 c else G g)
    by_cases eg : g = g0
    · subst eg; rw [if_pos rfl]; exact ho
    · rw [if_neg eg]
      exact ((h.inner k g e).kept (hg.block _ (h.inner k g e).lt (fun e => eg (Option.some.inj e)))).mono (by omega)
  · intro k v g e
    show (if k0 = k ∧ v0 = v then c else cnt k v) = (if g = g0 then upd (G g0) v0 c else G g) v
    by_cases eg : g = g0
    · subst eg
      rw [if_pos rfl]
      have ek : k0 = k := h.inj k0 k g hf e
      by_cases ev : v = v0
      · rw [if_pos ⟨ek, ev.symm⟩, ev, upd_same]
      · rw [if_neg (fun x => ev x.2.symm), upd_other _ _ ev]; exact h.yes k v g e
    · rw [if_neg eg, if_neg (fun x => eg (by rw [← x.1, hf] at e; exact (Option.some.inj e).symm))]
      exact h.yes k v g e
  · intro k v e
    show (if k0 = k ∧ v0 = v then c else cnt k v) = 0
    rw [if_neg (fun x => by rw [← x.1, hf] at e; cases e)]
    exact h.no k v e
end
theorem RepO.ext {B : Nat} {w w' : World} {r : Option Nat} {n : Nat} {cnt : Key → Key → Int} (h : RepO B w r n cnt) (hb : Below w.heap.size w w') : RepO B w' r n cnt := by
  rcases h with h | ⟨b, F, G, e, h⟩
  · exact .inl h
  · exact .inr ⟨b, F, G, e, h.ext hb⟩
theorem LabO.ext {w w' : World} {l : Option Nat} {n : Nat} {L : Key → Option Key} (h : LabO w l n L) (hb : Below w.heap.size w w') : LabO w' l n L := by
  rcases h with h | ⟨b, e, h⟩
  · exact .inl h
  · exact .inr ⟨b, e, h.kept (hb.block _ h.lt)⟩

/-- rep[k][v], nil or not, whatever the world. -/
theorem RepO.look {B : Nat} {w : World} {r : Option Nat} {n : Nat} {cnt : Key → Key → Int} (h : RepO B w r n cnt) (s : ByteArray) (hs : s.size ≤ maxLen) :
    ∃ g : Option Nat, (Instr.lookup 25 (.map r) (.string s) false).run Yba.prog w = .ok (.map g) w ∧ ∀ v : ByteArray, v.size ≤ maxLen → (Instr.lookup 26 (.map g) (.string v) false).run Yba.prog w = .ok (.int .i64 (cnt (key s) (key v))) w := by
  rcases h with ⟨rfl, h0⟩ | ⟨b, F, G, rfl, h⟩
  · exact ⟨none, nil_look25 w s hs, fun v hv => by rw [h0]; exact nil_look26 w v hv⟩
  · refine ⟨F (key s), h.outer.look s hs, fun v hv => ?_⟩
    cases hf : F (key s) with
    | none => rw [h.no _ _ hf]; exact nil_look26 w v hv
    | some g => rw [h.yes _ _ g hf]; exact (h.inner _ g hf).look v hv
theorem LabO.look {w : World} {l : Option Nat} {n : Nat} {L : Key → Option Key} (h : LabO w l n L) (s : ByteArray) (hs : s.size ≤ maxLen) :
    (Instr.lookup 29 (.map l) (.string s) false).run Yba.prog w = .ok (.string (strOf ((L (key s)).getD []))) w := by
  rcases h with ⟨rfl, h0⟩ | ⟨b, rfl, h⟩
  · rw [h0]; exact nil_look29 w false s hs
  · exact h.look s hs
theorem LabO.look_ok {w : World} {l : Option Nat} {n : Nat} {L : Key → Option Key} (h : LabO w l n L) (s : ByteArray) (hs : s.size ≤ maxLen) :
    (Instr.lookup 29 (.map l) (.string s) true).run Yba.prog w = .ok (.tuple #[.string (strOf ((L (key s)).getD [])), .bool (L (key s)).isSome]) w := by
  rcases h with ⟨rfl, h0⟩ | ⟨b, rfl, h⟩
  · rw [h0]; exact nil_look29 w true s hs
  · exact h.look_ok s hs
end Go.Proofs.Ybulkehkq
