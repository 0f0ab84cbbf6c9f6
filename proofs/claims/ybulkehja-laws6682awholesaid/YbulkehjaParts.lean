/- SMALL LAWS ON WORLDS for LawS6682AWhole. -/
import Derived.Test.YbulkehjaClone
import Derived.OneCell
import Derived.Deep.Draws
namespace Go.Proofs.Ybulkehja
open Go.RowKit

theorem hid {p : Prop} (h : p) : Hid p := h

/-- The world has only drawn. -/
structure Still (w w' : World) : Prop where
  os : w'.os = w.os
  tape : w'.tape = w.tape
  output : w'.output = w.output
  heap : w'.heap = w.heap

theorem Still.refl (w : World) : Still w w := ⟨rfl, rfl, rfl, rfl⟩
theorem Still.drewN (w : World) (n : Nat) : Still w (w.drewN n) := ⟨rfl, rfl, rfl, rfl⟩
theorem Still.trans {a b c : World} (h : Still a b) (k : Still b c) : Still a c := ⟨k.os.trans h.os, k.tape.trans h.tape, k.output.trans h.output, k.heap.trans h.heap⟩
theorem Still.below {w w' : World} (h : Still w w') (B : Nat) : Below B w w' := ⟨h.os, h.tape, h.output, by rw [h.heap]; exact Nat.le_refl _, fun _ _ => by rw [h.heap]⟩
theorem Still.cell {w w' : World} (h : Still w w') (a : Addr) : w'.cell? a = w.cell? a := by simp only [World.cell?, h.heap]
theorem Still.own {w w' : World} (h : Still w w') {base : Nat} {e : TypeId} {size : Nat} {v : Value} {n : Nat} {xs : List Value} (ho : w.ownsRow base e size v n xs) : w'.ownsRow base e size v n xs := by
  unfold World.ownsRow at *
  rw [h.heap]
  exact ho
theorem Still.block {w w' : World} (h : Still w w') {k : Nat} {o : Option Obj} (hk : w.heap[k]? = o) : w'.heap[k]? = o := by rw [h.heap]; exact hk

/-- The struct that o leads to. -/
abbrev box (q r i : Int) (mv : Value) (b : Nat) (hv rv : Value) : Obj := .cells #[.int .u64 q, .int .u64 r, .int .u64 i, mv, .int .u64 b, hv, rv] 32 (0, 0)

/-- Blocks of another element type than byte, but for o's own, stay. -/
def Keep (bo : Nat) (w w' : World) : Prop := ∀ k c t fr, t ≠ 5 → k ≠ bo → w.heap[k]? = some (.cells c t fr) → w'.heap[k]? = some (.cells c t fr)
theorem Keep.refl (bo : Nat) (w : World) : Keep bo w w := fun _ _ _ _ _ _ h => h
theorem Keep.trans {bo : Nat} {a b c : World} (h : Keep bo a b) (k : Keep bo b c) : Keep bo a c := fun i x t fr ht hi e => k i x t fr ht hi (h i x t fr ht hi e)
theorem Still.keep {w w' : World} (h : Still w w') (bo : Nat) : Keep bo w w' := fun _ _ _ _ _ _ e => h.block e

theorem own_shape {w : World} {base : Nat} {e : TypeId} {v : Value} {n : Nat} {xs : List Value} (h : w.ownsRow base e 1 v n xs) : ∃ a c, v = .slice a n c := by
  rcases h.2 with ⟨rfl, rfl⟩ | ⟨g, cap, _, rfl, _⟩
  · exact ⟨_, _, rfl⟩
  · exact ⟨_, _, rfl⟩

theorem own_pos {w : World} {base : Nat} {e : TypeId} {a : Option Addr} {c n : Nat} {xs : List Value} (h : w.ownsRow base e 1 (.slice a n c) n xs) (hn : 0 < n) : ∃ g, a = some ⟨g, 0, none⟩ ∧ base ≤ g := by
  rcases h.2 with ⟨_, rfl⟩ | ⟨g, cap, _, e, hb, _⟩
  · omega
  · simp only [Value.slice.injEq] at e
    exact ⟨g, e.1, hb⟩

/-- A block of another element type is not the row. -/
theorem own_apart {w : World} {base : Nat} {e t : TypeId} {v : Value} {n k : Nat} {xs : List Value} {c : Array Value} {fr : Nat × Nat} (h : w.ownsRow base e 1 v n xs) (ht : t ≠ e) (hk : w.heap[k]? = some (.cells c t fr)) : v.ownBlock ≠ some k := by
  intro hv
  rcases h.2 with ⟨rfl, _⟩ | ⟨g, cap, cur, rfl, _, hg, _⟩
  · cases hv
  · have e : g = k := Option.some.inj hv
    subst e
    rw [hg] at hk
    simp only [Option.some.injEq, Obj.cells.injEq] at hk
    exact ht hk.2.1.symm

/-- A row of another element type is kept. -/
theorem own_keep {bo : Nat} {w w' : World} (hk : Keep bo w w') {base : Nat} {e : TypeId} {v : Value} {n : Nat} {xs : List Value} (ho : w.ownsRow base e 1 v n xs) (he : e ≠ 5) (hb : v.ownBlock ≠ some bo) : w'.ownsRow base e 1 v n xs := by
  refine ⟨ho.1, ?_⟩
  rcases ho.2 with h | ⟨g, cap, cur, rfl, hg, hh, r⟩
  · exact .inl h
  · exact .inr ⟨g, cap, cur, rfl, hg, hk g cur e (0, 0) he (fun e => hb (by simp [Value.ownBlock, e])) hh, r⟩

theorem own_below {B : Nat} {w w' : World} (hk : Below B w w') {base : Nat} {e : TypeId} {v : Value} {n : Nat} {xs : List Value} (ho : w.ownsRow base e 1 v n xs) (hb : ∀ k, v.ownBlock = some k → k < B) : w'.ownsRow base e 1 v n xs := by
  refine ⟨ho.1, ?_⟩
  rcases ho.2 with h | ⟨g, cap, cur, rfl, hg, hh, r⟩
  · exact .inl h
  · exact .inr ⟨g, cap, cur, rfl, hg, by rw [hk.block g (hb g rfl)]; exact hh, r⟩

theorem own_lt {w : World} {base : Nat} {e : TypeId} {v : Value} {n : Nat} {xs : List Value} (ho : w.ownsRow base e 1 v n xs) : ∀ k, v.ownBlock = some k → k < w.heap.size := by
  intro k hk
  rcases ho.2 with ⟨rfl, _⟩ | ⟨g, cap, cur, rfl, _, hh, _⟩
  · cases hk
  · have e : g = k := Option.some.inj hk
    subst e
    exact lt_of_block hh

theorem own_ge {w : World} {base : Nat} {e : TypeId} {v : Value} {n : Nat} {xs : List Value} (ho : w.ownsRow base e 1 v n xs) : ∀ k, v.ownBlock = some k → base ≤ k := by
  intro k hk
  rcases ho.2 with ⟨rfl, _⟩ | ⟨g, cap, cur, rfl, hb, hh, _⟩
  · cases hk
  · have e : g = k := Option.some.inj hk
    subst e
    exact hb

/-- ONE ROUND: 'o.held = append(o.held, 0)'. -/
theorem append_step {bo Bh : Nat} {q r i : Int} {mv rv hv v' : Value} {b n : Nat} {xs ys : List Value} {W w2 : World}
    (hbox : W.heap[bo]? = some (box q r i mv b hv rv)) (hBh : Bh ≤ bo) (hown : W.ownsRow Bh 5 1 hv n xs)
    (hown2 : w2.ownsRow Bh 5 1 v' (n + 1) ys) (hgrow : (W.alloc (.cells #[.int .u8 0] 5)).grownBy w2 hv.ownBlock) :
    w2.heap[bo]? = some (box q r i mv b hv rv) ∧ (w2.setCell ⟨bo, 5, none⟩ v').heap[bo]? = some (box q r i mv b v' rv) ∧ (w2.setCell ⟨bo, 5, none⟩ v').ownsRow Bh 5 1 v' (n + 1) ys ∧
      Below Bh W (w2.setCell ⟨bo, 5, none⟩ v') ∧ Keep bo W (w2.setCell ⟨bo, 5, none⟩ v') := by
  have hlt := lt_of_block hbox
  have hb2 : ∀ (k : Nat) c t fr, t ≠ 5 → W.heap[k]? = some (Obj.cells c t fr) → w2.heap[k]? = some (Obj.cells c t fr) := by
    intro k c t fr ht hk
    have hkl := lt_of_block hk
    rw [hgrow.block k (by simp; omega) (fun e => own_apart hown ht hk e.symm), Below.heap_alloc _ _ _ hkl]
    exact hk
  have h2 := hb2 bo _ 32 (0, 0) (by decide) hbox
  refine ⟨h2, heap_setCell_same w2 bo 5 _ 32 v' h2, ownsRow_setCell_other hown2 (own_apart hown2 (by decide) h2) _, ?_, ?_⟩
  · have ha : Below Bh W (W.alloc (.cells #[.int .u8 0] 5)) := (Below.refl _ _).alloc (by omega) _
    exact (ha.grown hgrow (by simp; omega) (fun k hk => own_ge hown k hk)).setCell hBh _
  · intro k c t fr ht hk e
    rw [heap_setCell_other w2 ⟨bo, 5, none⟩ k v' hk]
    exact hb2 k c t fr ht e

/-- THE LAST STORE: 'o.held[j/8] |= ..'. -/
theorem store_step {bo Bh g c : Nat} {q r i : Int} {mv rv : Value} {b n p : Nat} {xs : List Value} {u : Value} {W : World}
    (hbox : W.heap[bo]? = some (box q r i mv b (.slice (some ⟨g, 0, none⟩) n c) rv)) (hown : W.ownsRow Bh 5 1 (.slice (some ⟨g, 0, none⟩) n c) n xs) :
    (W.setCell ⟨g, p, none⟩ u).heap[bo]? = some (box q r i mv b (.slice (some ⟨g, 0, none⟩) n c) rv) ∧ (W.setCell ⟨g, p, none⟩ u).ownsRow Bh 5 1 (.slice (some ⟨g, 0, none⟩) n c) n (xs.set p u) ∧
      Below Bh W (W.setCell ⟨g, p, none⟩ u) ∧ Keep bo W (W.setCell ⟨g, p, none⟩ u) := by
  have hap : ∀ (k : Nat) c' t fr, t ≠ 5 → W.heap[k]? = some (Obj.cells c' t fr) → k ≠ g := fun k c' t fr ht hk e => own_apart hown ht hk (by rw [e]; rfl)
  refine ⟨?_, (hown.stored p u).1, (Below.refl _ _).setCell (own_ge hown g rfl) _, ?_⟩
  · rw [heap_setCell_other W ⟨g, p, none⟩ bo u (hap bo _ 32 (0, 0) (by decide) hbox)]; exact hbox
  · intro k c' t fr ht _ e
    rw [heap_setCell_other W ⟨g, p, none⟩ k u (hap k c' t fr ht e)]
    exact e
end Go.Proofs.Ybulkehja
