/- WHAT HOLDS WHILE LawS6684AWhole FILLS THE MAP. -/
import Derived.Test.YbulkehkcState
namespace Go.Proofs.Ybulkehkc
open Go.RowKit

/-- A round state as the law lays it. -/
abbrev rsO (c : Int) : Obj := .cells #[.slice none 0 0, .int .i64 c, .int .i64 0, .int .i64 0, .slice none 0 0, .int .i64 0, .int .i64 0, .int .i64 0, .pointer none] 43 (0, 0)

/-- The keys, the pointers, the counts and the map agree; each pointer leads to its round state. -/
structure Inv (B : Nat) (w0 wr : World) (N : Nat) (F : Int) (sh : Bool) (id cur : Int) (kv pv cv : Value) (n : Nat) (K C : List Int) (P : List Nat) (f : Int → Option Nat) : Prop where
  below : Below B w0 wr
  calls : wr.heap[B]? = some (.cells #[.int .i64 0] 3 (0, 0))
  cfg : wr.heap[B + 1]? = some (cfgO N F sh)
  map : IMap wr (B + 1 + 1) n f n
  proc : wr.heap[B + 1 + 1 + 1]? = some (procO B (B + 1 + 1) N F sh id cur)
  keys : wr.ownsRow (B + 4) 3 1 kv n (K.map (Value.int .i64))
  ptrs : wr.ownsRow (B + 4) 35 1 pv n (P.map fun b => .pointer (some ⟨b, 0, none⟩))
  cnts : wr.ownsRow (B + 4) 3 1 cv n (C.map (Value.int .i64))
  apart : kv.ownBlock ≠ cv.ownBlock
  klen : K.length = n
  clen : C.length = n
  plen : P.length = n
  kwf : ∀ k ∈ K, (Lit.int .i64 k).wf = true
  rs : ∀ j, j < n → wr.heap[P.getD j 0]? = some (rsO (C.getD j 0))
  pge : ∀ j, j < n → B + 4 ≤ P.getD j 0
  hit : ∀ j, j < n → f (K.getD j 0) = some (P.getD j 0)
  only : ∀ k p, f k = some p → ∃ j, j < n ∧ K.getD j 0 = k ∧ P.getD j 0 = p

theorem own_shape {w : World} {base : Nat} {e : TypeId} {v : Value} {n : Nat} {xs : List Value} (h : w.ownsRow base e 1 v n xs) : ∃ a c, v = .slice a n c := by
  rcases h.2 with ⟨rfl, rfl⟩ | ⟨g, cap, _, rfl, _⟩
  · exact ⟨_, _, rfl⟩
  · exact ⟨_, _, rfl⟩
theorem own_pos {w : World} {base : Nat} {e : TypeId} {a : Option Addr} {c n : Nat} {xs : List Value} (h : w.ownsRow base e 1 (.slice a n c) n xs) (hn : 0 < n) : ∃ g, a = some ⟨g, 0, none⟩ ∧ base ≤ g := by
  rcases h.2 with ⟨_, rfl⟩ | ⟨g, cap, _, e, hb, _⟩
  · omega
  · simp only [Value.slice.injEq] at e
    exact ⟨g, e.1, hb⟩
/-- The row's own block. -/
theorem own_block {w : World} {base : Nat} {e : TypeId} {v : Value} {n k : Nat} {xs : List Value} (h : w.ownsRow base e 1 v n xs) (hv : v.ownBlock = some k) : base ≤ k ∧ ∃ cur, w.heap[k]? = some (.cells cur e (0, 0)) := by
  rcases h.2 with ⟨rfl, _⟩ | ⟨g, cap, cur, rfl, hb, hg, _⟩
  · cases hv
  · obtain rfl := Option.some.inj hv
    exact ⟨hb, cur, hg⟩
theorem own_kept {w w' : World} {base : Nat} {e : TypeId} {v : Value} {n : Nat} {xs : List Value} (ho : w.ownsRow base e 1 v n xs) (hk : ∀ k, v.ownBlock = some k → w'.heap[k]? = w.heap[k]?) : w'.ownsRow base e 1 v n xs := by
  refine ⟨ho.1, ?_⟩
  rcases ho.2 with h | ⟨g, cap, cur, rfl, hg, hh, r⟩
  · exact .inl h
  · exact .inr ⟨g, cap, cur, rfl, hg, (hk g rfl).trans hh, r⟩
theorem getD_snoc {α : Type} (l : List α) (x d : α) (j n : Nat) (hl : l.length = n) : (l ++ [x]).getD j d = if j < n then l.getD j d else if j = n then x else d := by
  subst hl
  simp only [List.getD]
  by_cases h1 : j < l.length
  · rw [if_pos h1, List.getElem?_append_left h1]
  · rw [if_neg h1]
    by_cases h2 : j = l.length
    · rw [if_pos h2, h2]; simp
    · rw [if_neg h2, List.getElem?_eq_none (by simp; omega)]; rfl

theorem block_lt {w : World} {base : Nat} {e : TypeId} {v : Value} {n k : Nat} {xs : List Value} (h : w.ownsRow base e 1 v n xs) (hv : v.ownBlock = some k) : k < w.heap.size := by
  obtain ⟨_, cur, hc⟩ := own_block h hv
  exact lt_of_block hc
/-- Two rows of different element types lie apart. -/
theorem rows_apart {w : World} {b1 b2 : Nat} {e1 e2 : TypeId} {v1 v2 : Value} {n1 n2 : Nat} {x1 x2 : List Value} (h1 : w.ownsRow b1 e1 1 v1 n1 x1) (h2 : w.ownsRow b2 e2 1 v2 n2 x2) (he : e1 ≠ e2) (k : Nat) (k1 : v1.ownBlock = some k) (k2 : v2.ownBlock = some k) : False := by
  obtain ⟨_, c1, hc1⟩ := own_block h1 k1
  obtain ⟨_, c2, hc2⟩ := own_block h2 k2
  rw [hc1] at hc2
  simp only [Option.some.injEq, Obj.cells.injEq] at hc2
  exact he hc2.2.1
theorem grown_block {W W' : World} {row : Option Nat} (hg : W.grownBy W' row) {k : Nat} {o : Obj} (h : W.heap[k]? = some o) (hne : some k ≠ row) : W'.heap[k]? = some o := (hg.block k (lt_of_block h) hne).trans h
theorem alloc_block {W : World} {k : Nat} {o x : Obj} (h : W.heap[k]? = some o) : (W.alloc x).heap[k]? = some o := (Below.heap_alloc W x k (lt_of_block h)).trans h

section
variable {B N n : Nat} {w0 wr W2 W3 W4 W5 : World} {F : Int} {sh : Bool} {id cur : Int} {kv pv cv kv' pv' cv' : Value} {K C : List Int} {P : List Nat} {f : Int → Option Nat} {k c : Int} {o1 o2 o3 : Obj}

theorem Inv.keys2 (h : Inv B w0 wr N F sh id cur kv pv cv n K C P f) (g2 : (wr.alloc (rsO c)).grownBy W2 (some (B + 1 + 1))) (o : Obj) : (W2.alloc o).ownsRow (B + 4) 3 1 kv n (K.map (Value.int .i64)) := by
  refine World.ownsRow.alloc ((h.keys.alloc _).kept g2 (.inr fun e => ?_)) o
  have := (own_block h.keys e).1
  omega
theorem Inv.ptrs3 (h : Inv B w0 wr N F sh id cur kv pv cv n K C P f) (g2 : (wr.alloc (rsO c)).grownBy W2 (some (B + 1 + 1))) (g3 : (W2.alloc o1).grownBy W3 kv.ownBlock) (o : Obj) :
    (W3.alloc o).ownsRow (B + 4) 35 1 pv n (P.map fun b => .pointer (some ⟨b, 0, none⟩)) := by
  have h2 : W2.ownsRow (B + 4) 35 1 pv n (P.map fun b => .pointer (some ⟨b, 0, none⟩)) := by
    refine (h.ptrs.alloc _).kept g2 (.inr fun e => ?_)
    have := (own_block h.ptrs e).1
    omega
  refine World.ownsRow.alloc ((h2.alloc _).kept g3 ?_) o
  cases hp : pv.ownBlock with
  | none => exact .inl rfl
  | some x => exact .inr fun e => rows_apart h.keys h.ptrs (by decide) x e.symm hp
theorem Inv.cnts4 (h : Inv B w0 wr N F sh id cur kv pv cv n K C P f) (g2 : (wr.alloc (rsO c)).grownBy W2 (some (B + 1 + 1))) (g3 : (W2.alloc o1).grownBy W3 kv.ownBlock) (g4 : (W3.alloc o2).grownBy W4 pv.ownBlock) (o : Obj) :
    (W4.alloc o).ownsRow (B + 4) 3 1 cv n (C.map (Value.int .i64)) := by
  have h2 : W2.ownsRow (B + 4) 3 1 cv n (C.map (Value.int .i64)) := by
    refine (h.cnts.alloc _).kept g2 (.inr fun e => ?_)
    have := (own_block h.cnts e).1
    omega
  have h3 : W3.ownsRow (B + 4) 3 1 cv n (C.map (Value.int .i64)) := (h2.alloc _).kept g3 (.inr fun e => h.apart e.symm)
  refine World.ownsRow.alloc ((h3.alloc _).kept g4 ?_) o
  cases hp : cv.ownBlock with
  | none => exact .inl rfl
  | some x => exact .inr fun e => rows_apart h.cnts h.ptrs (by decide) x hp e.symm

set_option maxHeartbeats 400000 in
theorem Inv.step (h : Inv B w0 wr N F sh id cur kv pv cv n K C P f) (hkw : (Lit.int .i64 k).wf = true) (hf : f k = none)
    (m2 : IMap W2 (B + 1 + 1) (n + 1) (setF f k wr.heap.size) (n + 1)) (g2 : (wr.alloc (rsO c)).grownBy W2 (some (B + 1 + 1)))
    (k3 : W3.ownsRow (B + 4) 3 1 kv' (n + 1) (K.map (Value.int .i64) ++ [.int .i64 k])) (g3 : (W2.alloc o1).grownBy W3 kv.ownBlock) (l3 : kv'.ownBlock = kv.ownBlock ∨ kv'.ownBlock = some (W2.alloc o1).heap.size)
    (p4 : W4.ownsRow (B + 4) 35 1 pv' (n + 1) ((P.map fun b => Value.pointer (some ⟨b, 0, none⟩)) ++ [.pointer (some ⟨wr.heap.size, 0, none⟩)])) (g4 : (W3.alloc o2).grownBy W4 pv.ownBlock) (l4 : pv'.ownBlock = pv.ownBlock ∨ pv'.ownBlock = some (W3.alloc o2).heap.size)
    (c5 : W5.ownsRow (B + 4) 3 1 cv' (n + 1) (C.map (Value.int .i64) ++ [.int .i64 c])) (g5 : (W4.alloc o3).grownBy W5 cv.ownBlock) (l5 : cv'.ownBlock = cv.ownBlock ∨ cv'.ownBlock = some (W4.alloc o3).heap.size) :
    Inv B w0 W5 N F sh id cur kv' pv' cv' (n + 1) (K ++ [k]) (C ++ [c]) (P ++ [wr.heap.size]) (setF f k wr.heap.size) := by
  have z2 : wr.heap.size + 1 ≤ W2.heap.size := by have := g2.size; simpa using this
  have z3 : W2.heap.size + 1 ≤ W3.heap.size := by have := g3.size; simpa using this
  have z4 : W3.heap.size + 1 ≤ W4.heap.size := by have := g4.size; simpa using this
  have z5 : W4.heap.size + 1 ≤ W5.heap.size := by have := g5.size; simpa using this
  have s1 : (W2.alloc o1).heap.size = W2.heap.size + 1 := by simp
  have s2 : (W3.alloc o2).heap.size = W3.heap.size + 1 := by simp
  have s3 : (W4.alloc o3).heap.size = W4.heap.size + 1 := by simp
  rw [s1] at l3; rw [s2] at l4; rw [s3] at l5
  have kb : ∀ x, kv.ownBlock = some x → B + 4 ≤ x ∧ x < wr.heap.size := fun x e => ⟨(own_block h.keys e).1, block_lt h.keys e⟩
  have pb : ∀ x, pv.ownBlock = some x → B + 4 ≤ x ∧ x < wr.heap.size := fun x e => ⟨(own_block h.ptrs e).1, block_lt h.ptrs e⟩
  have cb : ∀ x, cv.ownBlock = some x → B + 4 ≤ x ∧ x < wr.heap.size := fun x e => ⟨(own_block h.cnts e).1, block_lt h.cnts e⟩
  have hbm := lt_of_block h.proc
  -- from W2 on
  have tail : ∀ (x : Nat) (o : Obj), W2.heap[x]? = some o → some x ≠ kv.ownBlock → some x ≠ pv.ownBlock → some x ≠ cv.ownBlock → W5.heap[x]? = some o := by
    intro x o hx h1 h2 h3
    exact grown_block g5 (alloc_block (grown_block g4 (alloc_block (grown_block g3 (alloc_block hx) h1)) h2)) h3
  have whole : ∀ (x : Nat) (o : Obj), (wr.alloc (rsO c)).heap[x]? = some o → x ≠ B + 1 + 1 → some x ≠ kv.ownBlock → some x ≠ pv.ownBlock → some x ≠ cv.ownBlock → W5.heap[x]? = some o := by
    intro x o hx h0 h1 h2 h3
    exact tail x o (grown_block g2 hx (fun e => h0 (Option.some.inj e))) h1 h2 h3
  have low : ∀ (x : Nat) (o : Obj), wr.heap[x]? = some o → x < B + 4 → x ≠ B + 1 + 1 → W5.heap[x]? = some o := by
    intro x o hx hlt h0
    refine whole x o (alloc_block hx) h0 ?_ ?_ ?_
    · intro e; have := (kb x e.symm).1; omega
    · intro e; have := (pb x e.symm).1; omega
    · intro e; have := (cb x e.symm).1; omega
  have typed : ∀ (x : Nat) cs, wr.heap[x]? = some (.cells cs 43 (0, 0)) → x ≠ B + 1 + 1 → W5.heap[x]? = some (.cells cs 43 (0, 0)) := by
    intro x cs hx h0
    refine whole x _ (alloc_block hx) h0 ?_ ?_ ?_
    · intro e; obtain ⟨_, cu, hc⟩ := own_block h.keys e.symm; rw [hx] at hc; simp at hc
    · intro e; obtain ⟨_, cu, hc⟩ := own_block h.ptrs e.symm; rw [hx] at hc; simp at hc
    · intro e; obtain ⟨_, cu, hc⟩ := own_block h.cnts e.symm; rw [hx] at hc; simp at hc
  have newb : W5.heap[wr.heap.size]? = some (rsO c) := by
    refine whole _ _ (heap_alloc_new wr _) (by omega) ?_ ?_ ?_
    · intro e; have := (kb _ e.symm).2; omega
    · intro e; have := (pb _ e.symm).2; omega
    · intro e; have := (cb _ e.symm).2; omega
  obtain ⟨es, clock, hmb⟩ := m2.isMap
  refine ⟨?_, low _ _ h.calls (by omega) (by omega), low _ _ h.cfg (by omega) (by omega), ?_, low _ _ h.proc (by omega) (by omega), ?_, ?_, by simpa using c5, ?_, by simp [h.klen], by simp [h.clen], by simp [h.plen], ?_, ?_, ?_, ?_, ?_⟩
  · have hB : B ≤ wr.heap.size := by omega
    refine ((((h.below.alloc hB _).grown g2 (by simp; omega) (fun x e => by have := Option.some.inj e; omega)).alloc (by omega) o1).grown g3 (by omega) (fun x e => by have := (kb x e).1; omega)).alloc (by omega) o2 |>.grown g4 (by omega) (fun x e => by have := (pb x e).1; omega) |>.alloc (by omega) o3 |>.grown g5 (by omega) (fun x e => by have := (cb x e).1; omega)
  · exact m2.kept ((tail _ _ hmb (fun e => by have := (kb _ e.symm).1; omega) (fun e => by have := (pb _ e.symm).1; omega) (fun e => by have := (cb _ e.symm).1; omega)).trans hmb.symm)
  · have e1 : (W3.alloc o2).ownsRow (B + 4) 3 1 kv' (n + 1) (K.map (Value.int .i64) ++ [.int .i64 k]) := k3.alloc o2
    have e2 : W4.ownsRow (B + 4) 3 1 kv' (n + 1) (K.map (Value.int .i64) ++ [.int .i64 k]) := by
      refine e1.kept g4 ?_
      cases hq : pv.ownBlock with
      | none => cases hq' : kv'.ownBlock with
        | none => exact .inl rfl
        | some _ => exact .inr (by simp)
      | some x =>
        refine .inr fun e => ?_
        rcases l3 with l | l
        · exact rows_apart h.keys h.ptrs (by decide) x (l.symm.trans e) hq
        · have := Option.some.inj (l.symm.trans e); have := (pb x hq).2; omega
    have e3 : W5.ownsRow (B + 4) 3 1 kv' (n + 1) (K.map (Value.int .i64) ++ [.int .i64 k]) := by
      refine (e2.alloc o3).kept g5 (.inr fun e => ?_)
      rcases l3 with l | l
      · exact h.apart (l.symm.trans e)
      · have := (cb _ (e.symm.trans l)).2; omega
    simpa using e3
  · have e1 : W5.ownsRow (B + 4) 35 1 pv' (n + 1) ((P.map fun b => Value.pointer (some ⟨b, 0, none⟩)) ++ [.pointer (some ⟨wr.heap.size, 0, none⟩)]) := by
      refine (p4.alloc o3).kept g5 ?_
      cases hq : pv'.ownBlock with
      | none => exact .inl rfl
      | some x =>
        refine .inr fun e => ?_
        rcases l4 with l | l
        · exact rows_apart h.cnts h.ptrs (by decide) x e.symm (l.symm.trans hq)
        · have := Option.some.inj (l.symm.trans hq); have := (cb x e.symm).2; omega
    simpa using e1
  · intro e
    rcases l3 with l | l <;> rcases l5 with m | m
    · exact h.apart ((l.symm.trans e).trans m)
    · have := (kb _ ((l.symm.trans e).trans m)).2; omega
    · have := (cb _ ((m.symm.trans e.symm).trans l)).2; omega
    · have := Option.some.inj ((l.symm.trans e).trans m); omega
  · intro x hx
    rcases List.mem_append.1 hx with hx | hx
    · exact h.kwf x hx
    · simp at hx; rw [hx]; exact hkw
  · intro j hj
    rw [getD_snoc P _ _ j n h.plen, getD_snoc C _ _ j n h.clen]
    by_cases hjn : j < n
    · rw [if_pos hjn, if_pos hjn]
      exact typed _ _ (h.rs j hjn) (by have := h.pge j hjn; omega)
    · have : j = n := by omega
      rw [if_neg hjn, if_neg hjn, if_pos this, if_pos this]
      exact newb
  · intro j hj
    rw [getD_snoc P _ _ j n h.plen]
    by_cases hjn : j < n
    · rw [if_pos hjn]; exact h.pge j hjn
    · rw [if_neg hjn, if_pos (by omega)]; omega
  · intro j hj
    rw [getD_snoc P _ _ j n h.plen, getD_snoc K _ _ j n h.klen]
    by_cases hjn : j < n
    · rw [if_pos hjn, if_pos hjn]
      unfold setF
      rw [if_neg (fun e => by have := h.hit j hjn; rw [e, hf] at this; cases this)]
      exact h.hit j hjn
    · have : j = n := by omega
      rw [if_neg hjn, if_neg hjn, if_pos this, if_pos this]
      unfold setF
      rw [if_pos rfl]
  · intro x p hx
    unfold setF at hx
    by_cases e : x = k
    · rw [if_pos e] at hx
      refine ⟨n, by omega, ?_, ?_⟩
      · rw [getD_snoc K _ _ n n h.klen, if_neg (by omega), if_pos rfl, e]
      · rw [getD_snoc P _ _ n n h.plen, if_neg (by omega), if_pos rfl]; exact Option.some.inj hx
    · rw [if_neg e] at hx
      obtain ⟨j, hj, h1, h2⟩ := h.only x p hx
      exact ⟨j, by omega, by rw [getD_snoc K _ _ j n h.klen, if_pos hj]; exact h1, by rw [getD_snoc P _ _ j n h.plen, if_pos hj]; exact h2⟩
end
end Go.Proofs.Ybulkehkc
