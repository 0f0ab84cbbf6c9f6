/- THE WALK of LawS6684AWhole: what both halves need. -/
import Derived.Test.YbulkehkcInv
import Derived.Test.YbulkehkcTail
import Derived.WalkSpells
import Derived.Deep.Cut
import Derived.Deep.CutRange
import Derived.Deep.CutBlock
namespace Go.Proofs.Ybulkehkc
open Go.RowKit

theorem Yba.info3 : (Yba.prog.info? 3).map (fun i => (i.zero, i.size, i.bytes)) = some (some (.int .i64 0), 1, 8) := by kernel_rfl
theorem Yba.info35 : (Yba.prog.info? 35).map (fun i => (i.zero, i.size, i.bytes)) = some (some (.pointer none), 1, 8) := by kernel_rfl

/-- A slice of ints that is read. -/
structure Src (w : World) (a : Option Addr) (len : Nat) : Prop where
  cell : ∀ j, j < len → ∃ b off, ∃ v : Int, a = some ⟨b, off, none⟩ ∧ b < w.heap.size ∧ w.cell? ⟨b, off + j, none⟩ = some (.int .i64 v) ∧ (Lit.int .i64 v).wf = true

theorem inv_start (w : World) (N : Nat) (F : Int) (sh : Bool) (id cur : Int) :
    Inv w.heap.size w (((((((w.alloc (.cells #[.int .i64 0] 3)).alloc (cfgO N F sh)).alloc (.map #[] 0)).alloc (procO w.heap.size (w.heap.size + 1 + 1) N F sh id cur)).alloc (.cells #[] 3)).alloc (.cells #[] 35)).alloc (.cells #[] 3)) N F sh id cur
      (.slice (some ⟨w.heap.size + 1 + 1 + 1 + 1, 0, none⟩) 0 0) (.slice (some ⟨w.heap.size + 1 + 1 + 1 + 1 + 1, 0, none⟩) 0 0) (.slice (some ⟨w.heap.size + 1 + 1 + 1 + 1 + 1 + 1, 0, none⟩) 0 0) 0 [] [] [] (fun _ => none) := by
  obtain ⟨w1, h1⟩ : ∃ w1, w1 = w.alloc (.cells #[.int .i64 0] 3) := ⟨_, rfl⟩
  obtain ⟨w2, h2⟩ : ∃ w2, w2 = w1.alloc (cfgO N F sh) := ⟨_, rfl⟩
  obtain ⟨w3, h3⟩ : ∃ w3, w3 = w2.alloc (.map #[] 0) := ⟨_, rfl⟩
  obtain ⟨w4, h4⟩ : ∃ w4, w4 = w3.alloc (procO w.heap.size (w.heap.size + 1 + 1) N F sh id cur) := ⟨_, rfl⟩
  obtain ⟨w5, h5⟩ : ∃ w5, w5 = w4.alloc (.cells #[] 3) := ⟨_, rfl⟩
  obtain ⟨w6, h6⟩ : ∃ w6, w6 = w5.alloc (.cells #[] 35) := ⟨_, rfl⟩
  obtain ⟨w7, h7⟩ : ∃ w7, w7 = w6.alloc (.cells #[] 3) := ⟨_, rfl⟩
  have z1 : w1.heap.size = w.heap.size + 1 := by rw [h1]; simp
  have z2 : w2.heap.size = w.heap.size + 1 + 1 := by rw [h2]; simp [z1]
  have z3 : w3.heap.size = w.heap.size + 1 + 1 + 1 := by rw [h3]; simp [z2]
  have z4 : w4.heap.size = w.heap.size + 1 + 1 + 1 + 1 := by rw [h4]; simp [z3]
  have z5 : w5.heap.size = w.heap.size + 1 + 1 + 1 + 1 + 1 := by rw [h5]; simp [z4]
  have z6 : w6.heap.size = w.heap.size + 1 + 1 + 1 + 1 + 1 + 1 := by rw [h6]; simp [z5]
  rw [← h1, ← h2, ← h3, ← h4, ← h5, ← h6, ← h7]
  have b1 : w1.heap[w.heap.size]? = some (.cells #[.int .i64 0] 3 (0, 0)) := by rw [h1]; exact heap_alloc_new _ _
  have b2 : w2.heap[w.heap.size + 1]? = some (cfgO N F sh) := by rw [h2, ← z1]; exact heap_alloc_new _ _
  have m3 : IMap w3 (w.heap.size + 1 + 1) 0 (fun _ => none) 0 := by rw [h3, ← z2]; exact IMap.made w2
  have b4 : w4.heap[w.heap.size + 1 + 1 + 1]? = some (procO w.heap.size (w.heap.size + 1 + 1) N F sh id cur) := by rw [h4, ← z3]; exact heap_alloc_new _ _
  have o5 : w5.ownsRow (w.heap.size + 4) 3 1 (.slice (some ⟨w.heap.size + 1 + 1 + 1 + 1, 0, none⟩) 0 0) 0 [] := by
    rw [h5, ← z4]; exact World.ownsRow_lit w4 #[] 0 (by omega) (Nat.zero_le _) rfl
  have o6 : w6.ownsRow (w.heap.size + 4) 35 1 (.slice (some ⟨w.heap.size + 1 + 1 + 1 + 1 + 1, 0, none⟩) 0 0) 0 [] := by
    rw [h6, ← z5]; exact World.ownsRow_lit w5 #[] 0 (by omega) (Nat.zero_le _) rfl
  have o7 : w7.ownsRow (w.heap.size + 4) 3 1 (.slice (some ⟨w.heap.size + 1 + 1 + 1 + 1 + 1 + 1, 0, none⟩) 0 0) 0 [] := by
    rw [h7, ← z6]; exact World.ownsRow_lit w6 #[] 0 (by omega) (Nat.zero_le _) rfl
  have up : ∀ (x : Nat) (o : Obj), w4.heap[x]? = some o → w7.heap[x]? = some o := by
    intro x o hx
    rw [h7, h6, h5]; exact alloc_block (alloc_block (alloc_block hx))
  obtain ⟨es, clock, hmb⟩ := m3.isMap
  have hmb7 : w7.heap[w.heap.size + 1 + 1]? = some (.map es clock) := up _ _ (by rw [h4]; exact alloc_block hmb)
  refine ⟨?_, up _ _ (by rw [h4, h3, h2]; exact alloc_block (alloc_block (alloc_block b1))), up _ _ (by rw [h4, h3]; exact alloc_block (alloc_block b2)), m3.kept (hmb7.trans hmb.symm), up _ _ b4, ?_, ?_, o7, by simp [Value.ownBlock], rfl, rfl, rfl, by simp, by simp, by simp, by simp, by simp⟩
  · rw [h7, h6, h5, h4, h3, h2, h1]
    exact ((((((Below.refl _ _).alloc (Nat.le_refl _) _).alloc (by simp) _).alloc (by simp; omega) _).alloc (by simp; omega) _).alloc (by simp; omega) _).alloc (by simp; omega) _ |>.alloc (by simp; omega) _
  · rw [h7, h6]; exact (o5.alloc _).alloc _
  · rw [h7]; exact o6.alloc _

def hasK (K : List Int) (t : Nat) (rd : Int) : Bool := (K.take t).any (· == rd)
theorem hasK_succ (K : List Int) (t : Nat) (rd : Int) (h : t < K.length) : hasK K (t + 1) rd = (hasK K t rd || K.getD t 0 == rd) := by
  unfold hasK
  rw [List.take_succ_eq_append_getElem h, List.any_append]
  simp [List.getD, List.getElem?_eq_getElem h]
theorem hasK_all {B : Nat} {w0 wr : World} {N : Nat} {F : Int} {sh : Bool} {id cur : Int} {kv pv cv : Value} {n : Nat} {K C : List Int} {P : List Nat} {f : Int → Option Nat} (h : Inv B w0 wr N F sh id cur kv pv cv n K C P f) (rd : Int) : hasK K n rd = (f rd).isSome := by
  rw [Bool.eq_iff_iff]
  unfold hasK
  rw [List.take_of_length_le (Nat.le_of_eq h.klen), List.any_eq_true]
  constructor
  · rintro ⟨x, hx, e⟩
    obtain ⟨j, hj, rfl⟩ := List.getElem_of_mem hx
    have := h.hit j (by have := h.klen; omega)
    simp only [List.getD, List.getElem?_eq_getElem hj, Option.getD_some] at this
    have e' : K[j] = rd := by simpa using e
    rw [e'] at this
    rw [this]; rfl
  · intro hs
    obtain ⟨p, hp⟩ := Option.isSome_iff_exists.1 hs
    obtain ⟨j, hj, h1, _⟩ := h.only rd p hp
    have hjl : j < K.length := by have := h.klen; omega
    refine ⟨K[j], List.getElem_mem _, ?_⟩
    simp only [List.getD, List.getElem?_eq_getElem hjl, Option.getD_some] at h1
    simp [h1]

theorem one_int (x : Int) : ∀ u ∈ [Value.int .i64 x], u.oneCell' = true := by intro u hu; simp at hu; subst hu; rfl
theorem one_ptr (b : Nat) : ∀ u ∈ [Value.pointer (some ⟨b, 0, none⟩)], u.oneCell' = true := by intro u hu; simp at hu; subst hu; rfl

end Go.Proofs.Ybulkehkc
