/- THE WALK of LawS6682AWhole. -/
import Derived.Test.YbulkehjaEqual
import Derived.Laws.CopyOwn
namespace Go.Proofs.Ybulkehja
open Go.RowKit

theorem made_u8 (n : Nat) : (madeCells (Value.int .u8 0).cells (n * 1)).toList = (List.replicate n (0 : Int)).map (Value.int .u8) := by
  rw [show (Value.int IntKind.u8 0).cells = #[Value.int IntKind.u8 0] from rfl, toList_madeCells_one]; simp

theorem own_full {W : World} {B g n : Nat} {xs : List Value} (h : W.ownsRow B 5 1 (.slice (some ⟨g, 0, none⟩) n n) n xs) : W.heap[g]? = some (.cells xs.toArray 5 (0, 0)) := by
  rcases h.2 with ⟨e, _⟩ | ⟨g', cap, cur, e, _, hg, _, _, hs, ht⟩
  · simp at e
  · simp only [Value.slice.injEq, Option.some.injEq, Addr.mk.injEq, and_true, true_and] at e
    obtain ⟨rfl, rfl⟩ := e
    have : cur.toList = xs := by rw [← ht]; exact (List.take_of_length_le (by simp [hs])).symm
    rw [hg, ← this]
theorem own_of {W : World} {B g n : Nat} {L : List Int} (h : W.heap[g]? = some (.cells (L.map (Value.int .u8)).toArray 5 (0, 0))) (hl : L.length = n) (hB : B ≤ g) (hm : n ≤ 1048576) : W.ownsRow B 5 1 (.slice (some ⟨g, 0, none⟩) n n) n (L.map (Value.int .u8)) :=
  ⟨by simpa using hl, .inr ⟨g, n, _, rfl, hB, h, Nat.le_refl _, by unfold maxLen; omega, by simpa using hl, List.take_of_length_le (by simp [hl])⟩⟩
theorem splice_pad (L : List Int) (n : Nat) : splice ((List.replicate n (0 : Int)).map (Value.int .u8)) 0 (L.map (Value.int .u8)) = (pad L n).map (Value.int .u8) := by
  simp [splice, pad]

/-- Block g holds the bytes L. -/
def Blk (w : World) (g : Nat) (L : List Int) : Prop := w.heap[g]? = some (.cells (L.map (Value.int .u8)).toArray 5 (0, 0))
theorem Blk.below {B : Nat} {w w' : World} {g : Nat} {L : List Int} (h : Blk w g L) (hb : Below B w w') (hg : g < B) : Blk w' g L := (hb.block g hg).trans h
theorem Blk.cell {w : World} {g p : Nat} {L : List Int} (h : Blk w g L) (hp : p < L.length) : w.cell? ⟨g, p, none⟩ = some (.int .u8 (L.getD p 0)) := by
  rw [cell_of_row w g p _ _ _ h]
  simp [List.getD, List.getElem?_eq_getElem hp]
theorem Blk.free {w : World} {g p : Nat} {L : List Int} (h : Blk w g L) : w.frozen? ⟨g, p, none⟩ = false := frozen_of_row w g p _ _ h
theorem Blk.stored {w : World} {g p : Nat} {L : List Int} (h : Blk w g L) (u : Int) : Blk (w.setCell ⟨g, p, none⟩ (.int .u8 u)) g (L.set p u) := by
  have := heap_setCell_same w g p _ 5 (.int .u8 u) h
  unfold Blk
  rw [this]
  simp [List.map_set]

section
variable {w : World} {ops : Array Oper} {rest : List Oper} {o : Oper} {a : Act} {Q : Exit → Act → World → Prop}

theorem make_law (hg : o.guard = none) (l : Operand) (hop : o.op = Op.makeSlice 24 l l) (k : IntKind) (C : Int) (n : Nat) (hl : a.eval l = .int k C) (hC : C = (n : Int)) (hn : n ≤ 1048576)
    (B : Nat) (w0 : World) (hb : Below B w0 w) (hB : B ≤ w.heap.size)
    (hK : ∀ w', Blk w' w.heap.size (List.replicate n 0) → Below B w0 w' → Below w.heap.size w w' → w.heap.size < w'.heap.size → wpList Yba.prog ops Q rest (a.put o.dst (.slice (some ⟨w.heap.size, 0, none⟩) n n)) w') :
    wpList Yba.prog ops Q (o :: rest) a w := by
  obtain ⟨i0, hi, hz0, hz1, hz2⟩ := info_parts Yba.info5
  refine wpList_make_full w hg l l 24 hop w.heap.size 5 i0 (.int .u8 0) 1 Yba.underlying24 hi hz0 hz1 k k C C n hl hl hC hC (by rw [hz2]; omega) (by unfold maxLen; omega) (Nat.le_refl _) ?_
  intro w' hown hgrow
  rw [made_u8] at hown
  have hB' := own_full hown
  have h1 : Below w.heap.size w w' := (Below.refl _ _).grown hgrow (Nat.le_refl _) (by simp)
  exact hK w' hB' (hb.trans (h1.mono hB)) h1 (lt_of_block hB')

theorem copy_law (hgd : o.guard = none) (d s : Operand) (ho : o.op = .call { callee := .builtin .copy, args := #[d, s], argTypes := #[24, 24] }) (g n lh ch : Nat) (ah : Option Addr)
    (hd : a.eval d = .slice (some ⟨g, 0, none⟩) n n) (hs : a.eval s = .slice ah lh ch) (zh : List Int) (hg : Blk w g (List.replicate n 0)) (hh : Src .u8 w ah lh zh) (hn : lh ≤ n)
    (B : Nat) (w0 : World) (hb : Below B w0 w) (hBg : B ≤ g) (B1 : Nat) (hB1 : B1 ≤ g)
    (h : ∀ w', Blk w' g (pad zh n) → Below B w0 w' → Below B1 w w' → wpList Yba.prog ops Q rest (a.put o.dst (goInt lh)) w') : wpList Yba.prog ops Q (o :: rest) a w := by
  obtain ⟨i0, hi, hz0, hz1, hz2⟩ := info_parts Yba.info5
  have hsz : (Yba.prog.info? 5).map (·.size) = some 1 := by rw [hi]; simp [hz1]
  have hl := hh.size
  by_cases h0 : lh = 0
  · subst h0
    obtain rfl : zh = [] := List.eq_nil_of_length_eq_zero hl
    refine wpList_copy_nothing hgd d s 24 24 ho 5 Yba.underlying24 hsz _ _ _ _ _ _ hd hs (by simp) ?_
    exact h w (by simpa [pad] using hg) hb (Below.refl _ _)
  · obtain ⟨b, off, rfl, _⟩ := hh.cell 0 (by omega)
    have hrow : w.heap[g]? = some (.cells ((List.replicate n (0 : Int)).map (Value.int .u8)).toArray 5 (0, 0)) := hg
    refine wpList_copy_own hgd d s 24 24 ho 5 Yba.underlying24 hsz g 0 n n ⟨b, off, none⟩ lh ch hd hs _ 5 hrow (zh.map (Value.int .u8)) (by rw [List.length_map, hl]; exact (Nat.min_eq_left hn).symm) hh.news (by simp [hl]; omega) (ints_one _ _) ?_
    have e : (goInt ((zh.map (Value.int .u8)).length : Nat)) = goInt (lh : Nat) := by rw [List.length_map, hl]
    rw [e]
    refine h _ ?_ (below_setRow hb hBg _) (below_setRow (Below.refl _ _) hB1 _)
    have hsr := setRow_heap w g _ ((((List.replicate n (0 : Int)).map (Value.int .u8)).toArray.toList.take 0 ++ (zh.map (Value.int .u8) ++ ((List.replicate n (0 : Int)).map (Value.int .u8)).toArray.toList.drop (0 + (zh.map (Value.int .u8)).length))).toArray) 5 _ hrow
    unfold Blk
    rw [hsr]
    have e2 := splice_pad zh n
    simp only [splice] at e2
    rw [← e2]
end

theorem Src.under {k : IntKind} {w w' : World} {a : Option Addr} {len : Nat} {zs : List Int} (h : Src k w a len zs) (hb : Below w.heap.size w w') : Src k w' a len zs := h.keep hb rfl

theorem bstep {w W w3 : World} (h : Below w.heap.size w W) (k : Below W.heap.size W w3) : Below w.heap.size w w3 := h.trans (k.mono h.size)

/-- What set answers and leaves, at whatever ring. -/
def SetSpec (b s : Nat) (zh : List Int) (ok : Bool) (Lw : List Int) : Prop :=
  ∀ (bo n Bh : Nat) (q r i : Int) (mv rv hv : Value) (W : World), W.heap[bo]? = some (box q r i mv b hv rv) → Bh ≤ bo → W.ownsRow Bh 5 1 hv n (zh.map (Value.int .u8)) → n ≤ 1048576 →
    Calls Yba.prog 7 #[.pointer (some ⟨bo, 0, none⟩), .int .u64 s] W fun e w' => e = .returned (.bool ok) ∧
      ∃ hv' n', w'.heap[bo]? = some (box q r i mv b hv' rv) ∧ w'.ownsRow Bh 5 1 hv' n' (Lw.map (Value.int .u8)) ∧ Below Bh W w' ∧ Keep bo W w'

theorem spec_le {b s : Nat} {zh : List Int} (h : s ≤ b) : SetSpec b s zh false zh := by
  intro bo n Bh q r i mv rv hv W hbox hB hown hn
  refine (set_le bo b s W (by rw [cell_of_row W bo 4 _ _ _ hbox]; rfl) h).mono ?_
  rintro e w' ⟨rfl, hst⟩
  exact ⟨rfl, hv, n, hst.block hbox, hst.own hown, hst.below _, hst.keep _⟩
theorem spec_held {b s : Nat} {zh : List Int} (hb : b ≤ 18446744073692774399) (hs : b < s) (hj : s ≤ b + 524288) (hh : isHeld zh (s - b - 1) = true) : SetSpec b s zh false zh := by
  intro bo n Bh q r i mv rv hv W hbox hB hown hn
  refine (set_held bo b s n Bh q r i mv rv hv zh W hbox hown hb hn hs hj hh).mono ?_
  rintro e w' ⟨rfl, hst⟩
  exact ⟨rfl, hv, n, hst.block hbox, hst.own hown, hst.below _, hst.keep _⟩
theorem spec_new {b s : Nat} {zh : List Int} (hb : b ≤ 18446744073692774399) (hs : b < s) (hj : s ≤ b + 524288) (hh : isHeld zh (s - b - 1) = false) : SetSpec b s zh true (newHeld zh (s - b - 1)) := by
  intro bo n Bh q r i mv rv hv W hbox hB hown hn
  exact set_new bo b s n Bh q r i mv rv hv zh W hbox hB hown hb hn hs hj hh

theorem bit_table : ∀ x : Fin 256, ∀ r : Fin 8, (bits BinOp.and IntKind.u8 ((x.val : Int) / 2 ^ r.val) 1 == 1) = bitB (x.val : Int) r.val := by decide +kernel
theorem bit_agree (x : Int) (r : Nat) (hx : 0 ≤ x ∧ x ≤ 255) (hr : r < 8) : (bits BinOp.and IntKind.u8 (x / 2 ^ r) 1 == 1) = bitB x r := by
  obtain ⟨n, rfl⟩ : ∃ n : Nat, x = n := ⟨x.toNat, by omega⟩
  exact bit_table ⟨n, by omega⟩ ⟨r, hr⟩

end Go.Proofs.Ybulkehja
