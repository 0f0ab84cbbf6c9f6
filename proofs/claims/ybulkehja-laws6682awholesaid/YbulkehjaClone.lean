/- THE CONTRACTS of slices.Clone at []uint64 and []byte. -/
import Derived.Test.YbulkehjaRows
import Derived.WalkKit
import Derived.ProofKit
import Derived.WalkSpells
namespace Go.Proofs.Ybulkehja
open Go.RowKit

theorem Yba.info22 : (Yba.prog.info? 22).map (fun i => (i.zero, i.size, i.bytes)) = some (some (.int .u64 0), 1, 8) := by kernel_rfl
theorem Yba.info5 : (Yba.prog.info? 5).map (fun i => (i.zero, i.size, i.bytes)) = some (some (.int .u8 0), 1, 1) := by kernel_rfl

/-- A slice of integers that is read: its cells in the world w. -/
structure Src (k : IntKind) (w : World) (a : Option Addr) (len : Nat) (zs : List Int) : Prop where
  size : zs.length = len
  cell : ∀ j, j < len → ∃ b off, a = some ⟨b, off, none⟩ ∧ w.cell? ⟨b, off + j, none⟩ = some (.int k (zs.getD j 0))

theorem Src.nil {k : IntKind} {w : World} {len : Nat} {zs : List Int} (h : Src k w none len zs) : len = 0 ∧ zs = [] := by
  have : len = 0 := by
    rcases Nat.eq_zero_or_pos len with e | e
    · exact e
    · obtain ⟨_, _, h, _⟩ := h.cell 0 e; cases h
  exact ⟨this, List.eq_nil_of_length_eq_zero (by rw [h.size, this])⟩

theorem Src.news {k : IntKind} {w : World} {ad : Addr} {len : Nat} {zs : List Int} (h : Src k w (some ad) len zs) (j : Nat) (u : Value) (hj : (zs.map (Value.int k))[j]? = some u) : w.cell? (ad.add j) = some u := by
  have hlen := h.size
  have hjl : j < zs.length := by
    rcases Nat.lt_or_ge j zs.length with e | e
    · exact e
    · rw [List.getElem?_eq_none (by simpa using e)] at hj; cases hj
  obtain ⟨b, off, e, hc⟩ := h.cell j (by omega)
  simp only [Option.some.injEq] at e
  subst e
  have hadd : (⟨b, off, none⟩ : Addr).add j = ⟨b, off + j, none⟩ := by unfold Addr.add; split <;> simp_all
  rw [hadd, hc, ← hj]
  simp [List.getD, List.getElem?_eq_getElem hjl]

theorem Src.keep {k : IntKind} {B : Nat} {w w' : World} {a : Option Addr} {len : Nat} {zs : List Int} (h : Src k w a len zs) (hb : Below B w w') (hB : B = w.heap.size) : Src k w' a len zs :=
  ⟨h.size, fun j hj => by
    obtain ⟨b, off, e, hc⟩ := h.cell j hj
    refine ⟨b, off, e, ?_⟩
    rw [hb.cell (p := ⟨b, off + j, none⟩) (by rw [hB]; exact block_lt_of_cell hc)]
    exact hc⟩

theorem ints_one (k : IntKind) (zs : List Int) : ∀ u ∈ zs.map (Value.int k), u.oneCell' = true := by
  intro u hu
  obtain ⟨z, _, rfl⟩ := List.mem_map.1 hu
  rfl

set_option maxHeartbeats 400000 in
theorem clone22 (a : Option Addr) (len cap : Nat) (zs : List Int) (w : World) (h : Src .u64 w a len zs) (hl : len ≤ 1048576) :
    Calls Yba.prog 5 #[.slice a len cap] w fun e w' => ∃ v, e = .returned v ∧ w'.ownsRow w.heap.size 22 1 v len (zs.map (Value.int .u64)) ∧ Below w.heap.size w w' := by
  have hn := fun (W : World) (a : Option Addr) (n c : Nat) => Lib.run_eql_slice_nil (P := Yba.prog) W 23 22 a n c 0 0 Yba.underlying23
  cases a with
  | none =>
    obtain ⟨rfl, rfl⟩ := h.nil
    clear h
    go_enter Yba.func5, Yba.ntmps5
    go_wp2
    go_ret
    exact ⟨_, rfl, World.ownsRow_nil _ _ _ _, Below.refl _ _⟩
  | some ad =>
    obtain ⟨i0, hi, hz0, hz1, hz2⟩ := info_parts Yba.info22
    have hb0 : Below w.heap.size w (w.alloc (.cells #[] 22)) := (Below.refl _ _).alloc (Nat.le_refl _) _
    have h1 := h.keep hb0 rfl
    have hsz := h.size
    have own0 : (w.alloc (.cells #[] 22)).ownsRow w.heap.size 22 1 (.slice (some ⟨w.heap.size, 0, none⟩) 0 0) 0 [] := World.ownsRow_lit w #[] 0 (Nat.le_refl _) (Nat.zero_le _) rfl
    go_enter Yba.func5, Yba.ntmps5
    go_wp2_with (at_builtin; refine wpList_append_own _ rfl (.tmp 5) (.tmp 6) 23 rfl w.heap.size 22 i0 (.int .u64 0) 1 8 Yba.underlying23 hi hz0 hz1 hz2 rfl (by decide) _ 0 [] rfl own0 ad len cap (zs.map (Value.int .u64)) rfl (by simp [hsz]) h1.news (ints_one _ _) (by unfold maxLen; omega) (by omega) (by simp) ?_; intro v' w1 hown hgrow _)
    go_ret
    have hb1 : Below w.heap.size w w1 := hb0.grown hgrow (by simp) (fun k hk => Nat.le_of_eq (Option.some.inj hk))
    exact ⟨_, rfl, by simpa using hown, hb1⟩

set_option maxHeartbeats 400000 in
theorem clone5 (a : Option Addr) (len cap : Nat) (zs : List Int) (w : World) (h : Src .u8 w a len zs) (hl : len ≤ 1048576) :
    Calls Yba.prog 6 #[.slice a len cap] w fun e w' => ∃ v, e = .returned v ∧ w'.ownsRow w.heap.size 5 1 v len (zs.map (Value.int .u8)) ∧ Below w.heap.size w w' := by
  have hn := fun (W : World) (a : Option Addr) (n c : Nat) => Lib.run_eql_slice_nil (P := Yba.prog) W 24 5 a n c 0 0 Yba.underlying24
  cases a with
  | none =>
    obtain ⟨rfl, rfl⟩ := h.nil
    clear h
    go_enter Yba.func6, Yba.ntmps6
    go_wp2
    go_ret
    exact ⟨_, rfl, World.ownsRow_nil _ _ _ _, Below.refl _ _⟩
  | some ad =>
    obtain ⟨i0, hi, hz0, hz1, hz2⟩ := info_parts Yba.info5
    have hb0 : Below w.heap.size w (w.alloc (.cells #[] 5)) := (Below.refl _ _).alloc (Nat.le_refl _) _
    have h1 := h.keep hb0 rfl
    have hsz := h.size
    have own0 : (w.alloc (.cells #[] 5)).ownsRow w.heap.size 5 1 (.slice (some ⟨w.heap.size, 0, none⟩) 0 0) 0 [] := World.ownsRow_lit w #[] 0 (Nat.le_refl _) (Nat.zero_le _) rfl
    go_enter Yba.func6, Yba.ntmps6
    go_wp2_with (at_builtin; refine wpList_append_own _ rfl (.tmp 5) (.tmp 6) 24 rfl w.heap.size 5 i0 (.int .u8 0) 1 1 Yba.underlying24 hi hz0 hz1 hz2 rfl (by decide) _ 0 [] rfl own0 ad len cap (zs.map (Value.int .u8)) rfl (by simp [hsz]) h1.news (ints_one _ _) (by unfold maxLen; omega) (by omega) (by simp) ?_; intro v' w1 hown hgrow _)
    go_ret
    have hb1 : Below w.heap.size w w1 := hb0.grown hgrow (by simp) (fun k hk => Nat.le_of_eq (Option.some.inj hk))
    exact ⟨_, rfl, by simpa using hown, hb1⟩

end Go.Proofs.Ybulkehja
