/- THE THREE SLICES OF LawS6685CWhole, opened at every index. -/
import Derived.Test.YbulkehkqLast
import Derived.Deep.Strs
import Derived.Deep.SlicePairs
import Derived.KernelRfl
import Derived.Below
import Derived.SizedLaws
namespace Go.Proofs.Ybulkehkq
open Go.RowKit Go.WideShapes Go.Deep

theorem plain_addr {w : World} {a : Addr} {i : Nat} {v u : Value} (h0 : w.cell? (a.add 0) = some u) (h : w.cell? (a.add i) = some v) : ∃ b off, a = ⟨b, off, none⟩ ∧ b < w.heap.size ∧ w.cell? ⟨b, off + i, none⟩ = some v := by
  obtain ⟨b, off, spot⟩ := a
  have hs : spot = none := by
    have := World.cell?_spot h0
    simpa [Addr.add] using this
  subst hs
  rw [add_plain] at h
  exact ⟨b, off, rfl, block_lt_of_cell h, h⟩

section
variable {H : Type} {enc : TypeId × Value → H} {w : World} {base : Nat} {spare : Nat → Bool} {held : Bool}

theorem slice_len {t e : TypeId} {fuel B : Nat} {a : Option Addr} {len cap : Nat} {d : DataW H} {ps : List MemPlace} (ht : Yba.prog.underlying t = some (.slice e)) (hB : Yba.prog.bytesOf e = B + 1) (h : DataW.trod enc Yba.prog w base spare held fuel t [.slice a len cap] = some (d, ps))
    (hsz : ∀ elems rest, d = .slice elems rest → (elems.length + rest.length) * Yba.prog.bytesOf e ≤ reachBytes) : len ≤ 140737488351232 := by
  rcases open_slice ht h with ⟨hcs, _⟩ | ⟨a', len', cap', m, n, D, Pl, hcs, _, hl, hc, _, hd, _⟩
  · simp at hcs
    obtain ⟨_, rfl, _⟩ := hcs
    exact Nat.zero_le _
  · simp at hcs
    obtain ⟨_, rfl, rfl⟩ := hcs
    have h1 := hsz _ _ (Prod.mk.inj hd).1
    rw [List.length_map, List.length_range, hB] at h1
    have h2 : len * 1 ≤ (len + (List.map (fun j => D (len + j)) (List.range (m - len))).length) * (B + 1) := Nat.mul_le_mul (Nat.le_add_right _ _) (by omega)
    have h3 : reachBytes = 140737488351232 := by decide
    omega

theorem open_keys {fuel : Nat} {a : Option Addr} {len cap : Nat} {x : DataW H × List MemPlace} (h : DataW.trod enc Yba.prog w base spare held fuel 23 [.slice a len cap] = some x) :
    ∃ Kx : Nat → ByteArray, (∀ i, i < len → ∃ b off, a = some ⟨b, off, none⟩ ∧ b < w.heap.size ∧ w.cell? ⟨b, off + i, none⟩ = some (.string (Kx i))) ∧ ∀ i, i < len → (Kx i).size ≤ maxLen := by
  rcases open_strs Yba.underlying23 Yba.underlying9 (by kernel_rfl) h with ⟨hcs, _⟩ | ⟨a', len', cap', m, Sx, hcs, _, hl, _, hm, _, hc⟩
  · simp at hcs
    obtain ⟨rfl, rfl, rfl⟩ := hcs
    exact ⟨fun _ => default, fun i hi => absurd hi (Nat.not_lt_zero _), fun i hi => absurd hi (Nat.not_lt_zero _)⟩
  · simp at hcs
    obtain ⟨rfl, rfl, rfl⟩ := hcs
    have hlm : len ≤ m := by rw [hm]; split <;> omega
    refine ⟨Sx, fun i hi => ?_, fun i hi => (hc i (by omega)).2⟩
    obtain ⟨b, off, rfl, hb, hx⟩ := plain_addr (hc 0 (by omega)).1 (hc i (by omega)).1
    exact ⟨b, off, rfl, hb, hx⟩

theorem open_labels {fuel : Nat} {a : Option Addr} {len cap : Nat} {x : DataW H × List MemPlace} (h : DataW.trod enc Yba.prog w base spare held fuel 24 [.slice a len cap] = some x) :
    ∃ Lk Lv : Nat → ByteArray, (∀ i, i < len → ∃ b off, a = some ⟨b, off, none⟩ ∧ b < w.heap.size ∧ w.cell? ⟨b, off + i * 2, none⟩ = some (.string (Lk i)) ∧ w.cell? ⟨b, off + i * 2 + 1, none⟩ = some (.string (Lv i))) ∧
      (∀ i, i < len → (Lk i).size ≤ maxLen) ∧ ∀ i, i < len → (Lv i).size ≤ maxLen := by
  rcases open_slice_pairs Yba.underlying24 Yba.underlying31 (by kernel_rfl) rfl rfl (by kernel_rfl) (by kernel_rfl) h with ⟨hcs, _⟩ | ⟨a', len', cap', m, n, V0, V1, D0, D1, P0, P1, hcs, _, hl, _, hm, _, hc⟩
  · simp at hcs
    obtain ⟨rfl, rfl, rfl⟩ := hcs
    exact ⟨fun _ => default, fun _ => default, fun i hi => absurd hi (Nat.not_lt_zero _), fun i hi => absurd hi (Nat.not_lt_zero _), fun i hi => absurd hi (Nat.not_lt_zero _)⟩
  · simp at hcs
    obtain ⟨rfl, rfl, rfl⟩ := hcs
    have hlm : len ≤ m := by rw [hm]; split <;> omega
    have each : ∀ i, i < len → ∃ q : ByteArray × ByteArray, V0 i = .string q.1 ∧ V1 i = .string q.2 ∧ q.1.size ≤ maxLen ∧ q.2.size ≤ maxLen := fun i hi => by
      obtain ⟨_, _, h0, h1⟩ := hc i (by omega)
      obtain ⟨s, e1, _, e2⟩ := DataW.trod_string Yba.underlying9 h0
      obtain ⟨v, e3, _, e4⟩ := DataW.trod_string Yba.underlying9 h1
      exact ⟨(s, v), by simpa using e1, by simpa using e3, e2, e4⟩
    obtain ⟨q, hq⟩ := choose_lt each
    refine ⟨fun i => (q i).1, fun i => (q i).2, fun i hi => ?_, fun i hi => (hq i hi).2.2.1, fun i hi => (hq i hi).2.2.2⟩
    obtain ⟨c0, c1, _, _⟩ := hc i (by omega)
    rw [(hq i hi).1] at c0
    rw [(hq i hi).2.1] at c1
    obtain ⟨b, off, rfl, hb, hx⟩ := plain_addr (by simpa using (hc 0 (by omega)).1) c0
    rw [add_plain, ← Nat.add_assoc] at c1
    exact ⟨b, off, rfl, hb, hx, c1⟩

set_option maxRecDepth 100000 in
theorem open_entries {fuel : Nat} {a : Option Addr} {len cap : Nat} {x : DataW H × List MemPlace} (h : DataW.trod enc Yba.prog w base spare held fuel 22 [.slice a len cap] = some x) :
    ∃ (Ek Ev : Nat → ByteArray) (Ec : Nat → Int), Ents w a len Ek Ev Ec := by
  rcases open_slice Yba.underlying22 h with ⟨hcs, _⟩ | ⟨a', len', cap', m, n, D, Pl, hcs, _, hl, _, hm, _, hc⟩
  · simp at hcs
    obtain ⟨rfl, rfl, rfl⟩ := hcs
    exact ⟨fun _ => default, fun _ => default, fun _ => 0, fun i hi => absurd hi (Nat.not_lt_zero _), fun i hi => absurd hi (Nat.not_lt_zero _), fun i hi => absurd hi (Nat.not_lt_zero _), fun i hi => absurd hi (Nat.not_lt_zero _)⟩
  · simp at hcs
    obtain ⟨rfl, rfl, rfl⟩ := hcs
    have hlm : len ≤ m := by rw [hm]; split <;> omega
    have e28 : Yba.prog.cellsOf 28 = 3 := by kernel_rfl
    have e9 : Yba.prog.cellsOf 9 = 1 := by kernel_rfl
    have e3 : Yba.prog.cellsOf 3 = 1 := by kernel_rfl
    have each : ∀ i, i < len → ∃ q : ByteArray × ByteArray × Int, (w.cell? (a'.add (i * 3)) = some (.string q.1) ∧ w.cell? (a'.add (i * 3 + 1)) = some (.string q.2.1) ∧ w.cell? (a'.add (i * 3 + 2)) = some (.int .i64 q.2.2)) ∧
        q.1.size ≤ maxLen ∧ q.2.1.size ≤ maxLen ∧ (Lit.int .i64 q.2.2).wf = true := fun i hi => by
      obtain ⟨cs', h1, h2⟩ := hc i (by omega)
      rw [e28] at h1
      obtain ⟨_, hlen, hcell⟩ := World.cells?_some h1
      obtain ⟨y0, y1, y2, k, _, _, g0, g1, g2⟩ := trod_struct3 Yba.underlying28 h2
      match cs', hlen with
      | [v0, v1, v2], _ =>
        rw [e9] at g0 g1
        rw [e3] at g2
        obtain ⟨s, r1, _, r2⟩ := DataW.trod_string Yba.underlying9 g0
        obtain ⟨v, r3, _, r4⟩ := DataW.trod_string Yba.underlying9 g1
        obtain ⟨c, r5, _, r6⟩ := DataW.trod_int Yba.underlying3 g2
        simp at r1 r3 r5
        subst r1 r3 r5
        have c0 := hcell 0 (by omega)
        have c1 := hcell 1 (by omega)
        have c2 := hcell 2 (by omega)
        rw [add_add] at c0 c1 c2
        exact ⟨(s, v, c), ⟨by simpa using c0, by simpa using c1, by simpa using c2⟩, r2, r4, r6⟩
    obtain ⟨q, hq⟩ := choose_lt each
    refine ⟨fun i => (q i).1, fun i => (q i).2.1, fun i => (q i).2.2, fun i hi => ?_, fun i hi => (hq i hi).2.1, fun i hi => (hq i hi).2.2.1, fun i hi => (hq i hi).2.2.2⟩
    obtain ⟨⟨c0, c1, c2⟩, _⟩ := hq i hi
    obtain ⟨b, off, rfl, hb, hx⟩ := plain_addr (by simpa using (hq 0 (by omega)).1.1) c0
    rw [add_plain, ← Nat.add_assoc] at c1 c2
    exact ⟨b, off, rfl, hb, hx, c1, c2⟩
end
end Go.Proofs.Ybulkehkq
