/- THE CONTRACT of Process.state. -/
import Derived.Test.YbulkehkcState
namespace Go.Proofs.Ybulkehkc
open Go.RowKit

theorem proc_cells {w : World} {g B bm : Nat} {M F : Int} {sh : Bool} {id cur : Int} (h : w.heap[g]? = some (procO B bm M F sh id cur)) :
    w.cell? ⟨g, 0, none⟩ = some (.int .i64 M) ∧ w.cell? ⟨g, 1, none⟩ = some (.int .i64 F) ∧ w.cell? ⟨g, 2, none⟩ = some (.bool sh) ∧ w.cell? ⟨g, 3, none⟩ = some (.bool false) ∧ w.cell? ⟨g, 4, none⟩ = some (.bool false) ∧
    w.cell? ⟨g, 5, none⟩ = some (.bool false) ∧ w.cell? ⟨g, 6, none⟩ = some (.int .i64 0) ∧ w.cell? ⟨g, 7, none⟩ = some (.bool false) ∧ w.cell? ⟨g, 8, none⟩ = some (.int .i64 id) ∧ w.cell? ⟨g, 9, none⟩ = some (fnV B) ∧
    w.cell? ⟨g, 10, none⟩ = some (.int .i64 cur) ∧ w.cell? ⟨g, 11, none⟩ = some (.int .u8 1) ∧ w.cell? ⟨g, 12, none⟩ = some (.int .i8 1) ∧ w.cell? ⟨g, 13, none⟩ = some (.int .i8 0) ∧ w.cell? ⟨g, 14, none⟩ = some (.map (some bm)) ∧
    w.cell? ⟨g, 15, none⟩ = some (.bool false) ∧ w.cell? ⟨g, 16, none⟩ = some (.int .i8 0) ∧ w.cell? ⟨g, 17, none⟩ = some (.int .i64 0) := by
  refine ⟨?_, ?_, ?_, ?_, ?_, ?_, ?_, ?_, ?_, ?_, ?_, ?_, ?_, ?_, ?_, ?_, ?_, ?_⟩ <;> (rw [cell_of_row w g _ _ _ _ h]; rfl)

set_option maxHeartbeats 400000 in
theorem state_has (bp B bm n sz p : Nat) (M F : Int) (sh : Bool) (id cur rd : Int) (f : Int → Option Nat) (w : World) (hp : w.heap[bp]? = some (procO B bm M F sh id cur)) (hm : IMap w bm n f sz) (hrd : (Lit.int .i64 rd).wf = true) (hf : f rd = some p) :
    Calls Yba.prog 5 #[.pointer (some ⟨bp, 0, none⟩), .int .i64 rd] w fun e w' => e = .returned (.pointer (some ⟨p, 0, none⟩)) ∧ w' = w := by
  have c14 := (proc_cells hp).2.2.2.2.2.2.2.2.2.2.2.2.2.2.1
  have hl := hm.look rd hrd
  rw [hf] at hl
  have hl' : (Instr.lookup 31 (.map (some bm)) (.int .i64 rd) true).run Yba.prog w = .ok (.tuple #[.pointer (some ⟨p, 0, none⟩), .bool true]) w := hl
  clear hl hm hp hf
  go_enter Yba.func5, Yba.ntmps5
  go_wp2
  go_ret
  exact ⟨rfl, rfl⟩

/-- What a new round state's world is, ahead of the map's store. -/
theorem new_rs {w w1 : World} {N bm n sz bp B : Nat} {M F : Int} {sh : Bool} {id cur : Int} {f : Int → Option Nat} (hb1 : Blank w1 w.heap.size N) (hbel1 : Below w.heap.size w w1) (hs1 : w.heap.size < w1.heap.size) (hm : IMap w bm n f sz) (hp : w.heap[bp]? = some (procO B bm M F sh id cur)) (v : Value) :
    (w1.alloc (rsNew w.heap.size N v)).drew.heap[w1.heap.size]? = some (rsNew w.heap.size N v) ∧ Blank (w1.alloc (rsNew w.heap.size N v)).drew w.heap.size N ∧ IMap (w1.alloc (rsNew w.heap.size N v)).drew bm n f sz ∧ (w1.alloc (rsNew w.heap.size N v)).drew.heap[bp]? = some (procO B bm M F sh id cur) ∧
      w.grownBy (w1.alloc (rsNew w.heap.size N v)).drew (some bm) ∧ w1.heap.size < (w1.alloc (rsNew w.heap.size N v)).drew.heap.size := by
  have hbm := hm.lt
  have hbp := lt_of_block hp
  have hb2 : Below w.heap.size w (w1.alloc (rsNew w.heap.size N v)) := hbel1.alloc (by omega) _
  refine ⟨heap_alloc_new _ _, (Below.heap_alloc w1 _ _ hs1).trans hb1, hm.kept (hb2.block bm hbm), (hb2.block bp hbp).trans hp, ⟨hb2.os, hb2.tape, hb2.output, hb2.size, fun k hk _ => hb2.block k hk⟩, ?_⟩
  show w1.heap.size < (w1.alloc _).heap.size
  simp

/-- .. and behind 'rs.coin = newCoin(..)'. -/
theorem coin_world {w w2 w3 : World} {N bm n sz bp B g gc gb : Nat} {F : Int} {id cur rd : Int} {f : Int → Option Nat} (hs1 : w.heap.size < g) (r6 : g < w2.heap.size) (r1 : w2.heap[g]? = some (rsNew w.heap.size N (.pointer none))) (r2 : Blank w2 w.heap.size N) (r3 : IMap w2 bm n f sz)
    (hbm : bm < w.heap.size) (hbp : bp < w.heap.size) (r4 : w2.heap[bp]? = some (procO B bm N F true id cur)) (r5 : w.grownBy w2 (some bm)) (hgc : w2.drew.heap.size ≤ gc) (hgb : gc < gb) (hbl : Blank w3 gc N) (hcoin : w3.heap[gb]? = some (coinO B gc N F true id rd)) (hbel0 : Below w2.drew.heap.size w2.drew w3) (W : World) (hW : W = w3.setCell ⟨g, 8, none⟩ (.pointer (some ⟨gb, 0, none⟩))) :
    W.heap[g]? = some (rsNew w.heap.size N (.pointer (some ⟨gb, 0, none⟩))) ∧ Blank W w.heap.size N ∧ IMap W bm n f sz ∧ W.heap[bp]? = some (procO B bm N F true id cur) ∧ w.grownBy W (some bm) ∧ Blank W gc N ∧ W.heap[gb]? = some (coinO B gc N F true id rd) ∧ g < W.heap.size ∧ gc < W.heap.size ∧ gb < W.heap.size ∧ w2.heap.size ≤ gc := by
  have hbel : Below w2.heap.size w2 w3 := ⟨hbel0.os, hbel0.tape, hbel0.output, hbel0.size, hbel0.block⟩
  have hgc' : w2.heap.size ≤ gc := hgc
  have z := hbel.size
  have hother : ∀ k, k ≠ g → W.heap[k]? = w3.heap[k]? := fun k hk => by rw [hW]; exact heap_setCell_other w3 ⟨g, 8, none⟩ k _ hk
  have hsz : W.heap.size = w3.heap.size := by rw [hW]; simp [World.setCell]
  have h3 : w3.heap[g]? = some (rsNew w.heap.size N (.pointer none)) := (hbel.block g r6).trans r1
  have hgb3 := lt_of_block hcoin
  refine ⟨?_, ?_, ?_, ?_, ?_, ?_, ?_, by omega, by omega, by omega, hgc'⟩
  · rw [hW]; exact heap_setCell_same w3 g 8 _ 43 _ h3
  · exact ((hother _ (by omega)).trans (hbel.block _ (by omega))).trans r2
  · exact r3.kept ((hother _ (by omega)).trans (hbel.block _ (by omega)))
  · exact ((hother _ (by omega)).trans (hbel.block _ (by omega))).trans r4
  · refine ⟨by rw [hW]; exact hbel.os.trans r5.os, by rw [hW]; exact hbel.tape.trans r5.tape, by rw [hW]; exact hbel.output.trans r5.output, by have := r5.size; omega, fun k hk hne => ?_⟩
    exact ((hother k (by omega)).trans (hbel.block k (by omega))).trans (r5.block k hk hne)
  · exact (hother _ (by omega)).trans hbl
  · exact (hother _ (by omega)).trans hcoin

set_option maxHeartbeats 1000000 in
theorem state_plain (bp B bm n sz N : Nat) (F : Int) (id cur rd : Int) (f : Int → Option Nat) (w : World) (hN : N < 1024) (hn : n ≤ 1048576) (hp : w.heap[bp]? = some (procO B bm N F false id cur)) (hm : IMap w bm n f sz) (hrd : (Lit.int .i64 rd).wf = true) (hf : f rd = none) :
    Calls Yba.prog 5 #[.pointer (some ⟨bp, 0, none⟩), .int .i64 rd] w fun e w' => ∃ gc gr, e = .returned (.pointer (some ⟨gr, 0, none⟩)) ∧ w'.heap[gr]? = some (rsNew gc N (.pointer none)) ∧ Blank w' gc N ∧ IMap w' bm (n + 1) (setF f rd gr) (sz + 1) ∧ w.grownBy w' (some bm) ∧ w.heap.size ≤ gc ∧ w.heap.size ≤ gr := by
  have hl := hm.look rd hrd
  rw [hf] at hl
  have hl' : (Instr.lookup 31 (.map (some bm)) (.int .i64 rd) true).run Yba.prog w = .ok (.tuple #[.pointer none, .bool false]) w := hl
  have HM := hid hm
  have HP := hid hp
  have HF := hid hf
  obtain ⟨c0, c1, c2, c3, c4, c5, c6, c7, c8, c9, c10, c11, c12, c13, c14, c15, c16, c17⟩ := proc_cells hp
  have hbp := lt_of_block hp
  have hbm := hm.lt
  clear hl hm hp hf
  by_cases h0 : N = 0
  · subst h0
    go_enter Yba.func5, Yba.ntmps5
    go_wp2_with (at_make; refine make_law rfl (.tmp 24) rfl _ 0 rfl rfl (by omega) ?_; intro w1 hb1 hbel1 hs1)
    obtain ⟨d0, d1, d2, d3, d4, d5, d6, d7, d8, d9, d10, d11, d12, d13, d14, d15, d16, d17⟩ := proc_cells ((hbel1.block bp hbp).trans HP.out)
    have HB1 := hid hb1
    have HBEL := hid hbel1
    clear hb1 hbel1 c0 c1 c2 c3 c4 c5 c6 c7 c8 c9 c10 c11 c12 c13 c14 c15 c16 c17 hl'
    go_region
    have R := new_rs HB1.out HBEL.out hs1 HM.out HP.out (.pointer none)
    obtain ⟨w2, hw2⟩ : ∃ w2, w2 = (w1.alloc (rsNew w.heap.size 0 (.pointer none))).drew := ⟨_, rfl⟩
    rw [← hw2] at R
    obtain ⟨r1, r2, r3, r4, r5, r6⟩ := R
    obtain ⟨e0, e1, e2, e3, e4, e5, e6, e7, e8, e9, e10, e11, e12, e13, e14, e15, e16, e17⟩ := proc_cells r4
    have R1 := hid r1
    have R2 := hid r2
    have R3 := hid r3
    have R4 := hid r4
    have R5 := hid r5
    clear r1 r2 r3 r4 r5 d0 d1 d2 d3 d4 d5 d6 d7 d8 d9 d10 d11 d12 d13 d14 d15 d16 d17 HB1 HBEL
    change Exit.then _ _ Exit.normal _ (w1.alloc (rsNew w.heap.size 0 (.pointer none))).drew
    rw [← hw2]
    clear hw2
    go_wp2_with (at_mapUpdate; refine store_law rfl (.tmp 69) (.tmp 70) (.tmp 71) rfl bm n sz f R3.out hn rd hrd w1.heap.size rfl rfl rfl HF.out ?_; intro w3 hm3 hg3)
    go_ret
    refine ⟨w.heap.size, w1.heap.size, rfl, ?_, ?_, hm3, R5.out.trans hg3, Nat.le_refl _, by omega⟩
    · rw [hg3.block _ r6 (fun e => by have := Option.some.inj e; omega)]; exact R1.out
    · unfold Blank; rw [hg3.block _ (by omega) (fun e => by have := Option.some.inj e; omega)]; exact R2.out
  · have hpos : 0 < N := by omega
    go_enter Yba.func5, Yba.ntmps5
    go_wp2_with (at_make; refine make_law rfl (.tmp 24) rfl _ N rfl rfl (by omega) ?_; intro w1 hb1 hbel1 hs1)
    obtain ⟨d0, d1, d2, d3, d4, d5, d6, d7, d8, d9, d10, d11, d12, d13, d14, d15, d16, d17⟩ := proc_cells ((hbel1.block bp hbp).trans HP.out)
    have HB1 := hid hb1
    have HBEL := hid hbel1
    clear hb1 hbel1 c0 c1 c2 c3 c4 c5 c6 c7 c8 c9 c10 c11 c12 c13 c14 c15 c16 c17 hl'
    go_region
    rw [show 2 * N - N = N from by omega]
    have R := new_rs HB1.out HBEL.out hs1 HM.out HP.out (.pointer none)
    obtain ⟨w2, hw2⟩ : ∃ w2, w2 = (w1.alloc (rsNew w.heap.size N (.pointer none))).drew := ⟨_, rfl⟩
    rw [← hw2] at R
    obtain ⟨r1, r2, r3, r4, r5, r6⟩ := R
    obtain ⟨e0, e1, e2, e3, e4, e5, e6, e7, e8, e9, e10, e11, e12, e13, e14, e15, e16, e17⟩ := proc_cells r4
    have R1 := hid r1
    have R2 := hid r2
    have R3 := hid r3
    have R4 := hid r4
    have R5 := hid r5
    clear r1 r2 r3 r4 r5 d0 d1 d2 d3 d4 d5 d6 d7 d8 d9 d10 d11 d12 d13 d14 d15 d16 d17 HB1 HBEL
    change Exit.then _ _ Exit.normal _ (w1.alloc (rsNew w.heap.size N (.pointer none))).drew
    rw [← hw2]
    clear hw2
    go_wp2_with (at_mapUpdate; refine store_law rfl (.tmp 69) (.tmp 70) (.tmp 71) rfl bm n sz f R3.out hn rd hrd w1.heap.size rfl rfl rfl HF.out ?_; intro w3 hm3 hg3)
    go_ret
    refine ⟨w.heap.size, w1.heap.size, rfl, ?_, ?_, hm3, R5.out.trans hg3, Nat.le_refl _, by omega⟩
    · rw [hg3.block _ r6 (fun e => by have := Option.some.inj e; omega)]; exact R1.out
    · unfold Blank; rw [hg3.block _ (by omega) (fun e => by have := Option.some.inj e; omega)]; exact R2.out

set_option maxHeartbeats 1000000 in
theorem state_coin (bp B bm n sz N : Nat) (F : Int) (id cur rd : Int) (f : Int → Option Nat) (w : World) (hN : N < 1024) (hn : n ≤ 1048576) (hp : w.heap[bp]? = some (procO B bm N F true id cur)) (hm : IMap w bm n f sz) (hrd : (Lit.int .i64 rd).wf = true) (hf : f rd = none) :
    Calls Yba.prog 5 #[.pointer (some ⟨bp, 0, none⟩), .int .i64 rd] w fun e w' => ∃ gc gr gcc gb, e = .returned (.pointer (some ⟨gr, 0, none⟩)) ∧ w'.heap[gr]? = some (rsNew gc N (.pointer (some ⟨gb, 0, none⟩))) ∧ Blank w' gc N ∧ IMap w' bm (n + 1) (setF f rd gr) (sz + 1) ∧ w.grownBy w' (some bm) ∧ w.heap.size ≤ gc ∧ w.heap.size ≤ gr ∧ Blank w' gcc N ∧ w'.heap[gb]? = some (coinO B gcc N F true id rd) ∧ w.heap.size ≤ gcc ∧ w.heap.size ≤ gb ∧ gc < gcc := by
  have hl := hm.look rd hrd
  rw [hf] at hl
  have hl' : (Instr.lookup 31 (.map (some bm)) (.int .i64 rd) true).run Yba.prog w = .ok (.tuple #[.pointer none, .bool false]) w := hl
  have HM := hid hm
  have HP := hid hp
  have HF := hid hf
  obtain ⟨c0, c1, c2, c3, c4, c5, c6, c7, c8, c9, c10, c11, c12, c13, c14, c15, c16, c17⟩ := proc_cells hp
  have hbp := lt_of_block hp
  have hbm := hm.lt
  clear hl hm hp hf
  by_cases h0 : N = 0
  · subst h0
    go_enter Yba.func5, Yba.ntmps5
    go_wp2_with (at_make; refine make_law rfl (.tmp 24) rfl _ 0 rfl rfl (by omega) ?_; intro w1 hb1 hbel1 hs1)
    obtain ⟨d0, d1, d2, d3, d4, d5, d6, d7, d8, d9, d10, d11, d12, d13, d14, d15, d16, d17⟩ := proc_cells ((hbel1.block bp hbp).trans HP.out)
    have HB1 := hid hb1
    have HBEL := hid hbel1
    clear hb1 hbel1 c0 c1 c2 c3 c4 c5 c6 c7 c8 c9 c10 c11 c12 c13 c14 c15 c16 c17 hl'
    go_region
    have R := new_rs HB1.out HBEL.out hs1 HM.out HP.out (.pointer none)
    obtain ⟨w2, hw2⟩ : ∃ w2, w2 = (w1.alloc (rsNew w.heap.size 0 (.pointer none))).drew := ⟨_, rfl⟩
    rw [← hw2] at R
    obtain ⟨r1, r2, r3, r4, r5, r6⟩ := R
    obtain ⟨e0, e1, e2, e3, e4, e5, e6, e7, e8, e9, e10, e11, e12, e13, e14, e15, e16, e17⟩ := proc_cells r4
    have R1 := hid r1
    have R2 := hid r2
    have R3 := hid r3
    have R4 := hid r4
    have R5 := hid r5
    clear r1 r2 r3 r4 r5 d0 d1 d2 d3 d4 d5 d6 d7 d8 d9 d10 d11 d12 d13 d14 d15 d16 d17 HB1 HBEL
    change Exit.then _ _ Exit.normal _ (w1.alloc (rsNew w.heap.size 0 (.pointer none))).drew
    rw [← hw2]
    clear hw2
    have f8 := frozen_of_row w2 w1.heap.size 8 _ _ R1.out
    have g8 : w2.cell? ⟨w1.heap.size, 8, none⟩ = some (.pointer none) := by rw [cell_of_row w2 w1.heap.size 8 _ _ _ R1.out]; rfl
    go_wp2
    go_region_with (go_at_call 8; refine (newCoin_any B 0 F true id rd _ (by omega)).mono ?_; rintro e w3 ⟨gc, gb, rfl, hgc, hgb, hbl, hcoin, hbel3⟩; have g8' := (hbel3.cell (p := ⟨w1.heap.size, 8, none⟩) (by simpa using r6)); have f8' := (hbel3.frozen (p := ⟨w1.heap.size, 8, none⟩) (by simpa using r6)); simp [g8, f8] at g8' f8')
    all_goals
      obtain ⟨W, hW⟩ : ∃ W, W = w3.setCell ⟨w1.heap.size, 8, none⟩ (.pointer (some ⟨gb, 0, none⟩)) := ⟨_, rfl⟩
      obtain ⟨s1, s2, s3, s4, s5, s6, s7, s8, s9, s10, s11⟩ := coin_world hs1 r6 R1.out R2.out R3.out hbm hbp R4.out R5.out hgc hgb hbl hcoin hbel3 W hW
      rw [← hW]
      obtain ⟨k0, k1, k2, k3, k4, k5, k6, k7, k8, k9, k10, k11, k12, k13, k14, k15, k16, k17⟩ := proc_cells s4
      have S1 := hid s1
      have S2 := hid s2
      have S3 := hid s3
      have S5 := hid s5
      have S6 := hid s6
      have S7 := hid s7
      clear hW s1 s2 s3 s4 s5 s6 s7 hbl hcoin hbel3 hgc g8' f8' e0 e1 e2 e3 e4 e5 e6 e7 e8 e9 e10 e11 e12 e13 e14 e15 e16 e17
      go_wp2_with (at_mapUpdate; refine store_law rfl (.tmp 69) (.tmp 70) (.tmp 71) rfl bm n sz f S3.out hn rd hrd w1.heap.size rfl rfl rfl HF.out ?_; intro w4 hm4 hg4)
      go_ret
      refine ⟨w.heap.size, w1.heap.size, gc, gb, rfl, ?_, ?_, hm4, S5.out.trans hg4, Nat.le_refl _, by omega, ?_, ?_, by omega, by omega, by omega⟩
      · rw [hg4.block _ s8 (fun e => by have := Option.some.inj e; omega)]; exact S1.out
      · unfold Blank; rw [hg4.block _ (by omega) (fun e => by have := Option.some.inj e; omega)]; exact S2.out
      · unfold Blank; rw [hg4.block _ s9 (fun e => by have := Option.some.inj e; omega)]; exact S6.out
      · rw [hg4.block _ s10 (fun e => by have := Option.some.inj e; omega)]; exact S7.out
  · have hpos : 0 < N := by omega
    go_enter Yba.func5, Yba.ntmps5
    go_wp2_with (at_make; refine make_law rfl (.tmp 24) rfl _ N rfl rfl (by omega) ?_; intro w1 hb1 hbel1 hs1)
    obtain ⟨d0, d1, d2, d3, d4, d5, d6, d7, d8, d9, d10, d11, d12, d13, d14, d15, d16, d17⟩ := proc_cells ((hbel1.block bp hbp).trans HP.out)
    have HB1 := hid hb1
    have HBEL := hid hbel1
    clear hb1 hbel1 c0 c1 c2 c3 c4 c5 c6 c7 c8 c9 c10 c11 c12 c13 c14 c15 c16 c17 hl'
    go_region
    rw [show 2 * N - N = N from by omega]
    have R := new_rs HB1.out HBEL.out hs1 HM.out HP.out (.pointer none)
    obtain ⟨w2, hw2⟩ : ∃ w2, w2 = (w1.alloc (rsNew w.heap.size N (.pointer none))).drew := ⟨_, rfl⟩
    rw [← hw2] at R
    obtain ⟨r1, r2, r3, r4, r5, r6⟩ := R
    obtain ⟨e0, e1, e2, e3, e4, e5, e6, e7, e8, e9, e10, e11, e12, e13, e14, e15, e16, e17⟩ := proc_cells r4
    have R1 := hid r1
    have R2 := hid r2
    have R3 := hid r3
    have R4 := hid r4
    have R5 := hid r5
    clear r1 r2 r3 r4 r5 d0 d1 d2 d3 d4 d5 d6 d7 d8 d9 d10 d11 d12 d13 d14 d15 d16 d17 HB1 HBEL
    change Exit.then _ _ Exit.normal _ (w1.alloc (rsNew w.heap.size N (.pointer none))).drew
    rw [← hw2]
    clear hw2
    have f8 := frozen_of_row w2 w1.heap.size 8 _ _ R1.out
    have g8 : w2.cell? ⟨w1.heap.size, 8, none⟩ = some (.pointer none) := by rw [cell_of_row w2 w1.heap.size 8 _ _ _ R1.out]; rfl
    go_wp2
    go_region_with (go_at_call 8; refine (newCoin_any B N F true id rd _ (by omega)).mono ?_; rintro e w3 ⟨gc, gb, rfl, hgc, hgb, hbl, hcoin, hbel3⟩; have g8' := (hbel3.cell (p := ⟨w1.heap.size, 8, none⟩) (by simpa using r6)); have f8' := (hbel3.frozen (p := ⟨w1.heap.size, 8, none⟩) (by simpa using r6)); simp [g8, f8] at g8' f8')
    all_goals
      obtain ⟨W, hW⟩ : ∃ W, W = w3.setCell ⟨w1.heap.size, 8, none⟩ (.pointer (some ⟨gb, 0, none⟩)) := ⟨_, rfl⟩
      obtain ⟨s1, s2, s3, s4, s5, s6, s7, s8, s9, s10, s11⟩ := coin_world hs1 r6 R1.out R2.out R3.out hbm hbp R4.out R5.out hgc hgb hbl hcoin hbel3 W hW
      rw [← hW]
      obtain ⟨k0, k1, k2, k3, k4, k5, k6, k7, k8, k9, k10, k11, k12, k13, k14, k15, k16, k17⟩ := proc_cells s4
      have S1 := hid s1
      have S2 := hid s2
      have S3 := hid s3
      have S5 := hid s5
      have S6 := hid s6
      have S7 := hid s7
      clear hW s1 s2 s3 s4 s5 s6 s7 hbl hcoin hbel3 hgc g8' f8' e0 e1 e2 e3 e4 e5 e6 e7 e8 e9 e10 e11 e12 e13 e14 e15 e16 e17
      go_wp2_with (at_mapUpdate; refine store_law rfl (.tmp 69) (.tmp 70) (.tmp 71) rfl bm n sz f S3.out hn rd hrd w1.heap.size rfl rfl rfl HF.out ?_; intro w4 hm4 hg4)
      go_ret
      refine ⟨w.heap.size, w1.heap.size, gc, gb, rfl, ?_, ?_, hm4, S5.out.trans hg4, Nat.le_refl _, by omega, ?_, ?_, by omega, by omega, by omega⟩
      · rw [hg4.block _ s8 (fun e => by have := Option.some.inj e; omega)]; exact S1.out
      · unfold Blank; rw [hg4.block _ (by omega) (fun e => by have := Option.some.inj e; omega)]; exact S2.out
      · unfold Blank; rw [hg4.block _ s9 (fun e => by have := Option.some.inj e; omega)]; exact S6.out
      · rw [hg4.block _ s10 (fun e => by have := Option.some.inj e; omega)]; exact S7.out

end Go.Proofs.Ybulkehkc
