/- THE CONTRACTS of oldRing.top, holds and set. -/
import Derived.Test.YbulkehjaParts
import Derived.RegionTactic
import Derived.ChangeAlike
import Derived.Deep.QuietTactic
import Derived.BigQuiet
import Derived.Deep.LoopGhost
namespace Go.Proofs.Ybulkehja
open Go.RowKit

def bitB (x : Int) (r : Nat) : Bool := bits BinOp.and IntKind.u8 x (2 ^ r % 256) != 0
def orB (x : Int) (r : Nat) : Int := bits BinOp.or IntKind.u8 x (2 ^ r % 256)
def pad (L : List Int) (m : Nat) : List Int := L ++ List.replicate (m - L.length) 0
def newHeld (L : List Int) (j : Nat) : List Int := (pad L (j / 8 + 1)).set (j / 8) (orB ((pad L (j / 8 + 1)).getD (j / 8) 0) (j % 8))
def isHeld (L : List Int) (j : Nat) : Bool := decide (j < 8 * L.length) && bitB (L.getD (j / 8) 0) (j % 8)

theorem length_pad (L : List Int) (m : Nat) : (pad L m).length = max L.length m := by simp [pad]; omega
theorem pad_snoc (L : List Int) (m : Nat) (h : L.length ≤ m) : pad L m ++ [0] = pad L (m + 1) := by
  unfold pad
  rw [show m + 1 - L.length = (m - L.length) + 1 from by omega, List.replicate_succ', List.append_assoc]
theorem pad_self (L : List Int) (m : Nat) (h : m ≤ L.length) : pad L m = L := by simp [pad, Nat.sub_eq_zero_of_le h]

theorem row_cell {W : World} {Bh g n c p : Nat} {L : List Int} (hown : W.ownsRow Bh 5 1 (.slice (some ⟨g, 0, none⟩) n c) n (L.map (Value.int .u8))) (hp : p < n) : W.cell? ⟨g, p, none⟩ = some (.int .u8 (L.getD p 0)) := by
  have hl : L.length = n := by simpa using hown.1
  rw [hown.cellAt p (by omega)]
  simp [List.getD, List.getElem?_map, List.getElem?_eq_getElem (show p < L.length by omega)]

set_option maxHeartbeats 400000 in
theorem top_any (bo b n hc : Nat) (ha : Option Addr) (w : World) (h4 : w.cell? ⟨bo, 4, none⟩ = some (.int .u64 b)) (h5 : w.cell? ⟨bo, 5, none⟩ = some (.slice ha n hc))
    (hb : b ≤ 18446744073692774399) (hn : n ≤ 1048576) :
    Calls Yba.prog 12 #[.pointer (some ⟨bo, 0, none⟩)] w fun e w' => e = .returned (.int .u64 ((b : Int) + 8 * (n : Int))) ∧ Still w w' := by
  go_enter Yba.func12, Yba.ntmps12
  go_wp2
  go_quiet (fail)
  go_wp2
  go_ret
  exact ⟨rfl, Still.drewN _ _⟩

set_option maxHeartbeats 400000 in
theorem holds_le (bo b s : Nat) (w : World) (h4 : w.cell? ⟨bo, 4, none⟩ = some (.int .u64 b)) (h : s ≤ b) :
    Calls Yba.prog 11 #[.pointer (some ⟨bo, 0, none⟩), .int .u64 s] w fun e w' => e = .returned (.bool true) ∧ Still w w' := by
  go_enter Yba.func11, Yba.ntmps11
  go_wp2
  go_ret
  exact ⟨rfl, Still.refl _⟩

set_option maxHeartbeats 400000 in
theorem holds_far (bo b n hc s : Nat) (ha : Option Addr) (w : World) (h4 : w.cell? ⟨bo, 4, none⟩ = some (.int .u64 b)) (h5 : w.cell? ⟨bo, 5, none⟩ = some (.slice ha n hc))
    (hb : b ≤ 18446744073692774399) (hn : n ≤ 1048576) (hs : b < s) (hj : s ≤ b + 524288) (h : b + 8 * n < s) :
    Calls Yba.prog 11 #[.pointer (some ⟨bo, 0, none⟩), .int .u64 s] w fun e w' => e = .returned (.bool false) ∧ Still w w' := by
  go_enter Yba.func11, Yba.ntmps11
  go_wp2_with (go_at_call 12; refine (top_any bo b n hc ha _ (by assumption) (by assumption) hb hn).mono ?_; rintro e w' ⟨rfl, hst⟩)
  go_ret
  exact ⟨rfl, hst⟩

set_option maxHeartbeats 400000 in
theorem holds_in (bo b n hc s g : Nat) (x : Int) (w : World) (h4 : w.cell? ⟨bo, 4, none⟩ = some (.int .u64 b)) (h5 : w.cell? ⟨bo, 5, none⟩ = some (.slice (some ⟨g, 0, none⟩) n hc))
    (hx : w.cell? ⟨g, (s - b - 1) / 8, none⟩ = some (.int .u8 x))
    (hb : b ≤ 18446744073692774399) (hn : n ≤ 1048576) (hs : b < s) (hj : s ≤ b + 524288) (h : s ≤ b + 8 * n) :
    Calls Yba.prog 11 #[.pointer (some ⟨bo, 0, none⟩), .int .u64 s] w fun e w' => e = .returned (.bool (bitB x ((s - b - 1) % 8))) ∧ Still w w' := by
  go_enter Yba.func11, Yba.ntmps11
  go_wp2_with (go_at_call 12; refine (top_any bo b n hc (some ⟨g, 0, none⟩) _ (by assumption) (by assumption) hb hn).mono ?_; rintro e w' ⟨rfl, hst⟩; have k5 := (hst.cell _).trans h5; have kx := (hst.cell _).trans hx)
  go_ret
  exact ⟨rfl, hst⟩

/-- holds, as the law's model says it. -/
theorem holds_any (bo b s n Bh : Nat) (q r i : Int) (mv rv hv : Value) (L : List Int) (w : World)
    (hbox : w.heap[bo]? = some (box q r i mv b hv rv)) (hown : w.ownsRow Bh 5 1 hv n (L.map (Value.int .u8)))
    (hb : b ≤ 18446744073692774399) (hn : n ≤ 1048576) (hs : b < s) (hj : s ≤ b + 524288) :
    Calls Yba.prog 11 #[.pointer (some ⟨bo, 0, none⟩), .int .u64 s] w fun e w' => e = .returned (.bool (isHeld L (s - b - 1))) ∧ Still w w' := by
  have hl : L.length = n := by simpa using hown.1
  obtain ⟨ha, hc, rfl⟩ := own_shape hown
  have h4 : w.cell? ⟨bo, 4, none⟩ = some (.int .u64 b) := by rw [cell_of_row w bo 4 _ _ _ hbox]; rfl
  have h5 : w.cell? ⟨bo, 5, none⟩ = some (.slice ha n hc) := by rw [cell_of_row w bo 5 _ _ _ hbox]; rfl
  by_cases h : s ≤ b + 8 * n
  · obtain ⟨g, rfl, _⟩ := own_pos hown (by omega)
    refine (holds_in bo b n hc s g _ w h4 h5 (row_cell hown (by omega)) hb hn hs hj h).mono ?_
    rintro e w' ⟨rfl, hst⟩
    refine ⟨?_, hst⟩
    simp only [isHeld, decide_eq_true (show s - b - 1 < 8 * L.length by omega), Bool.true_and]
  · refine (holds_far bo b n hc s ha w h4 h5 hb hn hs hj (by omega)).mono ?_
    rintro e w' ⟨rfl, hst⟩
    refine ⟨?_, hst⟩
    simp only [isHeld, decide_eq_false (show ¬ s - b - 1 < 8 * L.length by omega), Bool.false_and]

set_option maxHeartbeats 400000 in
theorem set_le (bo b s : Nat) (w : World) (h4 : w.cell? ⟨bo, 4, none⟩ = some (.int .u64 b)) (h : s ≤ b) :
    Calls Yba.prog 7 #[.pointer (some ⟨bo, 0, none⟩), .int .u64 s] w fun e w' => e = .returned (.bool false) ∧ Still w w' := by
  go_enter Yba.func7, Yba.ntmps7
  go_wp2_with (go_at_call 11; refine (holds_le bo b s _ h4 h).mono ?_; rintro e w' ⟨rfl, hst⟩)
  go_ret
  exact ⟨rfl, hst⟩

set_option maxHeartbeats 400000 in
theorem set_held (bo b s n Bh : Nat) (q r i : Int) (mv rv hv : Value) (L : List Int) (w : World)
    (hbox : w.heap[bo]? = some (box q r i mv b hv rv)) (hown : w.ownsRow Bh 5 1 hv n (L.map (Value.int .u8)))
    (hb : b ≤ 18446744073692774399) (hn : n ≤ 1048576) (hs : b < s) (hj : s ≤ b + 524288) (hh : isHeld L (s - b - 1) = true) :
    Calls Yba.prog 7 #[.pointer (some ⟨bo, 0, none⟩), .int .u64 s] w fun e w' => e = .returned (.bool false) ∧ Still w w' := by
  have HB := hid hbox
  have HO := hid hown
  clear hbox hown
  go_enter Yba.func7, Yba.ntmps7
  go_wp2_with (go_at_call 11; refine (holds_any bo b s n Bh q r i mv rv hv L _ HB.out HO.out hb hn hs hj).mono ?_; rintro e w' ⟨rfl, hst⟩)
  go_ret
  exact ⟨rfl, hst⟩

set_option maxHeartbeats 400000 in
theorem set_new (bo b s n Bh : Nat) (q r i : Int) (mv rv hv : Value) (L : List Int) (w : World)
    (hbox : w.heap[bo]? = some (box q r i mv b hv rv)) (hBh : Bh ≤ bo) (hown : w.ownsRow Bh 5 1 hv n (L.map (Value.int .u8)))
    (hb : b ≤ 18446744073692774399) (hn : n ≤ 1048576) (hs : b < s) (hj : s ≤ b + 524288) (hh : isHeld L (s - b - 1) = false) :
    Calls Yba.prog 7 #[.pointer (some ⟨bo, 0, none⟩), .int .u64 s] w fun e w' => e = .returned (.bool true) ∧
      ∃ hv' n', w'.heap[bo]? = some (box q r i mv b hv' rv) ∧ w'.ownsRow Bh 5 1 hv' n' ((newHeld L (s - b - 1)).map (Value.int .u8)) ∧ Below Bh w w' ∧ Keep bo w w' := by
  obtain ⟨i0, hi, hz0, hz1, hz2⟩ := info_parts Yba.info5
  have h4 : w.cell? ⟨bo, 4, none⟩ = some (.int .u64 b) := by rw [cell_of_row w bo 4 _ _ _ hbox]; rfl
  have HL : Hid (L.length = n) := by unfold Hid; simpa using hown.1
  have HB := hid hbox
  have HO := hid hown
  clear hbox hown
  go_enter Yba.func7, Yba.ntmps7
  go_wp2_with (go_at_call 11; refine (holds_any bo b s n Bh q r i mv rv hv L _ HB.out HO.out hb hn hs hj).mono ?_; rintro e w' ⟨rfl, hst⟩; have k4 := (hst.cell _).trans h4)
  go_loopg [] (1048577 - n) (fun k wr => ∃ m ha hc, n ≤ m ∧ m ≤ 1048576 ∧ k = 1048577 - m ∧ Hid (wr.heap[bo]? = some (box q r i mv b (.slice ha m hc) rv)) ∧ Hid (wr.ownsRow Bh 5 1 (.slice ha m hc) m ((pad L m).map (Value.int .u8))) ∧ Hid (m = n ∨ b + 8 * m < s + 8) ∧ Below Bh w wr ∧ Hid (Keep bo w wr))
  case atStart =>
    obtain ⟨ha, hc, rfl⟩ := own_shape HO.out
    exact ⟨n, ha, hc, Nat.le_refl _, hn, rfl, hst.block HB.out, by rw [pad_self L n (Nat.le_of_eq HL.out.symm)]; exact hst.own HO.out, .inl rfl, hst.below _, hst.keep _⟩
  case round =>
    obtain ⟨m, ha, hc, hnm, hm, rfl, KB, KO, KM, hbel, KK⟩ := hrel
    have k4 : wr.cell? ⟨bo, 4, none⟩ = some (.int .u64 b) := by rw [cell_of_row wr bo 4 _ _ _ KB.out]; rfl
    have k5 : wr.cell? ⟨bo, 5, none⟩ = some (.slice ha m hc) := by rw [cell_of_row wr bo 5 _ _ _ KB.out]; rfl
    by_cases hlt : b + 8 * m < s
    · clear hst h4
      go_wp2_with (first
        | (go_at_call 12; refine (top_any bo b m hc ha _ k4 k5 hb hm).mono ?_; rintro e w1 ⟨rfl, hst⟩; have K1 := hid (hst.block KB.out); have O1 := hid (hst.own KO.out); have j5 := (hst.cell _).trans k5)
        | (at_builtin; refine wpList_append_own _ rfl (.tmp 24) (.tmp 25) 24 rfl Bh 5 i0 (.int .u8 0) 1 1 Yba.underlying24 hi hz0 hz1 hz2 rfl (by decide) _ m ((pad L m).map (Value.int .u8)) rfl (O1.out.alloc _) ⟨w1.heap.size, 0, none⟩ 1 1 [.int .u8 0] rfl rfl ?c1 ?c2 ?c3 ?c4 ?c5 ?_))
      case c1 => exact cell_one_new _ _ _
      case c2 => intro u hu; simp at hu; subst hu; rfl
      case c3 => unfold maxLen; omega
      case c4 => omega
      case c5 => have := lt_of_block K1.out; simp; omega
      · intro v' w2 hown2 hgrow _
        have R := append_step K1.out hBh O1.out hown2 hgrow
        obtain ⟨ha', hc', rfl⟩ := own_shape hown2
        have f5 : w2.frozen? ⟨bo, 5, none⟩ = false := frozen_of_row w2 bo 5 _ _ R.1
        have g5 : w2.cell? ⟨bo, 5, none⟩ = some (.slice ha m hc) := by rw [cell_of_row w2 bo 5 _ _ _ R.1]; rfl
        have HR := hid R
        clear R hown2 hgrow
        go_wp2
        go_roundg (1048577 - (m + 1))
        case measure => omega
        case rel =>
          have e : List.map (Value.int .u8) (pad L m) ++ [Value.int .u8 0] = (pad L (m + 1)).map (Value.int .u8) := by
            rw [← pad_snoc L m (by have := HL.out; omega)]; simp
          have R := HR.out
          rw [e] at R
          exact ⟨m + 1, ha', hc', by omega, by omega, rfl, R.2.1, R.2.2.1, .inr (by omega), hbel.trans ((hst.below _).trans R.2.2.2.1), KK.out.trans ((hst.keep _).trans R.2.2.2.2)⟩
    · have hpos : 0 < m := by omega
      obtain ⟨g, rfl, hg⟩ := own_pos KO.out hpos
      have hx : wr.cell? ⟨g, (s - b - 1) / 8, none⟩ = some (.int .u8 ((pad L m).getD ((s - b - 1) / 8) 0)) := row_cell KO.out (by omega)
      obtain ⟨x, hxe⟩ : ∃ x, x = (pad L m).getD ((s - b - 1) / 8) 0 := ⟨_, rfl⟩
      rw [← hxe] at hx
      have HX := hid hxe
      clear hxe hst h4
      go_wp2_with (go_at_call 12; refine (top_any bo b m hc _ _ k4 k5 hb hm).mono ?_; rintro e w1 ⟨rfl, hst⟩; have K1 := hid (hst.block KB.out); have O1 := hid (hst.own KO.out); have j5 := (hst.cell _).trans k5; have jx := (hst.cell _).trans hx; have fx := O1.out.frozenAt ((s - b - 1) / 8))
      go_ret
      have R := store_step (p := (s - b - 1) / 8) (u := .int .u8 (orB x ((s - b - 1) % 8))) K1.out O1.out
      have hpe : pad L m = pad L ((s - b - 1) / 8 + 1) := by
        have hl := HL.out
        rcases KM.out with e | e
        · rw [pad_self L m (by omega), pad_self L _ (by omega)]
        · rw [show m = (s - b - 1) / 8 + 1 from by omega]
      have e : (List.map (Value.int .u8) (pad L m)).set ((s - b - 1) / 8) (.int .u8 (orB x ((s - b - 1) % 8))) = (newHeld L (s - b - 1)).map (Value.int .u8) := by
        rw [HX.out, hpe, ← List.map_set]; rfl
      rw [e] at R
      exact ⟨rfl, _, _, R.1, R.2.1, hbel.trans ((hst.below _).trans R.2.2.1), KK.out.trans ((hst.keep _).trans R.2.2.2)⟩
end Go.Proofs.Ybulkehja
