/- THE WALK of LawS6682AWhole. -/
import Derived.Test.YbulkehjaWant
namespace Go.Proofs.Ybulkehja
open Go.RowKit

set_option maxRecDepth 100000 in
set_option maxHeartbeats 2000000 in
theorem walk_le (q r i : Int) (am ah ar : Option Addr) (lm cm lh ch lr cr b s : Nat) (zm zh zr : List Int) (w : World)
    (hm : Src .u64 w am lm zm) (hh : Src .u8 w ah lh zh) (hr : Src .u64 w ar lr zr) (hlm : lm ≤ 1048576) (hlh : lh ≤ 1048576) (hlr : lr ≤ 1048576) (hs : s ≤ b) :
    Calls Yba.prog 3 #[.int .u64 q, .int .u64 r, .int .u64 i, .slice am lm cm, .int .u64 b, .slice ah lh ch, .slice ar lr cr, .int .u64 s] w fun e w' => e = .returned (.bool true) ∧ Below w.heap.size w w' := by
  have HM := hid hm
  have HH := hid hh
  have HR := hid hr
  clear hm hh hr
  have HS := hid (spec_le (zh := zh) hs)
  have HLZ : Hid (zh.length = lh) := HH.out.size
  go_enter Yba.func3, Yba.ntmps3
  go_wp2_with (first
    | (at_make; refine make_law rfl (.tmp 53) rfl .i64 _ lh rfl rfl hlh w.heap.size w (Below.refl _ _) (Nat.le_refl _) ?_; intro w1 hg1 hb1 _ hs1)
    | (refine copy_law rfl (.tmp 55) (.tmp 56) rfl w.heap.size lh lh ch _ rfl rfl zh hg1 (HH.out.under hb1) (Nat.le_refl _) w.heap.size w hb1 (Nat.le_refl _) 0 (Nat.zero_le _) ?_; intro w2 hg2 hbW hz2))
  rw [pad_self zh lh (Nat.le_of_eq HLZ.out.symm)] at hg2
  have HGW := lt_of_block hg2
  have HG := hid hg2
  have HLW := HLZ
  have HNW := hid hlh
  clear hg1 hg2 hb1 hs1 hz2

  -- the tail: three clones, the box, set, the comparisons
  refine (clone22 am lm cm zm _ (HM.out.under hbW) hlm).mono ?_
  rintro e w3 ⟨mv, rfl, hm3, hb3⟩
  obtain ⟨ma, mc, rfl⟩ := own_shape hm3
  have hb3' := bstep hbW hb3
  have M3 := hid hm3
  clear hm3
  go_wp2_with fail
  refine (clone5 ah lh ch zh w3 (HH.out.under hb3') hlh).mono ?_
  rintro e w4 ⟨hv, rfl, hh4, hb4⟩
  obtain ⟨hva, hvc, rfl⟩ := own_shape hh4
  have hb4' := bstep hb3' hb4
  have H4 := hid hh4
  clear hh4
  go_wp2_with fail
  refine (clone22 ar lr cr zr w4 (HR.out.under hb4') hlr).mono ?_
  rintro e w5 ⟨rv, rfl, hr5, hb5⟩
  obtain ⟨ra, rc, rfl⟩ := own_shape hr5
  have hb5' := bstep hb4' hb5
  have R5 := hid hr5
  clear hr5
  go_wp2_with fail
  have z34 := hb4.size
  have z45 := hb5.size
  have hbox := hid (heap_alloc_new w5 (box q r i (.slice ma lm mc) b (.slice hva lh hvc) (.slice ra lr rc)))
  have H5 := hid (World.ownsRow.alloc (own_below hb5 H4.out (own_lt H4.out)) (box q r i (.slice ma lm mc) b (.slice hva lh hvc) (.slice ra lr rc)))
  refine (HS.out w5.heap.size lh w3.heap.size q r i (.slice ma lm mc) (.slice ra lr rc) (.slice hva lh hvc) _ hbox.out (by omega) H5.out hlh).mono ?_
  rintro e w6 ⟨rfl, hv', n', hbox6, hown6, hb6, hk6⟩
  obtain ⟨ua, uc, rfl⟩ := own_shape hown6
  have e0 : w6.cell? ⟨w5.heap.size, 0, none⟩ = some (.int .u64 q) := by rw [cell_of_row w6 _ 0 _ _ _ hbox6]; rfl
  have e1 : w6.cell? ⟨w5.heap.size, 1, none⟩ = some (.int .u64 r) := by rw [cell_of_row w6 _ 1 _ _ _ hbox6]; rfl
  have e2 : w6.cell? ⟨w5.heap.size, 2, none⟩ = some (.int .u64 i) := by rw [cell_of_row w6 _ 2 _ _ _ hbox6]; rfl
  have e3 : w6.cell? ⟨w5.heap.size, 3, none⟩ = some (.slice ma lm mc) := by rw [cell_of_row w6 _ 3 _ _ _ hbox6]; rfl
  have e4 : w6.cell? ⟨w5.heap.size, 4, none⟩ = some (.int .u64 b) := by rw [cell_of_row w6 _ 4 _ _ _ hbox6]; rfl
  have e5 : w6.cell? ⟨w5.heap.size, 5, none⟩ = some (.slice ua n' uc) := by rw [cell_of_row w6 _ 5 _ _ _ hbox6]; rfl
  have e6 : w6.cell? ⟨w5.heap.size, 6, none⟩ = some (.slice ra lr rc) := by rw [cell_of_row w6 _ 6 _ _ _ hbox6]; rfl
  have U6 := hid hown6
  clear hown6 hbox6
  have A5 : Below w5.heap.size w5 (w5.alloc (box q r i (.slice ma lm mc) b (.slice hva lh hvc) (.slice ra lr rc))) := (Below.refl _ _).alloc (Nat.le_refl _) _
  have B36 : Below w3.heap.size w3 w6 := ((hb4.trans (hb5.mono z34)).trans (A5.mono (by omega))).trans hb6
  have hb6' := bstep hb3' B36
  have G6 := hid (own_of (B := 0) ((HG.out.below hb3 HGW).below B36 (Nat.lt_of_lt_of_le HGW hb3.size)) HLW.out (Nat.zero_le _) HNW.out)
  have M6 := hid (own_below B36 M3.out (own_lt M3.out))
  have R6 := hid (own_keep hk6 (World.ownsRow.alloc R5.out (box q r i (.slice ma lm mc) b (.slice hva lh hvc) (.slice ra lr rc))) (by decide) (fun e => Nat.lt_irrefl _ (own_lt R5.out _ e)))
  go_wp2_with fail
  refine (bytes_equal _ _ n' _ _ _ (zh) w6 U6.out G6.out).mono ?_
  rintro e w' ⟨rfl, rfl⟩
  go_wp2_with fail
  refine (slices_equal _ lm cm _ am zm _ hlm M6.out (HM.out.under hb6')).mono ?_
  rintro e w7 ⟨rfl, hst7⟩
  have k6 := (hst7.cell _).trans e6
  go_wp2_with fail
  refine (slices_equal _ lr cr _ ar zr _ hlr (hst7.own R6.out) ((HR.out.under hb6').keep (hst7.below _) rfl)).mono ?_
  rintro e w8 ⟨rfl, hst8⟩
  go_wp2
  go_ret
  exact ⟨rfl, hb6'.trans ((hst7.below _).trans (hst8.below _))⟩

set_option maxRecDepth 100000 in
set_option maxHeartbeats 2000000 in
theorem walk_held (q r i : Int) (am ar : Option Addr) (lm cm lh ch lr cr b s bh oh : Nat) (x : Int) (zm zh zr : List Int) (w : World)
    (hm : Src .u64 w am lm zm) (hh : Src .u8 w (some ⟨bh, oh, none⟩) lh zh) (hr : Src .u64 w ar lr zr) (hlm : lm ≤ 1048576) (hlh : lh ≤ 1048576) (hlr : lr ≤ 1048576) (hs : b < s) (hj : s ≤ b + 524288) (hb : b ≤ 18446744073692774399) (hin : s ≤ b + 8 * lh) (hx : w.cell? ⟨bh, oh + (s - b - 1) / 8, none⟩ = some (.int .u8 x)) (_hx0 : 0 ≤ x ∧ x ≤ 255) (hbit : (bits BinOp.and IntKind.u8 (x / 2 ^ ((s - b - 1) % 8)) 1 == 1) = true) (hheld : isHeld zh (s - b - 1) = true) :
    Calls Yba.prog 3 #[.int .u64 q, .int .u64 r, .int .u64 i, .slice am lm cm, .int .u64 b, .slice (some ⟨bh, oh, none⟩) lh ch, .slice ar lr cr, .int .u64 s] w fun e w' => e = .returned (.bool true) ∧ Below w.heap.size w w' := by
  have HM := hid hm
  have HH := hid hh
  have HR := hid hr
  clear hm hh hr
  have HS := hid (spec_held hb hs hj hheld)
  have HLZ : Hid (zh.length = lh) := HH.out.size
  have hxl := block_lt_of_cell hx
  clear hheld
  go_enter Yba.func3, Yba.ntmps3
  go_wp2_with (first
    | (at_make; refine make_law rfl (.tmp 53) rfl .i64 _ lh rfl rfl hlh w.heap.size w (Below.refl _ _) (Nat.le_refl _) ?_; intro w1 hg1 hb1 _ hs1)
    | (refine copy_law rfl (.tmp 55) (.tmp 56) rfl w.heap.size lh lh ch _ rfl rfl zh hg1 (HH.out.under hb1) (Nat.le_refl _) w.heap.size w hb1 (Nat.le_refl _) 0 (Nat.zero_le _) ?_; intro w2 hg2 hb2 hz2; have hx2 := (hb2.cell (p := ⟨bh, oh + (s - b - 1) / 8, none⟩) hxl).trans hx))
  rw [pad_self zh lh (Nat.le_of_eq HLZ.out.symm)] at hg2
  have HGW := lt_of_block hg2
  have HG := hid hg2
  have HLW := HLZ
  have HNW := hid hlh
  have hbW := hb2
  clear hg1 hg2 hb1 hs1 hz2 hb2 hx2

  -- the tail: three clones, the box, set, the comparisons
  refine (clone22 am lm cm zm _ (HM.out.under hbW) hlm).mono ?_
  rintro e w3 ⟨mv, rfl, hm3, hb3⟩
  obtain ⟨ma, mc, rfl⟩ := own_shape hm3
  have hb3' := bstep hbW hb3
  have M3 := hid hm3
  clear hm3
  go_wp2_with fail
  refine (clone5 (some ⟨bh, oh, none⟩) lh ch zh w3 (HH.out.under hb3') hlh).mono ?_
  rintro e w4 ⟨hv, rfl, hh4, hb4⟩
  obtain ⟨hva, hvc, rfl⟩ := own_shape hh4
  have hb4' := bstep hb3' hb4
  have H4 := hid hh4
  clear hh4
  go_wp2_with fail
  refine (clone22 ar lr cr zr w4 (HR.out.under hb4') hlr).mono ?_
  rintro e w5 ⟨rv, rfl, hr5, hb5⟩
  obtain ⟨ra, rc, rfl⟩ := own_shape hr5
  have hb5' := bstep hb4' hb5
  have R5 := hid hr5
  clear hr5
  go_wp2_with fail
  have z34 := hb4.size
  have z45 := hb5.size
  have hbox := hid (heap_alloc_new w5 (box q r i (.slice ma lm mc) b (.slice hva lh hvc) (.slice ra lr rc)))
  have H5 := hid (World.ownsRow.alloc (own_below hb5 H4.out (own_lt H4.out)) (box q r i (.slice ma lm mc) b (.slice hva lh hvc) (.slice ra lr rc)))
  refine (HS.out w5.heap.size lh w3.heap.size q r i (.slice ma lm mc) (.slice ra lr rc) (.slice hva lh hvc) _ hbox.out (by omega) H5.out hlh).mono ?_
  rintro e w6 ⟨rfl, hv', n', hbox6, hown6, hb6, hk6⟩
  obtain ⟨ua, uc, rfl⟩ := own_shape hown6
  have e0 : w6.cell? ⟨w5.heap.size, 0, none⟩ = some (.int .u64 q) := by rw [cell_of_row w6 _ 0 _ _ _ hbox6]; rfl
  have e1 : w6.cell? ⟨w5.heap.size, 1, none⟩ = some (.int .u64 r) := by rw [cell_of_row w6 _ 1 _ _ _ hbox6]; rfl
  have e2 : w6.cell? ⟨w5.heap.size, 2, none⟩ = some (.int .u64 i) := by rw [cell_of_row w6 _ 2 _ _ _ hbox6]; rfl
  have e3 : w6.cell? ⟨w5.heap.size, 3, none⟩ = some (.slice ma lm mc) := by rw [cell_of_row w6 _ 3 _ _ _ hbox6]; rfl
  have e4 : w6.cell? ⟨w5.heap.size, 4, none⟩ = some (.int .u64 b) := by rw [cell_of_row w6 _ 4 _ _ _ hbox6]; rfl
  have e5 : w6.cell? ⟨w5.heap.size, 5, none⟩ = some (.slice ua n' uc) := by rw [cell_of_row w6 _ 5 _ _ _ hbox6]; rfl
  have e6 : w6.cell? ⟨w5.heap.size, 6, none⟩ = some (.slice ra lr rc) := by rw [cell_of_row w6 _ 6 _ _ _ hbox6]; rfl
  have U6 := hid hown6
  clear hown6 hbox6
  have A5 : Below w5.heap.size w5 (w5.alloc (box q r i (.slice ma lm mc) b (.slice hva lh hvc) (.slice ra lr rc))) := (Below.refl _ _).alloc (Nat.le_refl _) _
  have B36 : Below w3.heap.size w3 w6 := ((hb4.trans (hb5.mono z34)).trans (A5.mono (by omega))).trans hb6
  have hb6' := bstep hb3' B36
  have G6 := hid (own_of (B := 0) ((HG.out.below hb3 HGW).below B36 (Nat.lt_of_lt_of_le HGW hb3.size)) HLW.out (Nat.zero_le _) HNW.out)
  have M6 := hid (own_below B36 M3.out (own_lt M3.out))
  have R6 := hid (own_keep hk6 (World.ownsRow.alloc R5.out (box q r i (.slice ma lm mc) b (.slice hva lh hvc) (.slice ra lr rc))) (by decide) (fun e => Nat.lt_irrefl _ (own_lt R5.out _ e)))
  go_wp2_with fail
  refine (bytes_equal _ _ n' _ _ _ (zh) w6 U6.out G6.out).mono ?_
  rintro e w' ⟨rfl, rfl⟩
  go_wp2_with fail
  refine (slices_equal _ lm cm _ am zm _ hlm M6.out (HM.out.under hb6')).mono ?_
  rintro e w7 ⟨rfl, hst7⟩
  have k6 := (hst7.cell _).trans e6
  go_wp2_with fail
  refine (slices_equal _ lr cr _ ar zr _ hlr (hst7.own R6.out) ((HR.out.under hb6').keep (hst7.below _) rfl)).mono ?_
  rintro e w8 ⟨rfl, hst8⟩
  go_wp2
  go_ret
  exact ⟨rfl, hb6'.trans ((hst7.below _).trans (hst8.below _))⟩

set_option maxRecDepth 100000 in
set_option maxHeartbeats 2000000 in
theorem walk_new (q r i : Int) (am ar : Option Addr) (lm cm lh ch lr cr b s bh oh : Nat) (x : Int) (zm zh zr : List Int) (w : World)
    (hm : Src .u64 w am lm zm) (hh : Src .u8 w (some ⟨bh, oh, none⟩) lh zh) (hr : Src .u64 w ar lr zr) (hlm : lm ≤ 1048576) (hlh : lh ≤ 1048576) (hlr : lr ≤ 1048576) (hs : b < s) (hj : s ≤ b + 524288) (hb : b ≤ 18446744073692774399) (hin : s ≤ b + 8 * lh) (hx : w.cell? ⟨bh, oh + (s - b - 1) / 8, none⟩ = some (.int .u8 x)) (_hx0 : 0 ≤ x ∧ x ≤ 255) (hbit : (bits BinOp.and IntKind.u8 (x / 2 ^ ((s - b - 1) % 8)) 1 == 1) = false) (hheld : isHeld zh (s - b - 1) = false) :
    Calls Yba.prog 3 #[.int .u64 q, .int .u64 r, .int .u64 i, .slice am lm cm, .int .u64 b, .slice (some ⟨bh, oh, none⟩) lh ch, .slice ar lr cr, .int .u64 s] w fun e w' => e = .returned (.bool true) ∧ Below w.heap.size w w' := by
  have HM := hid hm
  have HH := hid hh
  have HR := hid hr
  clear hm hh hr
  have HS := hid (spec_new hb hs hj hheld)
  have HLZ : Hid (zh.length = lh) := HH.out.size
  have hlz := HLZ.out
  have hxl := block_lt_of_cell hx
  clear hheld
  go_enter Yba.func3, Yba.ntmps3
  go_wp2_with (first
    | (at_make; refine make_law rfl (.tmp 53) rfl .i64 _ lh rfl rfl hlh w.heap.size w (Below.refl _ _) (Nat.le_refl _) ?_; intro w1 hg1 hb1 _ hs1)
    | (refine copy_law rfl (.tmp 55) (.tmp 56) rfl w.heap.size lh lh ch _ rfl rfl zh hg1 (HH.out.under hb1) (Nat.le_refl _) w.heap.size w hb1 (Nat.le_refl _) 0 (Nat.zero_le _) ?_; intro w2 hg2 hb2 hz2; have hx2 := (hb2.cell (p := ⟨bh, oh + (s - b - 1) / 8, none⟩) hxl).trans hx)
    | (at_make; refine make_law rfl (.tmp 95) rfl .u64 _ lh rfl rfl hlh w.heap.size w hb2 hb2.size ?_; intro wa hga hba _ hsa)
    | (refine copy_law rfl (.tmp 97) (.tmp 98) rfl w2.heap.size lh lh ch _ rfl rfl zh hga (HH.out.under hba) (Nat.le_refl _) w.heap.size w hba hb2.size 0 (Nat.zero_le _) ?_; intro wb hgb hbb hzb; obtain ⟨y, hy⟩ : ∃ y, y = (pad zh lh).getD ((s - b - 1) / 8) 0 := ⟨_, rfl⟩; have hyc := hgb.cell (p := (s - b - 1) / 8) (by rw [length_pad]; omega); rw [← hy] at hyc; have hyf := hgb.free (p := (s - b - 1) / 8); have HY := hid hy; clear hy))
  obtain ⟨W, hWe⟩ : ∃ W, W = wb.setCell ⟨w2.heap.size, (s - b - 1) / 8, none⟩ (.int .u8 (bits BinOp.or IntKind.u8 y (2 ^ ((s - b - 1) % 8) % 256))) := ⟨_, rfl⟩
  have hbW : Below w.heap.size w W := by rw [hWe]; exact hbb.setCell hb2.size _
  have hgW : Blk W w2.heap.size (newHeld zh (s - b - 1)) := by
    have e : (pad zh lh).set ((s - b - 1) / 8) (orB y ((s - b - 1) % 8)) = newHeld zh (s - b - 1) := by
      have hl := HLZ.out
      unfold newHeld
      rw [HY.out, pad_self zh lh (by omega), pad_self zh _ (by omega)]
    rw [hWe, ← e]
    exact hgb.stored (orB y ((s - b - 1) % 8))
  have HLW : Hid ((newHeld zh (s - b - 1)).length = lh) := by
    have hl := HLZ.out
    unfold Hid newHeld
    rw [List.length_set, length_pad]; omega
  rw [← hWe]
  have HGW := lt_of_block hgW
  have HG := hid hgW
  have HNW := hid hlh
  clear hgW hg1 hg2 hb1 hs1 hz2 hga hgb hba hbb hzb hsa hyc hyf hWe HY

  -- the tail: three clones, the box, set, the comparisons
  refine (clone22 am lm cm zm _ (HM.out.under hbW) hlm).mono ?_
  rintro e w3 ⟨mv, rfl, hm3, hb3⟩
  obtain ⟨ma, mc, rfl⟩ := own_shape hm3
  have hb3' := bstep hbW hb3
  have M3 := hid hm3
  clear hm3
  go_wp2_with fail
  refine (clone5 (some ⟨bh, oh, none⟩) lh ch zh w3 (HH.out.under hb3') hlh).mono ?_
  rintro e w4 ⟨hv, rfl, hh4, hb4⟩
  obtain ⟨hva, hvc, rfl⟩ := own_shape hh4
  have hb4' := bstep hb3' hb4
  have H4 := hid hh4
  clear hh4
  go_wp2_with fail
  refine (clone22 ar lr cr zr w4 (HR.out.under hb4') hlr).mono ?_
  rintro e w5 ⟨rv, rfl, hr5, hb5⟩
  obtain ⟨ra, rc, rfl⟩ := own_shape hr5
  have hb5' := bstep hb4' hb5
  have R5 := hid hr5
  clear hr5
  go_wp2_with fail
  have z34 := hb4.size
  have z45 := hb5.size
  have hbox := hid (heap_alloc_new w5 (box q r i (.slice ma lm mc) b (.slice hva lh hvc) (.slice ra lr rc)))
  have H5 := hid (World.ownsRow.alloc (own_below hb5 H4.out (own_lt H4.out)) (box q r i (.slice ma lm mc) b (.slice hva lh hvc) (.slice ra lr rc)))
  refine (HS.out w5.heap.size lh w3.heap.size q r i (.slice ma lm mc) (.slice ra lr rc) (.slice hva lh hvc) _ hbox.out (by omega) H5.out hlh).mono ?_
  rintro e w6 ⟨rfl, hv', n', hbox6, hown6, hb6, hk6⟩
  obtain ⟨ua, uc, rfl⟩ := own_shape hown6
  have e0 : w6.cell? ⟨w5.heap.size, 0, none⟩ = some (.int .u64 q) := by rw [cell_of_row w6 _ 0 _ _ _ hbox6]; rfl
  have e1 : w6.cell? ⟨w5.heap.size, 1, none⟩ = some (.int .u64 r) := by rw [cell_of_row w6 _ 1 _ _ _ hbox6]; rfl
  have e2 : w6.cell? ⟨w5.heap.size, 2, none⟩ = some (.int .u64 i) := by rw [cell_of_row w6 _ 2 _ _ _ hbox6]; rfl
  have e3 : w6.cell? ⟨w5.heap.size, 3, none⟩ = some (.slice ma lm mc) := by rw [cell_of_row w6 _ 3 _ _ _ hbox6]; rfl
  have e4 : w6.cell? ⟨w5.heap.size, 4, none⟩ = some (.int .u64 b) := by rw [cell_of_row w6 _ 4 _ _ _ hbox6]; rfl
  have e5 : w6.cell? ⟨w5.heap.size, 5, none⟩ = some (.slice ua n' uc) := by rw [cell_of_row w6 _ 5 _ _ _ hbox6]; rfl
  have e6 : w6.cell? ⟨w5.heap.size, 6, none⟩ = some (.slice ra lr rc) := by rw [cell_of_row w6 _ 6 _ _ _ hbox6]; rfl
  have U6 := hid hown6
  clear hown6 hbox6
  have A5 : Below w5.heap.size w5 (w5.alloc (box q r i (.slice ma lm mc) b (.slice hva lh hvc) (.slice ra lr rc))) := (Below.refl _ _).alloc (Nat.le_refl _) _
  have B36 : Below w3.heap.size w3 w6 := ((hb4.trans (hb5.mono z34)).trans (A5.mono (by omega))).trans hb6
  have hb6' := bstep hb3' B36
  have G6 := hid (own_of (B := 0) ((HG.out.below hb3 HGW).below B36 (Nat.lt_of_lt_of_le HGW hb3.size)) HLW.out (Nat.zero_le _) HNW.out)
  have M6 := hid (own_below B36 M3.out (own_lt M3.out))
  have R6 := hid (own_keep hk6 (World.ownsRow.alloc R5.out (box q r i (.slice ma lm mc) b (.slice hva lh hvc) (.slice ra lr rc))) (by decide) (fun e => Nat.lt_irrefl _ (own_lt R5.out _ e)))
  go_wp2_with fail
  refine (bytes_equal _ _ n' _ _ _ (newHeld zh (s - b - 1)) w6 U6.out G6.out).mono ?_
  rintro e w' ⟨rfl, rfl⟩
  go_wp2_with fail
  refine (slices_equal _ lm cm _ am zm _ hlm M6.out (HM.out.under hb6')).mono ?_
  rintro e w7 ⟨rfl, hst7⟩
  have k6 := (hst7.cell _).trans e6
  go_wp2_with fail
  refine (slices_equal _ lr cr _ ar zr _ hlr (hst7.own R6.out) ((HR.out.under hb6').keep (hst7.below _) rfl)).mono ?_
  rintro e w8 ⟨rfl, hst8⟩
  go_wp2
  go_ret
  exact ⟨rfl, hb6'.trans ((hst7.below _).trans (hst8.below _))⟩

set_option maxRecDepth 100000 in
set_option maxHeartbeats 2000000 in
theorem walk_far (q r i : Int) (am ah ar : Option Addr) (lm cm lh ch lr cr b s : Nat) (zm zh zr : List Int) (w : World)
    (hm : Src .u64 w am lm zm) (hh : Src .u8 w ah lh zh) (hr : Src .u64 w ar lr zr) (hlm : lm ≤ 1048576) (hlh : lh ≤ 1048576) (hlr : lr ≤ 1048576) (hs : b < s) (hj : s ≤ b + 524288) (hb : b ≤ 18446744073692774399) (hin : b + 8 * lh < s) (hheld : isHeld zh (s - b - 1) = false) :
    Calls Yba.prog 3 #[.int .u64 q, .int .u64 r, .int .u64 i, .slice am lm cm, .int .u64 b, .slice ah lh ch, .slice ar lr cr, .int .u64 s] w fun e w' => e = .returned (.bool true) ∧ Below w.heap.size w w' := by
  have HM := hid hm
  have HH := hid hh
  have HR := hid hr
  clear hm hh hr
  have HS := hid (spec_new hb hs hj hheld)
  have HLZ : Hid (zh.length = lh) := HH.out.size
  have hlz := HLZ.out
  have hnn : (s - b - 1) / 8 + 1 ≤ 1048576 := by omega
  have hln : lh ≤ (s - b - 1) / 8 + 1 := by omega
  have hcc : ((s : Int) - (b : Int) - 1) / 8 + 1 = (((s - b - 1) / 8 + 1 : Nat) : Int) := by omega
  have HCC := hid hcc
  clear hheld hcc
  go_enter Yba.func3, Yba.ntmps3
  go_wp2_with (first
    | (at_make; refine make_law rfl (.tmp 53) rfl .i64 _ lh rfl rfl hlh w.heap.size w (Below.refl _ _) (Nat.le_refl _) ?_; intro w1 hg1 hb1 _ hs1)
    | (refine copy_law rfl (.tmp 55) (.tmp 56) rfl w.heap.size lh lh ch _ rfl rfl zh hg1 (HH.out.under hb1) (Nat.le_refl _) w.heap.size w hb1 (Nat.le_refl _) 0 (Nat.zero_le _) ?_; intro w2 hg2 hb2 hz2)
    | (at_make; refine make_law rfl (.tmp 95) rfl .u64 _ ((s - b - 1) / 8 + 1) rfl HCC.out hnn w.heap.size w hb2 hb2.size ?_; intro wa hga hba _ hsa)
    | (refine copy_law rfl (.tmp 97) (.tmp 98) rfl w2.heap.size ((s - b - 1) / 8 + 1) lh ch _ rfl rfl zh hga (HH.out.under hba) hln w.heap.size w hba hb2.size 0 (Nat.zero_le _) ?_; intro wb hgb hbb hzb; obtain ⟨y, hy⟩ : ∃ y, y = (pad zh ((s - b - 1) / 8 + 1)).getD ((s - b - 1) / 8) 0 := ⟨_, rfl⟩; have hyc := hgb.cell (p := (s - b - 1) / 8) (by rw [length_pad]; omega); rw [← hy] at hyc; have hyf := hgb.free (p := (s - b - 1) / 8); have HY := hid hy; clear hy))
  obtain ⟨W, hWe⟩ : ∃ W, W = wb.setCell ⟨w2.heap.size, (s - b - 1) / 8, none⟩ (.int .u8 (bits BinOp.or IntKind.u8 y (2 ^ ((s - b - 1) % 8) % 256))) := ⟨_, rfl⟩
  have hbW : Below w.heap.size w W := by rw [hWe]; exact hbb.setCell hb2.size _
  have hgW : Blk W w2.heap.size (newHeld zh (s - b - 1)) := by
    have e : (pad zh ((s - b - 1) / 8 + 1)).set ((s - b - 1) / 8) (orB y ((s - b - 1) % 8)) = newHeld zh (s - b - 1) := by
      have hl := HLZ.out
      unfold newHeld
      rw [HY.out]
    rw [hWe, ← e]
    exact hgb.stored (orB y ((s - b - 1) % 8))
  have HLW : Hid ((newHeld zh (s - b - 1)).length = ((s - b - 1) / 8 + 1)) := by
    have hl := HLZ.out
    unfold Hid newHeld
    rw [List.length_set, length_pad]; omega
  rw [← hWe]
  have HGW := lt_of_block hgW
  have HG := hid hgW
  have HNW := hid hnn
  clear hgW hg1 hg2 hb1 hs1 hz2 hga hgb hba hbb hzb hsa hyc hyf hWe HY

  -- the tail: three clones, the box, set, the comparisons
  refine (clone22 am lm cm zm _ (HM.out.under hbW) hlm).mono ?_
  rintro e w3 ⟨mv, rfl, hm3, hb3⟩
  obtain ⟨ma, mc, rfl⟩ := own_shape hm3
  have hb3' := bstep hbW hb3
  have M3 := hid hm3
  clear hm3
  go_wp2_with fail
  refine (clone5 ah lh ch zh w3 (HH.out.under hb3') hlh).mono ?_
  rintro e w4 ⟨hv, rfl, hh4, hb4⟩
  obtain ⟨hva, hvc, rfl⟩ := own_shape hh4
  have hb4' := bstep hb3' hb4
  have H4 := hid hh4
  clear hh4
  go_wp2_with fail
  refine (clone22 ar lr cr zr w4 (HR.out.under hb4') hlr).mono ?_
  rintro e w5 ⟨rv, rfl, hr5, hb5⟩
  obtain ⟨ra, rc, rfl⟩ := own_shape hr5
  have hb5' := bstep hb4' hb5
  have R5 := hid hr5
  clear hr5
  go_wp2_with fail
  have z34 := hb4.size
  have z45 := hb5.size
  have hbox := hid (heap_alloc_new w5 (box q r i (.slice ma lm mc) b (.slice hva lh hvc) (.slice ra lr rc)))
  have H5 := hid (World.ownsRow.alloc (own_below hb5 H4.out (own_lt H4.out)) (box q r i (.slice ma lm mc) b (.slice hva lh hvc) (.slice ra lr rc)))
  refine (HS.out w5.heap.size lh w3.heap.size q r i (.slice ma lm mc) (.slice ra lr rc) (.slice hva lh hvc) _ hbox.out (by omega) H5.out hlh).mono ?_
  rintro e w6 ⟨rfl, hv', n', hbox6, hown6, hb6, hk6⟩
  obtain ⟨ua, uc, rfl⟩ := own_shape hown6
  have e0 : w6.cell? ⟨w5.heap.size, 0, none⟩ = some (.int .u64 q) := by rw [cell_of_row w6 _ 0 _ _ _ hbox6]; rfl
  have e1 : w6.cell? ⟨w5.heap.size, 1, none⟩ = some (.int .u64 r) := by rw [cell_of_row w6 _ 1 _ _ _ hbox6]; rfl
  have e2 : w6.cell? ⟨w5.heap.size, 2, none⟩ = some (.int .u64 i) := by rw [cell_of_row w6 _ 2 _ _ _ hbox6]; rfl
  have e3 : w6.cell? ⟨w5.heap.size, 3, none⟩ = some (.slice ma lm mc) := by rw [cell_of_row w6 _ 3 _ _ _ hbox6]; rfl
  have e4 : w6.cell? ⟨w5.heap.size, 4, none⟩ = some (.int .u64 b) := by rw [cell_of_row w6 _ 4 _ _ _ hbox6]; rfl
  have e5 : w6.cell? ⟨w5.heap.size, 5, none⟩ = some (.slice ua n' uc) := by rw [cell_of_row w6 _ 5 _ _ _ hbox6]; rfl
  have e6 : w6.cell? ⟨w5.heap.size, 6, none⟩ = some (.slice ra lr rc) := by rw [cell_of_row w6 _ 6 _ _ _ hbox6]; rfl
  have U6 := hid hown6
  clear hown6 hbox6
  have A5 : Below w5.heap.size w5 (w5.alloc (box q r i (.slice ma lm mc) b (.slice hva lh hvc) (.slice ra lr rc))) := (Below.refl _ _).alloc (Nat.le_refl _) _
  have B36 : Below w3.heap.size w3 w6 := ((hb4.trans (hb5.mono z34)).trans (A5.mono (by omega))).trans hb6
  have hb6' := bstep hb3' B36
  have G6 := hid (own_of (B := 0) ((HG.out.below hb3 HGW).below B36 (Nat.lt_of_lt_of_le HGW hb3.size)) HLW.out (Nat.zero_le _) HNW.out)
  have M6 := hid (own_below B36 M3.out (own_lt M3.out))
  have R6 := hid (own_keep hk6 (World.ownsRow.alloc R5.out (box q r i (.slice ma lm mc) b (.slice hva lh hvc) (.slice ra lr rc))) (by decide) (fun e => Nat.lt_irrefl _ (own_lt R5.out _ e)))
  go_wp2_with fail
  refine (bytes_equal _ _ n' _ _ _ (newHeld zh (s - b - 1)) w6 U6.out G6.out).mono ?_
  rintro e w' ⟨rfl, rfl⟩
  go_wp2_with fail
  refine (slices_equal _ lm cm _ am zm _ hlm M6.out (HM.out.under hb6')).mono ?_
  rintro e w7 ⟨rfl, hst7⟩
  have k6 := (hst7.cell _).trans e6
  go_wp2_with fail
  refine (slices_equal _ lr cr _ ar zr _ hlr (hst7.own R6.out) ((HR.out.under hb6').keep (hst7.below _) rfl)).mono ?_
  rintro e w8 ⟨rfl, hst8⟩
  go_wp2
  go_ret
  exact ⟨rfl, hb6'.trans ((hst7.below _).trans (hst8.below _))⟩

end Go.Proofs.Ybulkehja
