/- PROOF OF 'Rows.LawS6682AWholeSaid' ('consonance.LawS6682AWhole'): the frame by the guide's own tool, the walk filled in. -/
import Derived.Test.YbulkehjaRows
import Derived.Test.YbulkehjaLawWalk
import Derived.WalkKit
import Derived.ProofKit
import Derived.OpenShut
import Derived.ShutString
import Derived.ChangeOld
import Derived.Below
namespace Go.Proofs.Ybulkehja.lawS6682AWhole
open Go.ChangeShapes Go.WideShapes Go.ChangeAt Go.RowKit
open Go.ChangeMaps (open_string shut_string)
set_option linter.unusedVariables false

theorem own : ownKnob Yba.prog.godebug = none := by kernel_rfl
theorem laidOut : laidOutB Yba.prog = true := by kernel_rfl

/-- WHAT THE WALK IS TOLD OF A SLICE OF INTEGERS THAT CAME IN: it is nil; or it leads to a row of 'cap' cells, the numbers 'zs' (the first 'len' are its elements, the rest its spare room), each fitting its kind. -/
def IsRow (k : IntKind) (w : World) (a : Option Addr) (len cap : Nat) (zs : List Int) : Prop :=
  (a = none ∧ len = 0 ∧ cap = 0 ∧ zs = []) ∨
  ∃ x, a = some x ∧ len ≤ cap ∧ cap ≤ maxLen ∧ zs.length = cap ∧ (∀ i, i < zs.length → w.cell? (x.add i) = some (.int k (zs.getD i 0))) ∧ ∀ n ∈ zs, (Lit.int k n).wf = true

theorem src_of {k : IntKind} {w : World} {a : Option Addr} {len cap : Nat} {zs : List Int} (h : IsRow k w a len cap zs) : Src k w a len (zs.take len) := by
  rcases h with ⟨rfl, rfl, rfl, rfl⟩ | ⟨x, rfl, hl, _, hz, hc, _⟩
  · exact ⟨rfl, fun j hj => by omega⟩
  · refine ⟨by simp; omega, fun j hj => ?_⟩
    obtain ⟨b, off, spot⟩ := x
    have hs : spot = none := by
      have := World.cell?_spot (hc 0 (by omega))
      simpa [Addr.add] using this
    subst hs
    have h0 := hc j (by omega)
    have hadd : (⟨b, off, none⟩ : Addr).add j = ⟨b, off + j, none⟩ := by unfold Addr.add; split <;> simp_all
    rw [hadd] at h0
    refine ⟨b, off, rfl, ?_⟩
    rw [h0]
    simp [List.getD, hj]
theorem byte_of {w : World} {a : Option Addr} {len cap : Nat} {zs : List Int} (h : IsRow .u8 w a len cap zs) (p : Nat) (hp : p < len) : 0 ≤ (zs.take len).getD p 0 ∧ (zs.take len).getD p 0 ≤ 255 := by
  rcases h with ⟨rfl, rfl, rfl, rfl⟩ | ⟨x, rfl, hl, _, hz, _, hwf⟩
  · omega
  · have hlt : p < zs.length := by omega
    have := bounds_u8 (hwf zs[p] (List.getElem_mem _))
    simpa [List.getD, hp, List.getElem?_eq_getElem hlt] using this

set_option maxRecDepth 100000 in
theorem early (a0 a1 a2 : Int) (a3 a5 a6 : Option Addr) (len3 cap3 len5 cap5 len6 cap6 b s : Nat) (w : World) (hs64 : s ≤ 18446744073709551615)
    (h : 1048576 < len5 ∨ 1048576 < len3 ∨ 1048576 < len6 ∨ (b < s ∧ (b + 524288 < s ∨ 18446744073692774399 < b))) :
    Calls Yba.prog 3 #[.int .u64 a0, .int .u64 a1, .int .u64 a2, .slice a3 len3 cap3, .int .u64 b, .slice a5 len5 cap5, .slice a6 len6 cap6, .int .u64 s] w fun e w' => e = .returned (.bool true) ∧ Below w.heap.size w w' := by
  by_cases c5 : 1048576 < len5
  · clear h
    go_enter Yba.func3, Yba.ntmps3
    go_wp2
    go_ret
    exact ⟨rfl, Below.refl _ _⟩
  · by_cases c3 : 1048576 < len3
    · clear h
      go_enter Yba.func3, Yba.ntmps3
      go_wp2
      go_ret
      exact ⟨rfl, Below.refl _ _⟩
    · by_cases c6 : 1048576 < len6
      · clear h
        go_enter Yba.func3, Yba.ntmps3
        go_wp2
        go_ret
        exact ⟨rfl, Below.refl _ _⟩
      · have hbs : b < s := by omega
        by_cases cs : b + 524288 < s
        · clear h
          go_enter Yba.func3, Yba.ntmps3
          go_wp2
          go_ret
          exact ⟨rfl, Below.refl _ _⟩
        · have cb : 18446744073692774399 < b := by omega
          clear h
          go_enter Yba.func3, Yba.ntmps3
          go_wp2
          go_ret
          exact ⟨rfl, Below.refl _ _⟩

/-! ### STEP 1: THE WALK: the Go text returns true, AND WRITES NOTHING THAT WAS THERE: 'Below w.heap.size w w'' (Derived/Below.lean: '.refl', '.alloc', '.drew', '.setCell' at a new block, '.trans'). Open each 'IsRow' by 'rcases' AHEAD of 'go_enter'; part every test ahead of the walk. -/
theorem walk (a0 : Int) (a1 : Int) (a2 : Int) (a3 : Option Addr) (len3 cap3 : Nat) (z3 : List Int) (a4 : Int) (a5 : Option Addr) (len5 cap5 : Nat) (z5 : List Int) (a6 : Option Addr) (len6 cap6 : Nat) (z6 : List Int) (a7 : Int) (w : World) (w0 : (Lit.int .u64 a0).wf = true) (w1 : (Lit.int .u64 a1).wf = true) (w2 : (Lit.int .u64 a2).wf = true) (w3 : IsRow .u64 w a3 len3 cap3 z3) (w4 : (Lit.int .u64 a4).wf = true) (w5 : IsRow .u8 w a5 len5 cap5 z5) (w6 : IsRow .u64 w a6 len6 cap6 z6) (w7 : (Lit.int .u64 a7).wf = true) :
    Calls Yba.prog 3 #[.int .u64 a0, .int .u64 a1, .int .u64 a2, .slice a3 len3 cap3, .int .u64 a4, .slice a5 len5 cap5, .slice a6 len6 cap6, .int .u64 a7] w fun e w' => e = .returned (.bool true) ∧ Below w.heap.size w w' := by
  have b4 := bounds_u64 w4
  have b7 := bounds_u64 w7
  obtain ⟨b, rfl⟩ : ∃ b : Nat, a4 = b := ⟨a4.toNat, by omega⟩
  obtain ⟨s, rfl⟩ : ∃ s : Nat, a7 = s := ⟨a7.toNat, by omega⟩
  have hm := src_of w3
  have hh := src_of w5
  have hr := src_of w6
  have hlz := hh.size
  by_cases he : 1048576 < len5 ∨ 1048576 < len3 ∨ 1048576 < len6 ∨ (b < s ∧ (b + 524288 < s ∨ 18446744073692774399 < b))
  · exact early a0 a1 a2 a3 a5 a6 len3 cap3 len5 cap5 len6 cap6 b s w (by omega) he
  · have hl5 : len5 ≤ 1048576 := by omega
    have hl3 : len3 ≤ 1048576 := by omega
    have hl6 : len6 ≤ 1048576 := by omega
    by_cases hs : s ≤ b
    · exact walk_le a0 a1 a2 a3 a5 a6 len3 cap3 len5 cap5 len6 cap6 b s _ _ _ w hm hh hr hl3 hl5 hl6 hs
    · have hj : s ≤ b + 524288 := by omega
      have hb : b ≤ 18446744073692774399 := by omega
      have hbs : b < s := by omega
      clear he
      by_cases hin : s ≤ b + 8 * len5
      · have hp : (s - b - 1) / 8 < len5 := by omega
        obtain ⟨bh, oh, rfl, hx⟩ := hh.cell _ hp
        have hx0 := byte_of w5 _ hp
        have hag := bit_agree _ ((s - b - 1) % 8) hx0 (by omega)
        have hheld : isHeld (z5.take len5) (s - b - 1) = bitB ((z5.take len5).getD ((s - b - 1) / 8) 0) ((s - b - 1) % 8) := by
          simp only [isHeld, decide_eq_true (show s - b - 1 < 8 * (z5.take len5).length by omega), Bool.true_and]
        cases hbit : bitB ((z5.take len5).getD ((s - b - 1) / 8) 0) ((s - b - 1) % 8) with
        | true => exact walk_held a0 a1 a2 a3 a6 len3 cap3 len5 cap5 len6 cap6 b s bh oh _ _ _ _ w hm hh hr hl3 hl5 hl6 hbs hj hb hin hx hx0 (hag.trans hbit) (hheld.trans hbit)
        | false => exact walk_new a0 a1 a2 a3 a6 len3 cap3 len5 cap5 len6 cap6 b s bh oh _ _ _ _ w hm hh hr hl3 hl5 hl6 hbs hj hb hin hx hx0 (hag.trans hbit) (hheld.trans hbit)
      · have hheld : isHeld (z5.take len5) (s - b - 1) = false := by
          simp only [isHeld, decide_eq_false (show ¬ s - b - 1 < 8 * (z5.take len5).length by omega), Bool.false_and]
        exact walk_far a0 a1 a2 a3 a5 a6 len3 cap3 len5 cap5 len6 cap6 b s _ _ _ w hm hh hr hl3 hl5 hl6 hbs hj hb (by omega) hheld

/-! ### THE ROW's STEP: WRITTEN OUT: LEAVE IT -/
set_option maxRecDepth 100000 in
theorem lifted (os : Os) (started : os.Started) (H : Type) (enc : TypeId × Value → H) :
    ReturnsInHanded {} Yba.checked os 3 .any (Rows.lawS6682AWholeSpec.pre6 enc Yba.prog Yba.f3 Rows.lawS6682AWholeRow.domain false) (Rows.lawS6682AWholeSpec.post enc Yba.prog Yba.f3 false true false false) := by
  refine returnsInHanded_of_change (C := Yba.checked) own started (by kernel_rfl) Yba.func3
    (ChangeSpec.witness6 (enc := enc) (C := Yba.checked) false ⟨#[], #[.int .u64 0, .int .u64 0, .int .u64 0, .slice none 0 0, .int .u64 0, .slice none 0 0, .slice none 0 0, .int .u64 0], []⟩ 8 (by kernel_rfl) (by kernel_rfl) (by kernel_rfl) (by kernel_rfl)) ?_
  intro W base args ds gs before hval0 hW hcnd _
  have hval : ∀ (j : Nat) t v, Yba.f3.params[j]? = some t → args[j]? = some v → Value.okWide Yba.prog W .any base t v := hval0
  have hW' := hW
  obtain ⟨p, q, hA0, hV, rfl, hfz, hnd⟩ := hW
  have hA : DataW.TrodAll enc Yba.prog W 0 (fun _ => true) true Yba.f3.params.toList args.toList ds p := hA0
  rw [Yba.params3] at hA hval
  obtain ⟨v0, vs0, d0, ds0, p0, q0, hargs, rfl, rfl, h0, r0⟩ := trodAll_cons hA
  obtain ⟨v1, vs1, d1, ds1, p1, q1, rfl, rfl, rfl, h1, r1⟩ := trodAll_cons r0
  obtain ⟨v2, vs2, d2, ds2, p2, q2, rfl, rfl, rfl, h2, r2⟩ := trodAll_cons r1
  obtain ⟨v3, vs3, d3, ds3, p3, q3, rfl, rfl, rfl, h3, r3⟩ := trodAll_cons r2
  obtain ⟨v4, vs4, d4, ds4, p4, q4, rfl, rfl, rfl, h4, r4⟩ := trodAll_cons r3
  obtain ⟨v5, vs5, d5, ds5, p5, q5, rfl, rfl, rfl, h5, r5⟩ := trodAll_cons r4
  obtain ⟨v6, vs6, d6, ds6, p6, q6, rfl, rfl, rfl, h6, r6⟩ := trodAll_cons r5
  obtain ⟨v7, vs7, d7, ds7, p7, q7, rfl, rfl, rfl, h7, r7⟩ := trodAll_cons r6
  obtain ⟨rfl, rfl, rfl⟩ := trodAll_nil r7
  obtain rfl : args = #[v0, v1, v2, v3, v4, v5, v6, v7] := by cases args; simp_all
  obtain ⟨rfl, rfl⟩ := trodVars_none hV
  obtain ⟨a0, rfl, rfl, rfl, w0⟩ := open_int Yba.underlying22 (hval 0 22 v0 rfl rfl) h0
  obtain ⟨a1, rfl, rfl, rfl, w1⟩ := open_int Yba.underlying22 (hval 1 22 v1 rfl rfl) h1
  obtain ⟨a2, rfl, rfl, rfl, w2⟩ := open_int Yba.underlying22 (hval 2 22 v2 rfl rfl) h2
  obtain ⟨a3, len3, cap3, rfl⟩ := okWide_slice Yba.underlying23 (hval 3 23 v3 rfl rfl)
  have k3 := h3
  have lt3 : ∀ x ∈ p3, x.block < W.heap.size := by obtain ⟨m, hm⟩ := k3; exact DataW.trod_lt m _ _ _ hm
  obtain ⟨z3, w3⟩ : ∃ zs, IsRow .u64 W a3 len3 cap3 zs := by
    obtain ⟨fuel, hf⟩ := h3
    rcases open_ints Yba.underlying23 Yba.underlying22 (by kernel_rfl) hf with ⟨hcs, _⟩ | ⟨x, l, c, zs, hcs, _, hl, hm, hz, _, hcell, hwz⟩
    · simp [Value.cells] at hcs
      obtain ⟨rfl, rfl, rfl⟩ := hcs
      exact ⟨[], .inl ⟨rfl, rfl, rfl, rfl⟩⟩
    · simp [Value.cells] at hcs
      obtain ⟨rfl, rfl, rfl⟩ := hcs
      exact ⟨zs, .inr ⟨_, rfl, hl, hm, by simpa using hz, hcell, hwz⟩⟩
  obtain ⟨a4, rfl, rfl, rfl, w4⟩ := open_int Yba.underlying22 (hval 4 22 v4 rfl rfl) h4
  obtain ⟨a5, len5, cap5, rfl⟩ := okWide_slice Yba.underlying24 (hval 5 24 v5 rfl rfl)
  have k5 := h5
  have lt5 : ∀ x ∈ p5, x.block < W.heap.size := by obtain ⟨m, hm⟩ := k5; exact DataW.trod_lt m _ _ _ hm
  obtain ⟨z5, w5⟩ : ∃ zs, IsRow .u8 W a5 len5 cap5 zs := by
    obtain ⟨fuel, hf⟩ := h5
    rcases open_ints Yba.underlying24 Yba.underlying5 (by kernel_rfl) hf with ⟨hcs, _⟩ | ⟨x, l, c, zs, hcs, _, hl, hm, hz, _, hcell, hwz⟩
    · simp [Value.cells] at hcs
      obtain ⟨rfl, rfl, rfl⟩ := hcs
      exact ⟨[], .inl ⟨rfl, rfl, rfl, rfl⟩⟩
    · simp [Value.cells] at hcs
      obtain ⟨rfl, rfl, rfl⟩ := hcs
      exact ⟨zs, .inr ⟨_, rfl, hl, hm, by simpa using hz, hcell, hwz⟩⟩
  obtain ⟨a6, len6, cap6, rfl⟩ := okWide_slice Yba.underlying23 (hval 6 23 v6 rfl rfl)
  have k6 := h6
  have lt6 : ∀ x ∈ p6, x.block < W.heap.size := by obtain ⟨m, hm⟩ := k6; exact DataW.trod_lt m _ _ _ hm
  obtain ⟨z6, w6⟩ : ∃ zs, IsRow .u64 W a6 len6 cap6 zs := by
    obtain ⟨fuel, hf⟩ := h6
    rcases open_ints Yba.underlying23 Yba.underlying22 (by kernel_rfl) hf with ⟨hcs, _⟩ | ⟨x, l, c, zs, hcs, _, hl, hm, hz, _, hcell, hwz⟩
    · simp [Value.cells] at hcs
      obtain ⟨rfl, rfl, rfl⟩ := hcs
      exact ⟨[], .inl ⟨rfl, rfl, rfl, rfl⟩⟩
    · simp [Value.cells] at hcs
      obtain ⟨rfl, rfl, rfl⟩ := hcs
      exact ⟨zs, .inr ⟨_, rfl, hl, hm, by simpa using hz, hcell, hwz⟩⟩
  obtain ⟨a7, rfl, rfl, rfl, w7⟩ := open_int Yba.underlying22 (hval 7 22 v7 rfl rfl) h7
  clear hA0 hval0
  refine (walk a0 a1 a2 a3 len3 cap3 z3 a4 a5 len5 cap5 z5 a6 len6 cap6 z6 a7 W w0 w1 w2 w3 w4 w5 w6 w7).mono fun e W' ⟨he, bel⟩ => ?_
  subst he
  exact ⟨_, rfl, _, _, _, [], _, [], hW', trodAll_mk1 (shut_bool Yba.underlying4 _), (trodAll_cons_mk (shut_int Yba.underlying22 w0) (trodAll_cons_mk (shut_int Yba.underlying22 w1) (trodAll_cons_mk (shut_int Yba.underlying22 w2) (trodAll_cons_mk (Below.trod laidOut (by kernel_rfl) (of_decide_eq_true (by kernel_rfl)) k3 bel lt3) (trodAll_cons_mk (shut_int Yba.underlying22 w4) (trodAll_cons_mk (Below.trod laidOut (by kernel_rfl) (of_decide_eq_true (by kernel_rfl)) k5 bel lt5) (trodAll_cons_mk (Below.trod laidOut (by kernel_rfl) (of_decide_eq_true (by kernel_rfl)) k6 bel lt6) (trodAll_cons_mk (shut_int Yba.underlying22 w7) trodAll_mk0)))))))), rfl, bel.frame _, fun h => by cases h⟩

theorem over : Rows.lawS6682AWholeRow.holds Yba.pinned (OpenSpec.ofChange Rows.lawS6682AWholeSpec) :=
  OpenClaim.holds_of_wide 3 Yba.f3 rfl rfl rfl rfl rfl rfl rfl ⟨rfl, rfl, rfl, rfl, rfl⟩ rfl rfl rfl rfl rfl (by kernel_rfl) Yba.func3 (by kernel_rfl)
    (of_decide_eq_true (by kernel_rfl)) (by unfold Func.isWrapper; first | (rw [if_pos (by decide +kernel)]; kernel_rfl) | (rw [if_neg (by decide +kernel)]; exact ⟨rfl, rfl⟩))
    (fun os started H enc _ => lifted os started H enc)

/-- ████ THE STATEMENT ████ -/
theorem proved : Rows.LawS6682AWholeSaid := over
end Go.Proofs.Ybulkehja.lawS6682AWhole

namespace Go.Proofs.Ybulkehja
theorem lawS6682AWhole_proved : Rows.LawS6682AWholeSaid := lawS6682AWhole.proved
end Go.Proofs.Ybulkehja
