/- PROOF OF 'Rows.LawS6685CWholeSaid' ('scheduler.LawS6685CWhole'). -/
import Derived.Test.YbulkehkqRows
import Derived.Test.YbulkehkqLaw
import Derived.Test.YbulkehkqOpen
import Derived.WalkKit
import Derived.ProofKit
import Derived.OpenShut
import Derived.ShutString
import Derived.ChangeOld
import Derived.Below
import Derived.SizedLaws
namespace Go.Proofs.Ybulkehkq.lawS6685CWhole
open Go.ChangeShapes Go.WideShapes Go.ChangeAt Go.RowKit
set_option linter.unusedVariables false

theorem own : ownKnob Yba.prog.godebug = none := by kernel_rfl
theorem laidOut : laidOutB Yba.prog = true := by kernel_rfl

set_option maxRecDepth 100000 in
theorem walk (ae ak al : Option Addr) (n0 ce n1 ck n2 cl : Nat) (nr : Bool) (Ek Ev : Nat → ByteArray) (Ec : Nat → Int) (Kx Lk Lv : Nat → ByteArray) (w : World) (m0 : n0 ≤ 140737488351232) (m1 : n1 ≤ 140737488351232) (m2 : n2 ≤ 140737488351232)
    (he : Ents w ae n0 Ek Ev Ec) (hk : Strs w ak n1 Kx) (hl : Labs w al n2 Lk Lv) :
    Calls Yba.prog 3 #[.slice ae n0 ce, .slice ak n1 ck, .slice al n2 cl, .bool nr] w fun e w' => e = .returned (.bool true) ∧ Below w.heap.size w w' := by
  by_cases hb : n0 + n1 + n2 ≤ 4096
  · exact law_walk ae ak al n0 ce n1 ck n2 cl nr Ek Ev Ec Kx Lk Lv w hb he hk hl
  · have hb' : (4096 : Int) < (n0 : Int) + (n1 : Int) + (n2 : Int) := by omega
    clear he hk hl
    go_enter Yba.func3, Yba.ntmps3
    go_wp2
    go_ret
    exact ⟨rfl, Below.refl _ _⟩

set_option maxRecDepth 100000 in
theorem lifted (os : Os) (started : os.Started) (H : Type) (enc : TypeId × Value → H) :
    ReturnsInHanded {} Yba.checked os 3 .any (Rows.lawS6685CWholeSpec.pre6 enc Yba.prog Yba.f3 Rows.lawS6685CWholeRow.domain false) (Rows.lawS6685CWholeSpec.post enc Yba.prog Yba.f3 false true false false) := by
  refine returnsInHanded_of_change_sized (C := Yba.checked) own started (by kernel_rfl) Yba.func3
    (ChangeSpec.witness6 (enc := enc) (C := Yba.checked) false ⟨#[], #[.slice none 0 0, .slice none 0 0, .slice none 0 0, .bool false], []⟩ 8 (by kernel_rfl) (by kernel_rfl) (by kernel_rfl) (by kernel_rfl)) ?_
  intro W base args ds gs before hval0 hW hcnd hsz0 _
  have hval : ∀ (j : Nat) t v, Yba.f3.params[j]? = some t → args[j]? = some v → Value.okWide Yba.prog W .any base t v := hval0
  have hW' := hW
  obtain ⟨p, q, hA0, hV, rfl, hfz, hnd⟩ := hW
  have hA : DataW.TrodAll enc Yba.prog W 0 (fun _ => true) true Yba.f3.params.toList args.toList ds p := hA0
  have hsz : (DataW.weightsEach Yba.prog (Yba.f3.params.toList ++ Rows.lawS6685CWholeSpec.plain.varTypes Yba.prog) (ds ++ gs)).all (· ≤ reachBytes) = true := hsz0
  rw [Yba.params3] at hA hval hsz
  obtain ⟨v0, vs0, d0, ds0, p0, q0, hargs, rfl, rfl, h0, r0⟩ := trodAll_cons hA
  obtain ⟨v1, vs1, d1, ds1, p1, q1, rfl, rfl, rfl, h1, r1⟩ := trodAll_cons r0
  obtain ⟨v2, vs2, d2, ds2, p2, q2, rfl, rfl, rfl, h2, r2⟩ := trodAll_cons r1
  obtain ⟨v3, vs3, d3, ds3, p3, q3, rfl, rfl, rfl, h3, r3⟩ := trodAll_cons r2
  obtain ⟨rfl, rfl, rfl⟩ := trodAll_nil r3
  obtain rfl : args = #[v0, v1, v2, v3] := by cases args; simp_all
  obtain ⟨rfl, rfl⟩ := trodVars_none hV
  obtain ⟨a0, len0, cap0, rfl⟩ := okWide_slice Yba.underlying22 (hval 0 22 v0 rfl rfl)
  obtain ⟨a1, len1, cap1, rfl⟩ := okWide_slice Yba.underlying23 (hval 1 23 v1 rfl rfl)
  obtain ⟨a2, len2, cap2, rfl⟩ := okWide_slice Yba.underlying24 (hval 2 24 v2 rfl rfl)
  obtain ⟨a3, rfl, rfl, rfl⟩ := open_bool Yba.underlying4 (hval 3 4 v3 rfl rfl) h3
  have k0 := h0
  have k1 := h1
  have k2 := h2
  have lt0 : ∀ x ∈ p0, x.block < W.heap.size := by obtain ⟨m, hm⟩ := k0; exact DataW.trod_lt m _ _ _ hm
  have lt1 : ∀ x ∈ p1, x.block < W.heap.size := by obtain ⟨m, hm⟩ := k1; exact DataW.trod_lt m _ _ _ hm
  have lt2 : ∀ x ∈ p2, x.block < W.heap.size := by obtain ⟨m, hm⟩ := k2; exact DataW.trod_lt m _ _ _ hm
  obtain ⟨f0, h0⟩ := h0
  obtain ⟨f1, h1⟩ := h1
  obtain ⟨f2, h2⟩ := h2
  obtain ⟨Ek, Ev, Ec, he⟩ := open_entries (by simpa [Value.cells] using h0)
  obtain ⟨Kx, hkc, hks⟩ := open_keys (by simpa [Value.cells] using h1)
  obtain ⟨Lk, Lv, hlc, hlk, hlv⟩ := open_labels (by simpa [Value.cells] using h2)
  have m0 := slice_len (B := 39) Yba.underlying22 (by kernel_rfl) (by simpa [Value.cells] using h0) (fun elems rest hd => sized_slice hsz (j := 0) (t := 22) (e := 28) rfl (by rw [hd]; rfl) Yba.underlying22)
  have m1 := slice_len (B := 15) Yba.underlying23 (by kernel_rfl) (by simpa [Value.cells] using h1) (fun elems rest hd => sized_slice hsz (j := 1) (t := 23) (e := 9) rfl (by rw [hd]; rfl) Yba.underlying23)
  have m2 := slice_len (B := 31) Yba.underlying24 (by kernel_rfl) (by simpa [Value.cells] using h2) (fun elems rest hd => sized_slice hsz (j := 2) (t := 24) (e := 31) rfl (by rw [hd]; rfl) Yba.underlying24)
  clear hA0 hval0
  refine (walk a0 a1 a2 len0 cap0 len1 cap1 len2 cap2 a3 Ek Ev Ec Kx Lk Lv W m0 m1 m2 he ⟨hkc, hks⟩ ⟨hlc, hlk, hlv⟩).mono fun e W' ⟨he, bel⟩ => ?_
  subst he
  exact ⟨_, rfl, _, _, _, [], _, [], hW', trodAll_mk1 (shut_bool Yba.underlying4 _), (trodAll_cons_mk (Below.trod laidOut (by kernel_rfl) (of_decide_eq_true (by kernel_rfl)) k0 bel lt0) (trodAll_cons_mk (Below.trod laidOut (by kernel_rfl) (of_decide_eq_true (by kernel_rfl)) k1 bel lt1) (trodAll_cons_mk (Below.trod laidOut (by kernel_rfl) (of_decide_eq_true (by kernel_rfl)) k2 bel lt2) (trodAll_cons_mk (shut_bool Yba.underlying4 _) trodAll_mk0)))), rfl, bel.frame _, fun h => by cases h⟩

theorem over : Rows.lawS6685CWholeRow.holds Yba.pinned (OpenSpec.ofChange Rows.lawS6685CWholeSpec) :=
  OpenClaim.holds_of_wide 3 Yba.f3 rfl rfl rfl rfl rfl rfl rfl ⟨rfl, rfl, rfl, rfl, rfl⟩ rfl rfl rfl rfl rfl (by kernel_rfl) Yba.func3 (by kernel_rfl)
    (of_decide_eq_true (by kernel_rfl)) (by unfold Func.isWrapper; first | (rw [if_pos (by decide +kernel)]; kernel_rfl) | (rw [if_neg (by decide +kernel)]; exact ⟨rfl, rfl⟩))
    (fun os started H enc _ => lifted os started H enc)

/-- THE STATEMENT -/
theorem proved : Rows.LawS6685CWholeSaid := over
end Go.Proofs.Ybulkehkq.lawS6685CWhole

namespace Go.Proofs.Ybulkehkq
theorem lawS6685CWhole_proved : Rows.LawS6685CWholeSaid := lawS6685CWhole.proved
end Go.Proofs.Ybulkehkq
