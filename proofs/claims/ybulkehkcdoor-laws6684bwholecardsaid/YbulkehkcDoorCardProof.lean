/- PROOF OF 'Rows.LawS6684BWholeCardSaid': the row, then the tied card. -/
import Derived.Test.YbulkehkcDoorRows
import Derived.Test.YbulkehkcDoorTie
import Derived.Test.YbulkehkcDoorCards
import Derived.Test.YbulkehkcDoorKinds
import Derived.ProofKit
import Derived.LaidMore
import Derived.OpenShut
import Derived.Stop.Joined
import Derived.SevenTiedAt
namespace Go.Proofs.YbulkehkcDoor
open Go.ChangeShapes Go.WideShapes Go.ChangeAt Go.WideMaps Go.WideElems Go.RowKit

/-- The variable's name, off the given specification. -/
abbrev exName : String := Rows.lawS6684BWholeSpec.vars.headD ""
theorem own : ownKnob Ybad.prog.godebug = none := by kernel_rfl
theorem gEx : Ybad.prog.globalNamed exName = some 0 := by kernel_rfl
theorem tEx : (Ybad.prog.globals[0]?).map (·.type) = some 26 := by kernel_rfl
theorem c26 : Ybad.prog.cellsOf 26 = 9 := by kernel_rfl
theorem c3 : Ybad.prog.cellsOf 3 = 1 := by kernel_rfl

/-- The listed variable's name and datum. -/
abbrev laid1 : List (String × DataW Unit) := [(exName, Rows.laid_example_com_freechoice_freechoice_exchangeOf)]

/-- The door's own heap meets the condition: three closed facts. -/
theorem door_met (os : Os) (args : Array Value) : laidMetH Ybad.prog laid1 ((World.doorLaid Ybad.prog 400 os).forCall (fun _ _ => 0) ⟨#[], args, []⟩).memory :=
  laidMetH_of_parts3 (fuel := 8) (laidMet_of_run' 8 (by kernel_rfl) (by kernel_rfl)) (by kernel_rfl) (by kernel_rfl)

theorem int_of_trod {H : Type} {enc : TypeId × Value → H} {P : Program} {w : World} {base : Nat} {sp : Nat → Bool} {held : Bool} {fuel : Nat} {t : TypeId} {k : IntKind} {c : Value} {y : DataW H × List MemPlace}
    (ht : P.underlying t = some (.int k)) (h : DataW.trod enc P w base sp held fuel t [c] = some y) : ∃ n, c = .int k n ∧ y = (.lit (.int k n), []) := by
  cases fuel with
  | zero => simp [DataW.trod] at h
  | succ fuel =>
    cases c <;> simp [DataW.trod, ht] at h
    rename_i k' n
    obtain ⟨⟨rfl, _⟩, rfl⟩ := h
    exact ⟨n, rfl, rfl⟩

def cells9 : Array Value := #[.int .i64 0, .int .i64 1, .int .i64 2, .int .i64 0, .int .i64 3, .int .i64 4, .int .i64 0, .int .i64 0, .int .i64 0]

theorem nine {l : List Value} (h : l.length = 9) : ∃ c0 c1 c2 c3 c4 c5 c6 c7 c8, l = [c0, c1, c2, c3, c4, c5, c6, c7, c8] := by
  match l, h with
  | [c0, c1, c2, c3, c4, c5, c6, c7, c8], _ => exact ⟨c0, c1, c2, c3, c4, c5, c6, c7, c8, rfl⟩

set_option maxRecDepth 100000 in
theorem cells_of_laid {W : World} (h : laidMetH Ybad.prog laid1 W) : W.var? Ybad.prog exName = some cells9 := by
  rw [MakeChecks.laidMetH_plain _ _ _ (by kernel_rfl)] at h
  obtain ⟨ps, ⟨g, t, cs, fuel, p, q, hg, ht, hvar, hd, _, _⟩, _, _⟩ := h
  obtain rfl := Option.some.inj (gEx.symm.trans hg)
  obtain rfl := Option.some.inj (tEx.symm.trans ht)
  rw [hvar]
  congr 1
  obtain ⟨l⟩ := cs
  cases fuel with
  | zero => simp [DataW.trod] at hd
  | succ fuel =>
    simp only [DataW.trod, Ybad.underlying26, c26, c3] at hd
    split at hd
    · rename_i hl
      obtain ⟨d0, d1, d2, d3, d4, d5, d6, d7, d8, rfl⟩ := nine hl
      have e : List.range 9 = [0, 1, 2, 3, 4, 5, 6, 7, 8] := rfl
      rw [e] at hd
      simp only [Option.map_eq_some_iff, List.mapM_cons, List.mapM_nil, Option.bind_eq_bind, Option.bind_eq_some_iff, Option.pure_def, Option.some.injEq] at hd
      obtain ⟨xs, ⟨y0, h0, _, ⟨y1, h1, _, ⟨y2, h2, _, ⟨y3, h3, _, ⟨y4, h4, _, ⟨y5, h5, _, ⟨y6, h6, _, ⟨y7, h7, _, ⟨y8, h8, _, rfl, rfl⟩, rfl⟩, rfl⟩, rfl⟩, rfl⟩, rfl⟩, rfl⟩, rfl⟩, rfl⟩, hx⟩ := hd
      obtain ⟨n0, rfl, rfl⟩ := int_of_trod Ybad.underlying3 h0
      obtain ⟨n1, rfl, rfl⟩ := int_of_trod Ybad.underlying3 h1
      obtain ⟨n2, rfl, rfl⟩ := int_of_trod Ybad.underlying3 h2
      obtain ⟨n3, rfl, rfl⟩ := int_of_trod Ybad.underlying3 h3
      obtain ⟨n4, rfl, rfl⟩ := int_of_trod Ybad.underlying3 h4
      obtain ⟨n5, rfl, rfl⟩ := int_of_trod Ybad.underlying3 h5
      obtain ⟨n6, rfl, rfl⟩ := int_of_trod Ybad.underlying3 h6
      obtain ⟨n7, rfl, rfl⟩ := int_of_trod Ybad.underlying3 h7
      obtain ⟨n8, rfl, rfl⟩ := int_of_trod Ybad.underlying3 h8
      simp [Rows.laid_example_com_freechoice_freechoice_exchangeOf] at hx
      obtain ⟨⟨rfl, rfl, rfl, rfl, rfl, rfl, rfl, rfl, rfl⟩, _⟩ := hx
      rfl
    · cases hd

/-- The table as a datum, at whatever tokens. -/
abbrev tableH {H : Type} : DataW H := Rows.laid_example_com_freechoice_freechoice_exchangeOf
theorem reads_table {H : Type} (enc : TypeId × Value → H) (W : World) (sp : Nat → Bool) : DataW.trod enc Ybad.prog W 0 sp true 3 26 cells9.toList = some (tableH, []) := by kernel_rfl

theorem walk (k : Int) (hk : 0 ≤ k ∧ k ≤ 255) (W : World) (hc : ∀ j, W.cell? ⟨0, j, none⟩ = cells9[j]?) : Calls Ybad.prog 3 #[.int .u8 k] W fun e w' => e = .returned (.bool true) ∧ w' = W := by
  rcases (show k = 0 ∨ k = 1 ∨ k = 2 ∨ k = 3 ∨ k = 4 ∨ k = 5 ∨ k = 6 ∨ k = 7 ∨ k = 8 ∨ 9 ≤ k from by omega) with rfl | rfl | rfl | rfl | rfl | rfl | rfl | rfl | rfl | h
  · exact walk_0 W (hc 0)
  · exact walk_1 W (hc 1)
  · exact walk_2 W (hc 2)
  · exact walk_3 W (hc 3)
  · exact walk_4 W (hc 4)
  · exact walk_5 W (hc 5)
  · exact walk_6 W (hc 6)
  · exact walk_7 W (hc 7)
  · exact walk_8 W (hc 8)
  · exact walk_past k W h hk.2

set_option maxRecDepth 100000 in
theorem lifted (os : Os) (started : os.Started) (H : Type) (enc : TypeId × Value → H) :
    ReturnsInHanded {} Ybad.checked os 3 .any (fun w args => (Rows.lawS6684BWholeSpec.pre enc Ybad.prog Ybad.f3 [] false w args ∧ laidMetH Ybad.prog laid1 w) ∧ sizedMet enc Ybad.prog Ybad.f3 (OpenSpec.ofChange Rows.lawS6684BWholeSpec) false w args)
      (Rows.lawS6684BWholeSpec.post enc Ybad.prog Ybad.f3 false true false false) := by
  refine returnsInHanded_of_change_and (C := Ybad.checked) (X := fun w _ => laidMetH Ybad.prog laid1 w) (fun _ _ _ hh h => h.of_heap hh) own started (by kernel_rfl) Ybad.func3
    (ChangeSpec.witness_shaped (enc := enc) (C := Ybad.checked) (os := os) (X := fun w _ => laidMetH Ybad.prog laid1 w) false (World.doorLaid Ybad.prog 400 os) #[.int .u8 0] 8 rfl (World.shaped_of_RefB (by kernel_rfl) (by kernel_rfl)) (by kernel_rfl) (by kernel_rfl) (by kernel_rfl) (door_met os _)) ?_
  intro W base args ds gs before hval0 hW _ _ hL _
  have hval : ∀ (j : Nat) t v, Ybad.f3.params[j]? = some t → args[j]? = some v → Value.okWide Ybad.prog W .any base t v := hval0
  have hW' := hW
  obtain ⟨p, q, hA0, hV0, rfl, hfz, hnd⟩ := hW
  have hA : DataW.TrodAll enc Ybad.prog W 0 (fun _ => true) true Ybad.f3.params.toList args.toList ds p := hA0
  have hV : DataW.TrodVars enc Ybad.prog W (fun _ => true) [exName] gs q := hV0
  rw [Ybad.params3] at hA hval
  obtain ⟨v0, d0, rfl, rfl, h0⟩ := trodAll_one hA
  obtain ⟨k, rfl, rfl, rfl, wk⟩ := open_int Ybad.underlying5 (hval 0 5 v0 rfl rfl) h0
  obtain ⟨g, t, cs, fuel, d, p', rfl, hg, ht, hvar, hd, rfl⟩ := trodVars_one hV
  obtain rfl := Option.some.inj (gEx.symm.trans hg)
  obtain rfl := Option.some.inj (tEx.symm.trans ht)
  obtain rfl : cs = cells9 := Option.some.inj (hvar.symm.trans (cells_of_laid hL))
  obtain ⟨rfl, rfl⟩ := DataW.Trod.unique (v := .agg cells9) ⟨fuel, hd⟩ ⟨3, reads_table enc W _⟩
  clear hA0 hV0 hval0
  have hvars : ∀ sp : Nat → Bool, DataW.TrodVars enc Ybad.prog W sp [exName] [tableH] (MemPlace.row ⟨0, 0, none⟩ cells9.size ++ [] ++ []) := fun sp =>
    ⟨0, 26, cells9, 3, [], [], hg, ht, hvar, reads_table enc W sp, rfl, rfl⟩
  refine (walk k (bounds_u8 wk) W (fun j => World.var?_cell hg hvar j)).mono fun e W' ⟨he, hw⟩ => ?_
  subst he; subst hw
  exact ⟨_, rfl, post_of_same (pa := []) hW' (fun _ _ _ => trodAll_mk1 (shut_bool Ybad.underlying4 _)) (fun sp _ => trodAll_mk1 (shut_int Ybad.underlying5 wk)) (fun sp _ => hvars sp) (by simp)
    (World.keptBut_refl _ _) (fun _ => rfl) (ok_one (by kernel_rfl) rfl (okWide_bool_mk Ybad.underlying4 _))⟩

theorem row_holds : Rows.LawS6684BWholeSaid :=
  OpenClaim.holds_of_wide 3 Ybad.f3 rfl rfl rfl rfl rfl rfl rfl ⟨rfl, rfl, rfl, rfl, rfl⟩ rfl rfl rfl rfl rfl (by kernel_rfl) Ybad.func3 (by kernel_rfl)
    (of_decide_eq_true (by kernel_rfl)) (by unfold Func.isWrapper; first | (rw [if_pos (by decide +kernel)]; kernel_rfl) | (rw [if_neg (by decide +kernel)]; exact ⟨rfl, rfl⟩))
    (fun os started H enc _ => lifted os started H enc)

theorem lawS6684BWholeCard_proved : Rows.LawS6684BWholeCardSaid :=
  Claim7.holds_tied_plain_at .later [] [.data] true (true, "e8c09f48af05d4ce26e284b7047ecfdebd396cffe3881583047f86c11d09036e") false
    row_holds (fun _ h => by cases h) (by kernel_rfl) (fun _ h => by cases h) lawS6684BWhole_row_tie rfl ⟨rfl, rfl⟩ (by kernel_rfl) rfl
    (fun f fn hf hfn => by
      obtain rfl : f = 3 := Option.some.inj ((show Ybad.prog.funcNamed Rows.lawS6684BWholeRow.func = some 3 by kernel_rfl).symm.trans hf) |>.symm
      obtain rfl : fn = Ybad.f3 := (Option.some.inj (Ybad.func3.symm.trans hfn)).symm
      exact ⟨by kernel_rfl, fun j t ht => by
        rw [Ybad.params3] at ht
        have hm : t ∈ [5] := by simpa using Array.mem_of_getElem? ht
        have hall : ([5].all fun u => !Ybad.prog.wantsStandIn u) = true := by kernel_rfl
        exact (show Ybad.prog.wantsStandIn t = false by simpa using List.all_eq_true.1 hall t hm)⟩)
    (by kernel_rfl)
end Go.Proofs.YbulkehkcDoor
