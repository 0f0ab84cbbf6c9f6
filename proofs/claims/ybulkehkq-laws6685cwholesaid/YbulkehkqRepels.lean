/- THE CONTRACT of neighbours.repels. -/
import Derived.Test.YbulkehkqLast
namespace Go.Proofs.Ybulkehkq
open Go.RowKit Go.Maps Plain

theorem str_keyOf {v : Value} {kl : Lit} (h : keyOf Yba.prog 9 v = some kl) : ∃ s : ByteArray, v = .string s ∧ kl = .string (key s) ∧ s.size ≤ maxLen := by
  cases v <;> simp [keyOf, mapKey, Yba.underlying9] at h
  rename_i s
  exact ⟨s, rfl, h.2.symm, h.1⟩
theorem lab_size {w : World} {l : Option Nat} {n : Nat} {L : Key → Option Key} (h : LabO w l n L) (k v : Key) (e : L k = some v) : (strOf v).size ≤ maxLen := by
  have hv : v.length ≤ maxLen := by
    rcases h with ⟨_, h0⟩ | ⟨b, _, D, _, _, h3⟩
    · rw [h0] at e; cases e
    · exact h3 k v e
  simpa [strOf, ByteArray.size] using hv
theorem mapD_inj {p q : Option Nat} (h : mapD p = mapD q) : p = q := by
  cases p <;> cases q <;> simp [mapD] at h
  · rfl
  · rw [Int.ofNat_inj.1 h]

set_option maxRecDepth 100000 in
set_option maxHeartbeats 400000 in
theorem repels_nil (bn bs : Nat) (cnt : Key → Key → Int) (lab : Key → Option Key) (w : World) (c3 : w.cell? ⟨bn, 3, none⟩ = some (.map none)) (h0 : ∀ k v, cnt k v = 0) :
    Calls Yba.prog 4 #[.pointer (some ⟨bn, 0, none⟩), .pointer (some ⟨bs, 0, none⟩)] w fun e w' => ∃ res, e = .returned (.bool res) ∧ (res = true ↔ Hits cnt lab) ∧ Below w.heap.size w w' := by
  have hlen : ∀ ty, (Builtin.len_ #[25] ty #[.map none]).run Yba.prog w = .ok (.int .i64 0) w := fun ty => Maps.len_nil Yba.underlying25 ty
  go_enter Yba.func4, Yba.ntmps4
  go_wp2
  go_ret
  refine ⟨false, rfl, ⟨fun h => (by cases h), ?_⟩, Below.refl _ _⟩
  rintro ⟨k, v, _, h⟩
  rw [h0] at h
  omega

set_option maxRecDepth 100000 in
set_option maxHeartbeats 400000 in
theorem repels_map (B bn bs b n n2 : Nat) (l : Option Nat) (F : Key → Option Nat) (G : Nat → Key → Int) (cnt : Key → Key → Int) (lab : Key → Option Key) (w : World)
    (c3 : w.cell? ⟨bn, 3, none⟩ = some (.map (some b))) (c7 : w.cell? ⟨bs, 14, none⟩ = some (.map l)) (hbs : bs < w.heap.size) (hr : Rep B w b n F G cnt) (hl : LabO w l n2 lab) :
    Calls Yba.prog 4 #[.pointer (some ⟨bn, 0, none⟩), .pointer (some ⟨bs, 0, none⟩)] w fun e w' => ∃ res, e = .returned (.bool res) ∧ (res = true ↔ Hits cnt lab) ∧ Below w.heap.size w w' := by
  obtain ⟨D, hD, hF⟩ := hr.outer
  have hlen := fun ty => hD.len Yba.underlying25 ty
  have HD := hid hD
  have HR := hid hr
  have HL := hid hl
  clear hD hr hl
  by_cases hz : ((Maps.size D : Int) == 0) = true
  · go_enter Yba.func4, Yba.ntmps4
    go_wp2
    go_ret
    refine ⟨false, rfl, ⟨fun h => (by cases h), ?_⟩, Below.refl _ _⟩
    rintro ⟨k, v, _, h⟩
    exfalso
    cases hk : F k with
    | none => rw [HR.out.no k v hk] at h; omega
    | some g =>
      have hh := (hF k).1
      rw [hk] at hh
      have hz' : Maps.size D = 0 := by simpa using hz
      obtain ⟨es, rfl⟩ := HD.out.isMap
      have he : es = [] := List.eq_nil_of_length_eq_zero hz'
      subst he
      simp [Maps.has] at hh
  · have hzf : ((Maps.size D : Int) == 0) = false := by simpa using hz
    clear hz
    have HF := hid hF
    clear hF
    go_enter Yba.func4, Yba.ntmps4
    go_wp2_with (at_range; refine wpList_range_own _ rfl (.tmp 18) 25 rfl 9 26 keyLaw Yba.underlying25 mapR b n D rfl HD.out ?_; intro w0 hrg0 hg0 hs0)
    go_frame
    go_loopw [5] (fun _ wr => ∃ left cn, Hid (wr.ranges Yba.prog 9 mapR b w.heap.size n D left cn) ∧ Hid (∀ k, left (.string k) = false → (F k).isSome = true → ∀ v, lab k = some v → cnt k v ≤ 0) ∧ Below w.heap.size w wr) (fun _ wr => wr.rangeLeft b w.heap.size)
    case atStart =>
      refine ⟨_, _, hrg0, fun k h1 h2 => ?_, (Below.refl _ _).grown hg0 (Nat.le_refl _) (by simp)⟩
      rw [(HF.out k).1, h2] at h1
      cases h1
    case round =>
      obtain ⟨left, cn, HRG, HN, hbel⟩ := hrel
      clear hrg0 hg0 hs0
      go_wp2_with (at_next; refine wpList_next_ranges _ rfl (.tmp 19) rfl 9 keyLaw mapR Value.string Value.map (fun key kl hk => by obtain ⟨s, rfl, _⟩ := str_keyOf hk; exact ⟨s, rfl⟩) (fun v y hv => mapR_shape hv) b w.heap.size n D left cn rfl HRG.out ?_ ?_)
      · intro _ hl0
        go_wp2
        go_ret
        refine ⟨false, rfl, ⟨fun h => (by cases h), ?_⟩, hbel⟩
        rintro ⟨k, v, h1, h2⟩
        exfalso
        cases hk : F k with
        | none => rw [HR.out.no k v hk] at h2; omega
        | some g => have := HN.out k (hl0 _) (by rw [hk]; rfl) v h1; omega
      · intro x c kl y ps w1 cn1 hkey hlk hv hat hrg1 hlt hg1 hs1 hen
        obtain ⟨x', ex, rfl, hxs⟩ := str_keyOf hkey
        cases ex
        have hhas := has_true_of_atKey hat
        rw [(HF.out (key x)).1] at hhas
        have hce : c = F (key x) := by
          rw [mapR_mk] at hv
          have h1 := hat .nil
          rw [(HF.out (key x)).2] at h1
          have h2 : mapD c = y := congrArg Prod.fst (Option.some.inj hv)
          exact mapD_inj (h2.trans h1.symm)
        obtain ⟨g, hg⟩ := Option.isSome_iff_exists.1 hhas
        rw [hg] at hce
        subst hce
        have hb1 : Below w.heap.size w w1 := hbel.grown hg1 hbel.size (fun k e => Nat.le_of_eq (Option.some.inj e))
        have k7 : w1.cell? ⟨bs, 14, none⟩ = some (.map l) := (hb1.cell hbs).trans c7
        have hlo := (HL.out.ext hb1).look_ok x hxs
        have HG := hid hg
        have HRG1 := hid hrg1
        have HH := hid hhas
        have hlt' : cn1 < cn := hlt
        clear hkey hlk hv hat hrg1 hg1 hg hhas
        cases hlab : lab (key x) with
        | none =>
          rw [hlab] at hlo
          have hlo' : (Instr.lookup 29 (.map l) (.string x) true).run Yba.prog w1 = .ok (.tuple #[.string (strOf []), .bool false]) w1 := hlo
          have HLB := hid hlab
          clear hlo hlab
          go_wp2
          go_roundw
          case rel =>
            refine ⟨_, _, HRG1.out, fun k h1 h2 v hv => ?_, hb1⟩
            by_cases e : k = key x
            · rw [e, HLB.out] at hv; cases hv
            · have hne : Lit.string k ≠ Lit.string (key x) := fun h => e (by injection h)
              refine HN.out k ?_ h2 v hv
              simpa [sameKey_ne hne] using h1
          case measure => rw [HRG1.out.left_eq, HRG.out.left_eq]; omega
        | some v =>
          rw [hlab] at hlo
          have hlo' : (Instr.lookup 29 (.map l) (.string x) true).run Yba.prog w1 = .ok (.tuple #[.string (strOf v), .bool true]) w1 := hlo
          have HLB := hid hlab
          clear hlo hlab
          have hvs : (strOf v).size ≤ maxLen := by
            have hl1 := HL.out.ext hb1
            exact lab_size hl1 (key x) v HLB.out
          have hin := ((HR.out.ext hb1).inner _ g HG.out).look (strOf v) hvs
          rw [key_strOf] at hin
          have hcn := HR.out.yes (key x) v g HG.out
          have HCN := hid hcn
          clear hcn
          obtain ⟨q, hq⟩ : ∃ q, q = G g v := ⟨_, rfl⟩
          rw [← hq] at hin
          have HQ := hid hq
          clear hq
          by_cases hp : 0 < q
          · go_wp2
            go_ret
            exact ⟨true, rfl, ⟨fun _ => ⟨key x, v, HLB.out, by rw [HCN.out, ← HQ.out]; exact hp⟩, fun _ => rfl⟩, hb1⟩
          · go_wp2
            go_roundw
            case rel =>
              refine ⟨_, _, HRG1.out, fun k h1 h2 v' hv => ?_, hb1⟩
              by_cases e : k = key x
              · rw [e, HLB.out] at hv
                obtain rfl := Option.some.inj hv
                rw [e, HCN.out, ← HQ.out]; omega
              · have hne : Lit.string k ≠ Lit.string (key x) := fun h => e (by injection h)
                refine HN.out k ?_ h2 v' hv
                simpa [sameKey_ne hne] using h1
            case measure => rw [HRG1.out.left_eq, HRG.out.left_eq]; omega
end Go.Proofs.Ybulkehkq
