/- THE WALK of LawS6685CWhole. -/
import Derived.Test.YbulkehkqRepels
import Derived.Deep.Cut
import Derived.Deep.CutRange
import Derived.Deep.CutBlock
namespace Go.Proofs.Ybulkehkq
open Go.RowKit Go.Maps Plain

structure Strs (w : World) (a : Option Addr) (n : Nat) (Kx : Nat → ByteArray) : Prop where
  cell : ∀ i, i < n → ∃ b off, a = some ⟨b, off, none⟩ ∧ b < w.heap.size ∧ w.cell? ⟨b, off + i, none⟩ = some (.string (Kx i))
  ks : ∀ i, i < n → (Kx i).size ≤ maxLen
structure Labs (w : World) (a : Option Addr) (n : Nat) (Lk Lv : Nat → ByteArray) : Prop where
  cell : ∀ i, i < n → ∃ b off, a = some ⟨b, off, none⟩ ∧ b < w.heap.size ∧ w.cell? ⟨b, off + i * 2, none⟩ = some (.string (Lk i)) ∧ w.cell? ⟨b, off + i * 2 + 1, none⟩ = some (.string (Lv i))
  ks : ∀ i, i < n → (Lk i).size ≤ maxLen
  vs : ∀ i, i < n → (Lv i).size ≤ maxLen

theorem repels_any (B bn bs n n2 : Nat) (r l : Option Nat) (cnt : Key → Key → Int) (lab : Key → Option Key) (w : World)
    (c3 : w.cell? ⟨bn, 3, none⟩ = some (.map r)) (c7 : w.cell? ⟨bs, 14, none⟩ = some (.map l)) (hbs : bs < w.heap.size) (hr : RepO B w r n cnt) (hl : LabO w l n2 lab) :
    Calls Yba.prog 4 #[.pointer (some ⟨bn, 0, none⟩), .pointer (some ⟨bs, 0, none⟩)] w fun e w' => ∃ res, e = .returned (.bool res) ∧ (res = true ↔ Hits cnt lab) ∧ Below w.heap.size w w' := by
  rcases hr with ⟨rfl, h0⟩ | ⟨b, F, G, rfl, h⟩
  · exact repels_nil bn bs cnt lab w c3 h0
  · exact repels_map B bn bs b n n2 l F G cnt lab w c3 c7 hbs h hl

abbrev nbO (r : Option Nat) : Obj := .cells #[.slice none 0 0, .slice none 0 0, .slice none 0 0, .map r] 35
abbrev nsO (l : Option Nat) : Obj := .cells #[.bool false, .bool false, .pointer none, .slice none 0 0, .slice none 0 0, .int .i64 0, .int .i64 0, .int .i64 0, .int .i64 0, .int .i64 0, .int .i64 0, .int .i64 0, .int .i64 0, .string { data := #[] }, .map l, .slice none 0 0] 43
theorem boxes (wL : World) (r l : Option Nat) : Below wL.heap.size wL ((wL.alloc (nbO r)).alloc (nsO l)) ∧ ((wL.alloc (nbO r)).alloc (nsO l)).cell? ⟨wL.heap.size, 3, none⟩ = some (.map r) ∧
    ((wL.alloc (nbO r)).alloc (nsO l)).cell? ⟨wL.heap.size + 1, 14, none⟩ = some (.map l) ∧ wL.heap.size + 1 < ((wL.alloc (nbO r)).alloc (nsO l)).heap.size := by
  have hz : (wL.alloc (nbO r)).heap.size = wL.heap.size + 1 := by simp
  have h1 : ((wL.alloc (nbO r)).alloc (nsO l)).heap[wL.heap.size]? = some (nbO r) := (Below.heap_alloc _ _ _ (by omega)).trans (heap_alloc_new wL _)
  have h2 : ((wL.alloc (nbO r)).alloc (nsO l)).heap[wL.heap.size + 1]? = some (nsO l) := by rw [← hz]; exact heap_alloc_new _ _
  refine ⟨((Below.refl _ _).alloc (Nat.le_refl _) _).alloc (by omega) _, ?_, ?_, lt_of_block h2⟩
  · rw [cell_of_row _ _ 3 _ _ _ h1]; rfl
  · rw [cell_of_row _ _ 14 _ _ _ h2]; rfl
theorem Labs.ext {w w' : World} {a : Option Addr} {n : Nat} {Lk Lv : Nat → ByteArray} (h : Labs w a n Lk Lv) (hb : Below w.heap.size w w') : Labs w' a n Lk Lv :=
  ⟨fun i hi => by
    obtain ⟨b, off, e, hlt, h0, h1⟩ := h.cell i hi
    exact ⟨b, off, e, Nat.lt_of_lt_of_le hlt hb.size, (hb.cell hlt).trans h0, (hb.cell hlt).trans h1⟩, h.ks, h.vs⟩
theorem lab_upd (Lk Lv : Nat → ByteArray) (m : Nat) : upd (labTo Lk Lv m) (key (Lk m)) (some (key (Lv m))) = labTo Lk Lv (m + 1) := by
  funext k
  by_cases e : k = key (Lk m)
  · rw [e, upd_same]; exact (if_pos rfl).symm
  · rw [upd_other _ _ e]; exact (if_neg (fun x => e x.symm)).symm
theorem bstep {w W w3 : World} {B : Nat} (h : Below B w W) (hB : B ≤ W.heap.size) (k : Below W.heap.size W w3) : Below B w w3 := h.trans (k.mono hB)

theorem Rep.newKey2 {B b n : Nat} {wr W2 : World} {F : Key → Option Nat} {G : Nat → Key → Int} {cnt : Key → Key → Int} {k0 : Key} {x0 x1 x2 : Value} (h : Rep B (wr.alloc (.cells #[x0, x1, x2] 28)) b n F G cnt) (hf : F k0 = none)
    (ho : OMap W2 b (n + 1) (upd F k0 (some (wr.heap.size + 1)))) (hg : ((wr.alloc (.cells #[x0, x1, x2] 28)).alloc (.map #[] 0)).grownBy W2 (some b)) :
    (∃ G', Rep B W2 b (n + 1) (upd F k0 (some (wr.heap.size + 1))) G' cnt) ∧ W2.cell? ⟨wr.heap.size, 0, none⟩ = some x0 ∧ W2.cell? ⟨wr.heap.size, 1, none⟩ = some x1 ∧ W2.cell? ⟨wr.heap.size, 2, none⟩ = some x2 ∧
      Below (wr.alloc (.cells #[x0, x1, x2] 28)).heap.size (wr.alloc (.cells #[x0, x1, x2] 28)) ((wr.alloc (.cells #[x0, x1, x2] 28)).alloc (.map #[] 0)) := by
  have hsz : (wr.alloc (.cells #[x0, x1, x2] 28)).heap.size = wr.heap.size + 1 := by simp
  have hbk : (wr.alloc (.cells #[x0, x1, x2] 28)).heap[wr.heap.size]? = some (.cells #[x0, x1, x2] 28 (0, 0)) := heap_alloc_new _ _
  have hne : wr.heap.size ≠ b := by
    intro e
    obtain ⟨D, ⟨es, clock, hh, _⟩, _⟩ := h.outer
    rw [← e, hbk] at hh
    simp at hh
  have h2 : W2.heap[wr.heap.size]? = some (.cells #[x0, x1, x2] 28 (0, 0)) := by
    rw [hg.block _ (by simp; omega) (fun e => hne (Option.some.inj e)), Below.heap_alloc _ _ _ (by omega)]
    exact hbk
  rw [← hsz] at ho ⊢
  refine ⟨⟨_, h.newKey k0 hf ho hg⟩, ?_, ?_, ?_, (Below.refl _ _).alloc (Nat.le_refl _) _⟩
  · rw [show (⟨wr.heap.size, 0, none⟩ : Addr) = ⟨wr.heap.size, 0, none⟩ from rfl, cell_of_row W2 _ 0 _ _ _ h2]; rfl
  · rw [cell_of_row W2 _ 1 _ _ _ h2]; rfl
  · rw [cell_of_row W2 _ 2 _ _ _ h2]; rfl

theorem last_box (a : Option Addr) (n cap i : Nat) (Ek Ev : Nat → ByteArray) (Ec : Nat → Int) (wX : World) (s v : ByteArray) (c : Int) (hn : n ≤ 4096) (hi : i < n) (hE : Ents wX a n Ek Ev Ec) :
    Calls Yba.prog 5 #[.slice a n cap, .int .i64 i] (wX.alloc (.cells #[.string s, .string v, .int .i64 c] 28)) fun e wl => ∃ res, e = .returned (.bool res) ∧ Hid (res = true ↔ Last Ek Ev n i) ∧ Below wX.heap.size wX wl ∧ wX.heap.size < wl.heap.size ∧
      wl.cell? ⟨wX.heap.size, 0, none⟩ = some (.string s) ∧ wl.cell? ⟨wX.heap.size, 1, none⟩ = some (.string v) ∧ wl.cell? ⟨wX.heap.size, 2, none⟩ = some (.int .i64 c) := by
  have hb1 : Below wX.heap.size wX (wX.alloc (.cells #[.string s, .string v, .int .i64 c] 28)) := (Below.refl _ _).alloc (Nat.le_refl _) _
  refine (last_any a n cap i Ek Ev Ec _ hn hi (hE.ext hb1)).mono ?_
  rintro e wl ⟨res, rfl, hres, hst⟩
  have h2 : wl.heap[wX.heap.size]? = some (.cells #[.string s, .string v, .int .i64 c] 28) := by rw [hst.heap]; exact heap_alloc_new _ _
  refine ⟨res, rfl, hres, bstep hb1 hb1.size (hst.below _), lt_of_block h2, ?_, ?_, ?_⟩
  · rw [cell_of_row wl _ 0 _ _ _ h2]; rfl
  · rw [cell_of_row wl _ 1 _ _ _ h2]; rfl
  · rw [cell_of_row wl _ 2 _ _ _ h2]; rfl
theorem box2 (wX W : World) (s v : ByteArray) (h : Still (wX.alloc (.cells #[.string s, .string v] 31)) W) :
    W.cell? ⟨wX.heap.size, 0, none⟩ = some (.string s) ∧ W.cell? ⟨wX.heap.size, 1, none⟩ = some (.string v) ∧ Below wX.heap.size wX W := by
  have h2 : W.heap[wX.heap.size]? = some (.cells #[.string s, .string v] 31) := by rw [h.heap]; exact heap_alloc_new _ _
  refine ⟨?_, ?_, bstep ((Below.refl _ _).alloc (Nat.le_refl _) _) (by simp) (h.below _)⟩
  · rw [cell_of_row W _ 0 _ _ _ h2]; rfl
  · rw [cell_of_row W _ 1 _ _ _ h2]; rfl
theorem hit_not {Ek Ev : Nat → ByteArray} {Ec : Nat → Int} {n m : Nat} {lab : Key → Option Key} (h : ∀ j, j < m → ¬ HitAt Ek Ev Ec n lab j) (hm : ¬ HitAt Ek Ev Ec n lab m) : ∀ j, j < m + 1 → ¬ HitAt Ek Ev Ec n lab j := by
  intro j hj
  by_cases e : j = m
  · subst e; exact hm
  · exact h j (by omega)

set_option maxRecDepth 100000 in
set_option maxHeartbeats 4000000 in
theorem law_walk (ae ak al : Option Addr) (n0 ce n1 ck n2 cl : Nat) (nr : Bool) (Ek Ev : Nat → ByteArray) (Ec : Nat → Int) (Kx Lk Lv : Nat → ByteArray) (w : World) (hn : n0 + n1 + n2 ≤ 4096)
    (he : Ents w ae n0 Ek Ev Ec) (hk : Strs w ak n1 Kx) (hl : Labs w al n2 Lk Lv) :
    Calls Yba.prog 3 #[.slice ae n0 ce, .slice ak n1 ck, .slice al n2 cl, .bool nr] w fun e w' => e = .returned (.bool true) ∧ Below w.heap.size w w' := by
  have hmm := @run_makeMap Yba.prog
  have q25 : ∀ (w : World) (r : Option Nat), (binOp .eql 25 (.map r) (.map none)).run Yba.prog w = .ok (.bool r.isNone) w := fun w r => run_eql_map_nil w _ _ _ r Yba.underlying25
  have q26 : ∀ (w : World) (r : Option Nat), (binOp .eql 26 (.map r) (.map none)).run Yba.prog w = .ok (.bool r.isNone) w := fun w r => run_eql_map_nil w _ _ _ r Yba.underlying26
  have q29 : ∀ (w : World) (r : Option Nat), (binOp .eql 29 (.map r) (.map none)).run Yba.prog w = .ok (.bool r.isNone) w := fun w r => run_eql_map_nil w _ _ _ r Yba.underlying29
  have HE := hid he
  have HK := hid hk
  have HLB := hid hl
  clear he hk hl
  go_enter Yba.func3, Yba.ntmps3
  go_upto_region 4 with (fail)
  obtain ⟨mk, hmk⟩ : ∃ mk : Bool, mk = (!nr || decide ((0 : Int) < (n0 : Int) + (n1 : Int))) := ⟨_, rfl⟩
  have HMK := hid hmk
  clear hmk
  go_cut [52] from 43 (fun s wc => s = .bool mk ∧ w = wc)
  case first =>
    cases nr
    · go_wp2
      go_meet
      case rel => exact ⟨by rw [HMK.out]; rfl, rfl⟩
    · go_wp2
      go_meet
      case rel => exact ⟨by rw [HMK.out]; rfl, rfl⟩
  case rest =>
  obtain ⟨rfl, rfl⟩ := hcut
  go_upto_if 52 with (fail)
  go_cut [9] from 43 (fun rv w2 => ∃ r : Option Nat, rv = .map r ∧ Hid (RepO w.heap.size w2 r 0 (fun _ _ => 0)) ∧ Below w.heap.size w w2 ∧ Hid (r = none → n0 = 0 ∧ n1 = 0))
  case first =>
    cases mk
    · go_wp2
      go_meet
      case rel =>
        refine ⟨none, rfl, .inl ⟨rfl, fun _ _ => rfl⟩, Below.refl _ _, fun _ => ?_⟩
        have h := HMK.out
        cases nr <;> simp at h
        omega
    · go_wp2
      go_meet
      case rel => exact ⟨some w.heap.size, rfl, .inr ⟨_, _, _, rfl, Rep.made w⟩, (Below.refl _ _).alloc (Nat.le_refl _) _, fun h => by cases h⟩
  case rest =>
    obtain ⟨r, rfl, HR, hbel, HN⟩ := hcut
    have HN0 := HN
    clear HMK
    go_wp2
    go_loopw [56] (fun i wr => ∃ m n : Nat, m ≤ n1 ∧ i = .int .i64 m ∧ n ≤ m ∧ Hid (RepO w.heap.size wr r n (fun _ _ => 0)) ∧ Below w.heap.size w wr) (fun i _ => n1 - (intOf i).toNat)
    case atStart => exact ⟨0, 0, Nat.zero_le _, rfl, Nat.le_refl _, HR, hbel⟩
    case round =>
      obtain ⟨m, n, hm, rfl, hnm, HRr, hbr⟩ := hrel
      by_cases hlt : m < n1
      · as_aux_lemma =>
        obtain ⟨b, F, G, hrb, hrep⟩ : ∃ b F G, r = some b ∧ Rep w.heap.size wr b n F G (fun _ _ => 0) := by
          rcases HRr.out with ⟨h0, _⟩ | h
          · have := HN.out h0; omega
          · exact h
        subst hrb
        obtain ⟨bk, ok, rfl, hbk, hck⟩ := HK.out.cell m hlt
        have hs := HK.out.ks m hlt
        have hcx : wr.cell? ⟨bk, ok + m, none⟩ = some (.string (Kx m)) := (hbr.cell hbk).trans hck
        obtain ⟨s, hse⟩ : ∃ s, s = Kx m := ⟨_, rfl⟩
        rw [← hse] at hs hcx
        clear hse hck
        have hlk := hrep.outer.look s hs
        have HRP := hid hrep
        clear hrep
        cases hf : F (key s) with
        | some g =>
          rw [hf] at hlk
          clear hf
          go_wp2
          go_roundw
          case rel => exact ⟨m + 1, n, by omega, by go_num, by omega, HRr, hbr⟩
          case measure => simp [intOf]; omega
        | none =>
          rw [hf] at hlk
          have HF := hid hf
          clear hf
          have hbl := HRP.out.outer.lt
          have HO := hid (HRP.out.outer.kept (w' := wr.alloc (.map #[] 0)) (Below.heap_alloc wr _ _ hbl))
          go_wp2_with (at_mapUpdate; refine ostore rfl (.tmp 64) (.tmp 65) (.tmp 66) rfl b n F HO.out (by omega) s hs wr.heap.size rfl rfl rfl ?_; intro W2 ho2 hg2)
          go_roundw
          case rel =>
            refine ⟨m + 1, n + 1, by omega, by go_num, by omega, .inr ⟨b, _, _, rfl, HRP.out.newKey (key s) HF.out ho2 hg2⟩, ?_⟩
            exact (hbr.alloc hbr.size _).grown hg2 (by have := hbr.size; simp; omega) (fun k e => by have := HRP.out.lo; have := Option.some.inj e; omega)
          case measure => simp [intOf]; omega
      · clear HN
        go_wp2
        go_loopw [70] (fun i wr => ∃ m n : Nat, m ≤ n0 ∧ i = .int .i64 m ∧ n ≤ n1 + 2 * m ∧ Hid (RepO w.heap.size wr r n (cntTo Ek Ev Ec m)) ∧ Below w.heap.size w wr) (fun i _ => n0 - (intOf i).toNat)
        case atStart => exact ⟨0, n, Nat.zero_le _, rfl, by omega, HRr, hbr⟩
        case round =>
          obtain ⟨m, n, hm, rfl, hnm, HRr, hbr⟩ := hrel
          by_cases hlt : m < n0
          · as_aux_lemma =>
            obtain ⟨b, F, G, hrb, hrep⟩ : ∃ b F G, r = some b ∧ Rep w.heap.size wr b n F G (cntTo Ek Ev Ec m) := by
              rcases HRr.out with ⟨h0, _⟩ | h
              · have := HN0.out h0; omega
              · exact h
            subst hrb
            obtain ⟨bk, ok, rfl, hbk, hc0, hc1, hc2⟩ := HE.out.cell m hlt
            have hs := HE.out.ks m hlt
            have hvs := HE.out.vs m hlt
            have hcw := HE.out.cs m hlt
            have x0 := (hbr.cell hbk).trans hc0
            have x1 := (hbr.cell hbk).trans hc1
            have x2 := (hbr.cell hbk).trans hc2
            obtain ⟨s, hse⟩ : ∃ s, s = Ek m := ⟨_, rfl⟩
            obtain ⟨v, hve⟩ : ∃ v, v = Ev m := ⟨_, rfl⟩
            obtain ⟨c, hce⟩ : ∃ c, c = Ec m := ⟨_, rfl⟩
            rw [← hse] at hs x0
            rw [← hve] at hvs x1
            rw [← hce] at hcw x2
            have hcnt : (fun k v' => if key s = k ∧ key v = v' then c else cntTo Ek Ev Ec m k v') = cntTo Ek Ev Ec (m + 1) := by
              funext k v'; rw [hse, hve, hce]; rfl
            have HCN := hid hcnt
            clear hse hve hce hc0 hc1 hc2 hcnt
            -- the entry's copy
            obtain ⟨bx, hbx⟩ : ∃ bx, bx = Obj.cells #[.string s, .string v, .int .i64 c] 28 := ⟨_, rfl⟩
            have hb1 : Below wr.heap.size wr (wr.alloc bx) := (Below.refl _ _).alloc (Nat.le_refl _) _
            have HRP := hid (hrep.ext hb1)
            have hbr1 := hid (hbr.alloc hbr.size bx)
            rw [hbx] at HRP hbr1
            clear hrep hb1 hbx
            have hlk := HRP.out.outer.look s hs
            have hbl := HRP.out.outer.lt
            cases hf : F (key s) with
            | some g =>
              rw [hf] at hlk
              have HF := hid hf
              clear hf
              go_wp2_with (at_mapUpdate; refine nstore rfl (.tmp 86) (.tmp 88) (.tmp 90) rfl g n (G g) (HRP.out.inner _ g HF.out) (by omega) v hvs c hcw rfl rfl rfl ?_; intro W2 ho2 hg2)
              go_roundw
              case rel =>
                refine ⟨m + 1, n + 1, by omega, by go_num, by omega, .inr ⟨b, _, _, rfl, HCN.out ▸ HRP.out.setCnt (key s) (key v) c g HF.out ho2 hg2⟩, ?_⟩
                exact hbr1.out.grown hg2 hbr1.out.size (fun k e => by have := HRP.out.ilo _ g HF.out; have := Option.some.inj e; omega)
              case measure => simp [intOf]; omega
            | none =>
              rw [hf] at hlk
              have HF := hid hf
              clear hf
              have HO := hid (HRP.out.outer.kept (w' := (wr.alloc (.cells #[.string s, .string v, .int .i64 c] 28)).alloc (.map #[] 0)) (Below.heap_alloc _ _ _ hbl))
              go_wp2_with (first
                | (at_mapUpdate; refine ostore rfl (.tmp 79) (.tmp 81) (.tmp 82) rfl b n F HO.out (by omega) s hs (wr.heap.size + 1) rfl rfl rfl ?_; intro W2 ho2 hg2; obtain ⟨⟨G2, hrep2⟩, y0, y1, y2, hbw⟩ := HRP.out.newKey2 HF.out ho2 hg2; have hlk2 := hrep2.outer.look s hs; rw [upd_same] at hlk2; have HR2 := hid hrep2; have HBW := hid hbw; clear hrep2 hbw)
                | (at_mapUpdate; refine nstore rfl (.tmp 86) (.tmp 88) (.tmp 90) rfl (wr.heap.size + 1) (n + 1) (G2 (wr.heap.size + 1)) (HR2.out.inner (key s) _ (upd_same _ _ _)) (by omega) v hvs c hcw rfl rfl rfl ?_; intro W3 ho3 hg3))
              go_roundw
              case rel =>
                refine ⟨m + 1, n + 1 + 1, by omega, by go_num, by omega, .inr ⟨b, _, _, rfl, HCN.out ▸ HR2.out.setCnt (key s) (key v) c _ (upd_same _ _ _) ho3 hg3⟩, ?_⟩
                have z1 := hbr1.out.size
                have z2 := HBW.out.size
                have z3 := hg2.size
                exact ((hbr1.out.trans (HBW.out.mono z1)).grown hg2 (by omega) (fun k e => by have := HRP.out.lo; have := Option.some.inj e; omega)).grown hg3 (by omega) (fun k e => by have := hbr.size; have := Option.some.inj e; omega)
              case measure => simp [intOf]; omega
          · obtain rfl : n0 = m := by omega
            obtain ⟨wA, hwA⟩ : ∃ wA, wA = wr := ⟨_, rfl⟩
            subst hwA
            clear hlt
            go_upto_if 94 with (fail)
            go_cut [14] from 92 (fun lv w2 => ∃ (l : Option Nat) (nl : Nat), lv = .map l ∧ Hid (LabO w2 l nl (labTo Lk Lv n2)) ∧ Below wA.heap.size wA w2)
            case first =>
              clear_value *
              as_aux_lemma =>
              cases h2 : decide (0 < n2) with
              | true =>
                go_wp2
                go_loopw [98] (fun i wx => ∃ m : Nat, m ≤ n2 ∧ i = .int .i64 m ∧ Hid (LMap wx wA.heap.size m (labTo Lk Lv m)) ∧ Below wA.heap.size wA wx) (fun i _ => n2 - (intOf i).toNat)
                case atStart => exact ⟨0, Nat.zero_le _, rfl, LMap.made wA, (Below.refl _ _).alloc (Nat.le_refl _) _⟩
                case round =>
                  obtain ⟨q, hq, rfl, HLm, hbx⟩ := hrel
                  by_cases hlt : q < n2
                  · obtain ⟨bk, ok, rfl, hbk, hc0, hc1⟩ := HLB.out.cell q hlt
                    have hs := HLB.out.ks q hlt
                    have hvs := HLB.out.vs q hlt
                    have hbw := bstep hbr hbr.size hbx
                    have x0 := (hbw.cell hbk).trans hc0
                    have x1 := (hbw.cell hbk).trans hc1
                    have HLN := hid (lab_upd Lk Lv q)
                    obtain ⟨s, hse⟩ : ∃ s, s = Lk q := ⟨_, rfl⟩
                    obtain ⟨v, hve⟩ : ∃ v, v = Lv q := ⟨_, rfl⟩
                    rw [← hse] at hs x0 HLN
                    rw [← hve] at hvs x1 HLN
                    clear hse hve hc0 hc1 hbw
                    have HO := hid (HLm.out.kept (w' := wr.alloc (.cells #[.string s, .string v] 31)) (Below.heap_alloc wr _ _ HLm.out.lt))
                    go_wp2_with (at_mapUpdate; refine lstore rfl (.tmp 102) (.tmp 104) (.tmp 106) rfl wA.heap.size q (labTo Lk Lv q) HO.out (by omega) s hs v hvs rfl rfl rfl ?_; intro W2 ho2 hg2)
                    go_roundw
                    case measure => simp [intOf]; omega
                    case rel =>
                      rw [HLN.out] at ho2
                      have hfin := (hbx.alloc hbx.size (.cells #[.string s, .string v] 31)).grown hg2 (by have := hbx.size; simp; omega) (fun k e => Nat.le_of_eq (Option.some.inj e))
                      exact ⟨q + 1, by omega, by go_num, ho2, hfin⟩
                  · have hq' : q = n2 := by omega
                    subst hq'
                    go_wp2
                    go_meet
                    case rel => exact ⟨_, _, rfl, .inr ⟨_, rfl, HLm.out⟩, hbx⟩
              | false =>
                have h20 : n2 = 0 := by simpa using h2
                subst h20
                go_wp2
                go_meet
                case rel => exact ⟨none, 0, rfl, .inl ⟨rfl, fun _ => rfl⟩, Below.refl _ _⟩
            case rest =>
              obtain ⟨l, nl, rfl, HLO, hbL⟩ := hcut
              obtain ⟨wL, hwL⟩ : ∃ wL, wL = wc := ⟨_, rfl⟩
              subst hwL
              have HRL := hid (HRr.out.ext hbL)
              have hbl := bstep hbr hbr.size hbL
              clear HR HRr hbel hbr hbL HN0
              go_wp2_with fail
              obtain ⟨hbN, cN3, cN14, hzN⟩ := boxes wL r l
              refine (repels_any w.heap.size wL.heap.size (wL.heap.size + 1) n nl r l (cntTo Ek Ev Ec n0) (labTo Lk Lv n2) _ cN3 cN14 hzN (HRL.out.ext hbN) (HLO.out.ext hbN)).mono ?_
              rintro e wR ⟨got, rfl, hgot, hbR⟩
              have HRR := hid ((HRL.out.ext hbN).ext hbR)
              have HLR := hid ((HLO.out.ext hbN).ext hbR)
              have d3 : wR.cell? ⟨wL.heap.size, 3, none⟩ = some (.map r) := (hbR.cell (p := ⟨wL.heap.size, 3, none⟩) (Nat.lt_trans (Nat.lt_succ_self _) hzN)).trans cN3
              have d14 : wR.cell? ⟨wL.heap.size + 1, 14, none⟩ = some (.map l) := (hbR.cell (p := ⟨wL.heap.size + 1, 14, none⟩) hzN).trans cN14
              have hzR : wL.heap.size + 1 < wR.heap.size := Nat.lt_of_lt_of_le hzN hbR.size
              have hbw := bstep (bstep hbl hbl.size hbN) (Nat.le_trans hbl.size hbN.size) hbR
              have HGOT := hid hgot
              clear hgot hbN cN3 cN14 hzN hbR HRL HLO hbl
              go_upto_block 6 with (fail)
              go_cut [20] from 117 (fun wt w2 => ∃ want : Bool, wt = .bool want ∧ Hid (want = true ↔ ∃ i, i < n0 ∧ HitAt Ek Ev Ec n0 (labTo Lk Lv n2) i) ∧ Below wR.heap.size wR w2)
              case first =>
                clear_value *
                as_aux_lemma =>
                go_wp2_with fail
                go_loopw [20, 119] (fun wt i wx => ∃ m : Nat, m ≤ n0 ∧ wt = .bool false ∧ i = .int .i64 m ∧ Hid (∀ j, j < m → ¬ HitAt Ek Ev Ec n0 (labTo Lk Lv n2) j) ∧ Below wR.heap.size wR wx) (fun _ i _ => n0 - (intOf i).toNat)
                case atStart => exact ⟨0, Nat.zero_le _, rfl, rfl, fun j h => absurd h (Nat.not_lt_zero _), Below.refl _ _⟩
                case round =>
                  obtain ⟨m, hm, rfl, rfl, HNO, hbx⟩ := hrel
                  obtain ⟨wX, hwX⟩ : ∃ wX, wX = wr := ⟨_, rfl⟩
                  subst hwX
                  by_cases hlt : m < n0
                  · obtain ⟨bk, ok, rfl, hbk, hc0, hc1, hc2⟩ := HE.out.cell m hlt
                    have hbX := bstep hbw hbw.size hbx
                    have x0 := (hbX.cell hbk).trans hc0
                    have x1 := (hbX.cell hbk).trans hc1
                    have x2 := (hbX.cell hbk).trans hc2
                    have hs := HE.out.ks m hlt
                    have hvs := HE.out.vs m hlt
                    have hcw := HE.out.cs m hlt
                    obtain ⟨s, hse⟩ : ∃ s, s = Ek m := ⟨_, rfl⟩
                    obtain ⟨v, hve⟩ : ∃ v, v = Ev m := ⟨_, rfl⟩
                    obtain ⟨c, hce⟩ : ∃ c, c = Ec m := ⟨_, rfl⟩
                    rw [← hse] at hs x0
                    rw [← hve] at hvs x1
                    rw [← hce] at hcw x2
                    have HSE := hid hse
                    have HVE := hid hve
                    have HCE := hid hce
                    clear hse hve hce hc0 hc1 hc2
                    by_cases hc : c ≤ 0
                    · go_wp2
                      go_roundw
                      case rel =>
                        refine ⟨m + 1, by omega, rfl, by go_num, fun j hj hh => ?_, hbx.alloc hbx.size _⟩
                        by_cases e : j = m
                        · subst e; have := hh.1; have := HCE.out; omega
                        · exact HNO.out j (by omega) hh
                      case measure => simp [intOf]; omega
                    · have hEX := hid (HE.out.ext hbX)
                      go_wp2_with fail
                      refine (last_box (some ⟨bk, ok, none⟩) n0 ce m Ek Ev Ec wX s v c (by omega) hlt hEX.out).mono ?_
                      rintro e wl ⟨res, rfl, HRES, hbl, hzl, y0, y1, y2⟩
                      clear hEX
                      cases res with
                      | false =>
                        go_wp2
                        go_roundw
                        case rel =>
                          exact ⟨m + 1, by omega, rfl, by go_num, hit_not HNO.out (fun hh => absurd (HRES.out.2 hh.2.1) (by decide)), bstep hbx hbx.size hbl⟩
                        case measure => simp [intOf]; omega
                      | true =>
                        go_wp2_with fail
                        go_loopw [23, 24, 133] (fun fv vv j wy => ∃ (t : Nat) (f : Bool) (u : ByteArray), t ≤ n2 ∧ fv = .bool f ∧ vv = .string u ∧ u.size ≤ maxLen ∧ j = .int .i64 t ∧ Hid (labTo Lk Lv t (key (Ek m)) = if f then some (key u) else none) ∧ Below wl.heap.size wl wy) (fun _ _ j _ => n2 - (intOf j).toNat)
                        case atStart => exact ⟨0, false, _, Nat.zero_le _, rfl, rfl, by decide, rfl, rfl, Below.refl _ _⟩
                        case round =>
                          obtain ⟨t, f, u, ht, rfl, rfl, hu, rfl, HLT, hby⟩ := hrel
                          have z0 := (hby.cell (p := ⟨wX.heap.size, 0, none⟩) hzl).trans y0
                          have z1 := (hby.cell (p := ⟨wX.heap.size, 1, none⟩) hzl).trans y1
                          by_cases htn : t < n2
                          · obtain ⟨bt, ot, rfl, hbt, ht0, ht1⟩ := HLB.out.cell t htn
                            have hbY := bstep (bstep hbX hbX.size hbl) (Nat.le_trans hbX.size hbl.size) hby
                            have k0 := (hbY.cell hbt).trans ht0
                            have k1 := (hbY.cell hbt).trans ht1
                            have hlk := HLB.out.ks t htn
                            have hlv := HLB.out.vs t htn
                            clear ht0 ht1
                            have zA : (wr.alloc (.cells #[.string (Lk t), .string (Lv t)] 31)).cell? ⟨wX.heap.size, 0, none⟩ = some (.string s) := ((hby.alloc hby.size _).cell (p := ⟨wX.heap.size, 0, none⟩) hzl).trans y0
                            clear z0 z1 y0 y1 y2
                            by_cases hk : ((Lk t).toList == s.toList) = true
                            · go_wp2
                              go_roundw
                              case rel =>
                                refine ⟨t + 1, true, Lv t, by omega, rfl, rfl, hlv, by go_num, ?_, hby.alloc hby.size _⟩
                                rw [eq_key] at hk
                                rw [← HSE.out]
                                exact if_pos (of_decide_eq_true hk)
                              case measure => simp [intOf]; omega
                            · have hkf : ((Lk t).toList == s.toList) = false := by simpa using hk
                              clear hk
                              go_wp2
                              go_roundw
                              case rel =>
                                refine ⟨t + 1, f, u, by omega, rfl, rfl, hu, by go_num, ?_, hby.alloc hby.size _⟩
                                rw [eq_key] at hkf
                                have e1 := HLT.out
                                rw [← HSE.out] at e1 ⊢
                                exact (if_neg (of_decide_eq_false hkf)).trans e1
                              case measure => simp [intOf]; omega
                          · have htt : t = n2 := by omega
                            subst htt
                            cases f with
                            | false =>
                              go_wp2
                              go_roundw
                              case rel =>
                                refine ⟨m + 1, by omega, rfl, by go_num, hit_not HNO.out (fun hh => ?_), bstep (bstep hbx hbx.size hbl) (Nat.le_trans hbx.size hbl.size) hby⟩
                                have := hh.2.2
                                rw [HLT.out] at this
                                cases this
                              case measure => simp [intOf]; omega
                            | true =>
                              by_cases hk : (u.toList == v.toList) = true
                              · have HHIT : Hid (HitAt Ek Ev Ec n0 (labTo Lk Lv t) m) := by
                                  have hk' := hk
                                  rw [eq_key] at hk'
                                  refine ⟨by have := HCE.out; omega, HRES.out.1 (by first | exact trivial | rfl), ?_⟩
                                  rw [HLT.out, ← HVE.out, if_pos rfl, of_decide_eq_true hk']
                                go_wp2
                                go_meet
                                case rel => exact ⟨true, rfl, ⟨fun _ => ⟨m, hlt, HHIT.out⟩, fun _ => rfl⟩, bstep (bstep hbx hbx.size hbl) (Nat.le_trans hbx.size hbl.size) hby⟩
                              · have hkf : (u.toList == v.toList) = false := by simpa using hk
                                clear hk
                                go_wp2
                                go_roundw
                                case rel =>
                                  refine ⟨m + 1, by omega, rfl, by go_num, hit_not HNO.out (fun hh => ?_), bstep (bstep hbx hbx.size hbl) (Nat.le_trans hbx.size hbl.size) hby⟩
                                  have := hh.2.2
                                  rw [HLT.out, ← HVE.out] at this
                                  rw [eq_key] at hkf
                                  exact of_decide_eq_false hkf (Option.some.inj this)
                                case measure => simp [intOf]; omega
                  · go_wp2
                    go_meet
                    case rel =>
                      refine ⟨false, rfl, ⟨fun h => (by cases h), fun ⟨j, hj, hh⟩ => absurd hh (HNO.out j (by omega))⟩, hbx⟩
              case rest =>
                obtain ⟨want, rfl, HW, hb2⟩ := hcut
                obtain ⟨wC, hwC⟩ : ∃ wC, wC = wc := ⟨_, rfl⟩
                subst hwC
                have HRC := hid (HRR.out.ext hb2)
                have HLC := hid (HLR.out.ext hb2)
                have e3 := (hb2.cell (p := ⟨wL.heap.size, 3, none⟩) (Nat.lt_trans (Nat.lt_succ_self _) hzR)).trans d3
                have e14 := (hb2.cell (p := ⟨wL.heap.size + 1, 14, none⟩) hzR).trans d14
                have hzC := Nat.lt_of_lt_of_le hzR hb2.size
                have hbC := bstep hbw hbw.size hb2
                clear HRR HLR d3 d14 hzR hbw hb2
                go_upto_block 10 with (fail)
                go_cut [27] from 153 (fun okv w2 => okv = .bool true ∧ Below wC.heap.size wC w2)
                case first =>
                  clear_value *
                  as_aux_lemma =>
                  go_wp2_with fail
                  go_loopw [27, 155] (fun okv i wx => ∃ m : Nat, m ≤ n0 ∧ okv = .bool true ∧ i = .int .i64 m ∧ Below wC.heap.size wC wx) (fun _ i _ => n0 - (intOf i).toNat)
                  case atStart => exact ⟨0, Nat.zero_le _, rfl, rfl, Below.refl _ _⟩
                  case round =>
                    obtain ⟨m, hm, rfl, rfl, hbx⟩ := hrel
                    obtain ⟨wX, hwX⟩ : ∃ wX, wX = wr := ⟨_, rfl⟩
                    subst hwX
                    by_cases hlt : m < n0
                    · obtain ⟨bk, ok, rfl, hbk, hc0, hc1, hc2⟩ := HE.out.cell m hlt
                      have hbX := bstep hbC hbC.size hbx
                      have x0 := (hbX.cell hbk).trans hc0
                      have x1 := (hbX.cell hbk).trans hc1
                      have x2 := (hbX.cell hbk).trans hc2
                      have hs := HE.out.ks m hlt
                      have hvs := HE.out.vs m hlt
                      have hcw := HE.out.cs m hlt
                      have hcl := cnt_last Ek Ev Ec n0 m hlt
                      obtain ⟨s, hse⟩ : ∃ s, s = Ek m := ⟨_, rfl⟩
                      obtain ⟨v, hve⟩ : ∃ v, v = Ev m := ⟨_, rfl⟩
                      obtain ⟨c, hce⟩ : ∃ c, c = Ec m := ⟨_, rfl⟩
                      rw [← hse] at hs x0 hcl
                      rw [← hve] at hvs x1 hcl
                      rw [← hce] at hcw x2 hcl
                      have HCL := hid hcl
                      clear hse hve hce hc0 hc1 hc2 hcl
                      have hEX := hid (HE.out.ext hbX)
                      go_wp2_with fail
                      refine (last_box (some ⟨bk, ok, none⟩) n0 ce m Ek Ev Ec wX s v c (by omega) hlt hEX.out).mono ?_
                      rintro e wl ⟨res, rfl, HRES, hbl, hzl, y0, y1, y2⟩
                      clear hEX
                      cases res with
                      | false =>
                        go_wp2
                        go_roundw
                        case rel => exact ⟨m + 1, by omega, rfl, by go_num, bstep hbx hbx.size hbl⟩
                        case measure => simp [intOf]; omega
                      | true =>
                        obtain ⟨g, hg1, hg2⟩ := (HRC.out.ext (bstep hbx hbx.size hbl)).look s hs
                        have hg3 := hg2 v hvs
                        rw [HCL.out (HRES.out.1 rfl)] at hg3
                        clear hg2
                        go_wp2
                        go_roundw
                        case rel => exact ⟨m + 1, by omega, rfl, by go_num, bstep hbx hbx.size hbl⟩
                        case measure => simp [intOf]; omega
                    · go_wp2
                      go_meet
                      case rel => exact ⟨rfl, hbx⟩
                case rest =>
                  obtain ⟨rfl, hb3⟩ := hcut
                  obtain ⟨wD, hwD⟩ : ∃ wD, wD = wc := ⟨_, rfl⟩
                  subst hwD
                  have HLD := hid (HLC.out.ext hb3)
                  have f3 := (hb3.cell (p := ⟨wL.heap.size, 3, none⟩) (Nat.lt_trans (Nat.lt_succ_self _) hzC)).trans e3
                  have f14 := (hb3.cell (p := ⟨wL.heap.size + 1, 14, none⟩) hzC).trans e14
                  have hzD := Nat.lt_of_lt_of_le hzC hb3.size
                  have hbD := bstep hbC hbC.size hb3
                  clear HRC HLC e3 e14 hzC hbC hb3
                  go_upto_block 12 with (fail)
                  go_cut [27] from 176 (fun okv w2 => okv = .bool true ∧ Below wD.heap.size wD w2)
                  case first =>
                    clear_value *
                    as_aux_lemma =>
                    go_wp2_with fail
                    go_loopw [27, 178] (fun okv i wx => ∃ m : Nat, m ≤ n2 ∧ okv = .bool true ∧ i = .int .i64 m ∧ Below wD.heap.size wD wx) (fun _ i _ => n2 - (intOf i).toNat)
                    case atStart => exact ⟨0, Nat.zero_le _, rfl, rfl, Below.refl _ _⟩
                    case round =>
                      obtain ⟨m, hm, rfl, rfl, hbx⟩ := hrel
                      obtain ⟨wX, hwX⟩ : ∃ wX, wX = wr := ⟨_, rfl⟩
                      subst hwX
                      by_cases hlt : m < n2
                      · obtain ⟨bk, ok, rfl, hbk, hc0, hc1⟩ := HLB.out.cell m hlt
                        have hbX := bstep hbD hbD.size hbx
                        have x0 := (hbX.cell hbk).trans hc0
                        have x1 := (hbX.cell hbk).trans hc1
                        have hs := HLB.out.ks m hlt
                        have hvs := HLB.out.vs m hlt
                        have hll := lab_last Lk Lv n2 m hlt
                        obtain ⟨s, hse⟩ : ∃ s, s = Lk m := ⟨_, rfl⟩
                        obtain ⟨v, hve⟩ : ∃ v, v = Lv m := ⟨_, rfl⟩
                        rw [← hse] at hs x0 hll
                        rw [← hve] at hvs x1 hll
                        have HLL := hid hll
                        clear hse hve hc0 hc1 hll
                        go_wp2_with fail
                        go_loopw [32, 33] (fun lv j wy => ∃ t : Nat, m < t ∧ t ≤ n2 ∧ lv = .bool true ∧ j = .int .i64 t ∧ Hid (∀ x, m < x → x < t → key (Lk x) ≠ key s) ∧ Still (wX.alloc (.cells #[.string s, .string v] 31)) wy) (fun _ j _ => n2 - (intOf j).toNat)
                        case atStart => exact ⟨m + 1, by omega, by omega, rfl, by go_num, fun x h1 h2 => by omega, Still.refl _⟩
                        case round =>
                          obtain ⟨t, hmt, htn, rfl, rfl, HTT, hst⟩ := hrel
                          obtain ⟨y0, y1, hbl⟩ := box2 wX wr s v hst
                          by_cases ht : t < n2
                          · obtain ⟨bt, ot, ebt, hbt, ht0, _⟩ := HLB.out.cell t ht
                            simp only [Option.some.injEq, Addr.mk.injEq, and_true] at ebt
                            obtain ⟨rfl, rfl⟩ := ebt
                            have k0 := ((bstep hbX hbX.size hbl).cell hbt).trans ht0
                            clear ht0
                            by_cases hk : ((Lk t).toList == s.toList) = true
                            · go_wp2
                              go_quiet (fail)
                              go_wp2
                              go_roundw
                              case rel => exact ⟨m + 1, by omega, rfl, by go_num, (bstep hbx hbx.size hbl).trans ((Still.drewN _ _).below _)⟩
                              case measure => simp [intOf]; omega
                            · have hkf : ((Lk t).toList == s.toList) = false := by simpa using hk
                              clear hk
                              go_wp2
                              go_quiet (fail)
                              go_wp2
                              go_roundw
                              case rel =>
                                refine ⟨t + 1, by omega, by omega, rfl, by go_num, fun x h1 h2 => ?_, hst.trans (Still.drewN _ _)⟩
                                by_cases e : x = t
                                · subst e; rw [eq_key] at hkf; exact of_decide_eq_false hkf
                                · exact HTT.out x h1 (by omega)
                              case measure => simp [intOf]; omega
                          · have htt : t = n2 := by omega
                            subst htt
                            have hlk := (HLD.out.ext (bstep hbx hbx.size hbl)).look s hs
                            rw [HLL.out (fun j h1 h2 => HTT.out j h1 h2)] at hlk
                            have hsv : strOf ((some (key v)).getD []) = v := rfl
                            rw [hsv] at hlk
                            go_wp2
                            go_roundw
                            case rel => exact ⟨m + 1, by omega, rfl, by go_num, bstep hbx hbx.size hbl⟩
                            case measure => simp [intOf]; omega
                      · go_wp2
                        go_meet
                        case rel => exact ⟨rfl, hbx⟩
                  case rest =>
                    obtain ⟨rfl, hb4⟩ := hcut
                    obtain ⟨wE, hwE⟩ : ∃ wE, wE = wc := ⟨_, rfl⟩
                    subst hwE
                    have g3 := (hb4.cell (p := ⟨wL.heap.size, 3, none⟩) (Nat.lt_trans (Nat.lt_succ_self _) hzD)).trans f3
                    have g14 := (hb4.cell (p := ⟨wL.heap.size + 1, 14, none⟩) hzD).trans f14
                    have hbE := bstep hbD hbD.size hb4
                    have hgw : got = want := by
                      have a := HGOT.out
                      have b := HW.out
                      rw [hits_iff] at a
                      exact Bool.eq_iff_iff.2 (a.trans b.symm)
                    subst hgw
                    clear HLD f3 f14 hzD hbD hb4 HGOT HW HE HK HLB
                    go_wp2
                    go_ret
                    exact ⟨rfl, hbE⟩
end Go.Proofs.Ybulkehkq
