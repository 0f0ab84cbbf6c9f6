/- THE WALK of LawS6684AWhole where 'shared' is false. -/
import Derived.Test.YbulkehkcLaw
namespace Go.Proofs.Ybulkehkc
open Go.RowKit

set_option maxRecDepth 100000 in
set_option maxHeartbeats 100000000 in
theorem law_walk_f (n0 M : Nat) (sh : Bool) (id cur rd : Int) (a : Option Addr) (len cap : Nat) (w : World) (hl : len ≤ 65536) (hn0 : n0 ≤ 65535) (hM : M < 1024) (hNM : (n0 : Int) % 1024 = (M : Int)) (hsrc : Src w a len) (hrd : (Lit.int .i64 rd).wf = true) (HSH : Hid (sh = false)) :
    Calls Yba.prog 3 #[.int .u16 n0, .bool sh, .int .i64 id, .int .i64 cur, .int .i64 rd, .slice a len cap] w fun e w' => e = .returned (.bool true) ∧ Below w.heap.size w w' := by
  obtain ⟨i3, hi3, hz30, hz31, hz32⟩ := info_parts Yba.info3
  obtain ⟨i35, hi35, hz350, hz351, hz352⟩ := info_parts Yba.info35
  have hmm := @run_makeMap Yba.prog
  have hpe := ptr_eql
  have hpn := ptr_neq
  have HS := hid hsrc
  clear hsrc
  go_enter Yba.func3, Yba.ntmps3
  go_upto_block 0 with (fail)
  rw [hNM]
  go_cut [18, 19, 20] from 410 (fun kv pv cv w2 => ∃ n K C P f, n ≤ len ∧ Hid (Inv w.heap.size w w2 M ((M : Int) / 3) sh id cur kv pv cv n K C P f))
  case first =>
    clear_value *
    as_aux_lemma =>
    go_wp2_with fail
    go_loopw [18, 19, 20, 62] (fun kv pv cv i wr => ∃ m n K C P f, m ≤ len ∧ i = .int .i64 (m : Nat) ∧ n ≤ m ∧ Hid (Inv w.heap.size w wr M ((M : Int) / 3) sh id cur kv pv cv n K C P f)) (fun _ _ _ i _ => len - (intOf i).toNat)
    case atStart => exact ⟨0, 0, [], [], [], _, Nat.zero_le _, rfl, Nat.le_refl _, inv_start w M ((M : Int) / 3) sh id cur⟩
    case round =>
      obtain ⟨m, n, K, C, P, f, hm, rfl, hnm, HI⟩ := hrel
      by_cases hlt : m < len
      · obtain ⟨b, off, k, rfl, hb, hc0, hkw⟩ := HS.out.cell m hlt
        have hcx : wr.cell? ⟨b, off + m, none⟩ = some (.int .i64 k) := (HI.out.below.cell hb).trans hc0
        have c14 : wr.cell? ⟨w.heap.size + 1 + 1 + 1, 14, none⟩ = some (.map (some (w.heap.size + 1 + 1))) := (proc_cells HI.out.proc).2.2.2.2.2.2.2.2.2.2.2.2.2.2.1
        have hlk := HI.out.map.look k hkw
        have hz := lt_of_block HI.out.proc
        clear hc0
        cases hfk : f k with
        | some p =>
          rw [hfk] at hlk
          have hlk' : (Instr.lookup 31 (.map (some (w.heap.size + 1 + 1))) (.int .i64 k) true).run Yba.prog wr = .ok (.tuple #[.pointer (some ⟨p, 0, none⟩), .bool true]) wr := hlk
          clear hlk hfk
          go_wp2
          go_roundw
          case rel => exact ⟨m + 1, n, K, C, P, f, by omega, by go_num, by omega, HI⟩
          case measure => simp [intOf]; omega
        | none => as_aux_lemma =>
          rw [hfk] at hlk
          have hlk' : (Instr.lookup 31 (.map (some (w.heap.size + 1 + 1))) (.int .i64 k) true).run Yba.prog wr = .ok (.tuple #[.pointer none, .bool false]) wr := hlk
          have HF := hid hfk
          clear hlk hfk
          have hmp : IMap (wr.alloc (rsO ((m : Int) + 1))) (w.heap.size + 1 + 1) n f n := HI.out.map.kept (Below.heap_alloc wr _ _ (by omega))
          have HMP := hid hmp
          clear hmp
          go_wp2_with (first
            | (at_mapUpdate; refine store_law rfl (.tmp 88) (.tmp 89) (.tmp 90) rfl (w.heap.size + 1 + 1) n n f HMP.out (by omega) k hkw wr.heap.size rfl rfl rfl HF.out ?_; intro W2 m2 g2)
            | (at_builtin; refine wpList_append_own_at _ rfl (.tmp 91) (.tmp 93) 23 rfl (w.heap.size + 4) 3 i3 (.int .i64 0) 1 8 Yba.underlying23 hi3 hz30 hz31 hz32 rfl (by decide) _ n (K.map (Value.int .i64)) rfl (HI.out.keys2 g2 _) ⟨W2.heap.size, 0, none⟩ 1 1 [.int .i64 k] rfl rfl (cell_one_new _ _ _) (one_int _) (by unfold maxLen; omega) (by omega) (by have := g2.size; simp at this ⊢; omega) ?_; intro kv' W3 k3 g3 _ l3)
            | (at_builtin; refine wpList_append_own_at _ rfl (.tmp 95) (.tmp 97) 34 rfl (w.heap.size + 4) 35 i35 (.pointer none) 1 8 Yba.underlying34 hi35 hz350 hz351 hz352 rfl (by decide) _ n (P.map fun b => .pointer (some ⟨b, 0, none⟩)) rfl (HI.out.ptrs3 g2 g3 _) ⟨W3.heap.size, 0, none⟩ 1 1 [.pointer (some ⟨wr.heap.size, 0, none⟩)] rfl rfl (cell_one_new _ _ _) (one_ptr _) (by unfold maxLen; omega) (by omega) (by have h2 := g2.size; have h3 := g3.size; simp at h2 h3 ⊢; omega) ?_; intro pv' W4 p4 g4 _ l4)
            | (at_builtin; refine wpList_append_own_at _ rfl (.tmp 99) (.tmp 102) 23 rfl (w.heap.size + 4) 3 i3 (.int .i64 0) 1 8 Yba.underlying23 hi3 hz30 hz31 hz32 rfl (by decide) _ n (C.map (Value.int .i64)) rfl (HI.out.cnts4 g2 g3 g4 _) ⟨W4.heap.size, 0, none⟩ 1 1 [.int .i64 ((m : Int) + 1)] rfl rfl (cell_one_new _ _ _) (one_int _) (by unfold maxLen; omega) (by omega) (by have h2 := g2.size; have h3 := g3.size; have h4 := g4.size; simp at h2 h3 h4 ⊢; omega) ?_; intro cv' W5 c5 g5 _ l5))
          go_roundw
          case rel => exact ⟨m + 1, n + 1, _, _, _, _, by omega, by go_num, by omega, HI.out.step hkw HF.out m2 g2 k3 g3 l3 p4 g4 l4 c5 g5 l5⟩
          case measure => simp [intOf]; omega
      · go_wp2
        go_meet
        case rel => exact ⟨n, K, C, P, f, by omega, HI⟩
  case rest =>
    obtain ⟨n, K, C, P, f, hnl, HI⟩ := hcut
    obtain ⟨wi, hwi⟩ : ∃ wi, wi = wc := ⟨_, rfl⟩
    subst hwi
    obtain ⟨ka, kc, rfl⟩ := own_shape HI.out.keys
    obtain ⟨pa, pc, rfl⟩ := own_shape HI.out.ptrs
    obtain ⟨ca, cc, rfl⟩ := own_shape HI.out.cnts
    have HHK : Hid (hasK K n rd = (f rd).isSome) := hasK_all HI.out rd
    go_upto_block 2 with (fail)
    go_cut [26, 27] from 410 (fun hd ol w2 => hd = .bool (f rd).isSome ∧ ol = ptrV (f rd) ∧ wi = w2)
    case first =>
      clear_value *
      as_aux_lemma =>
      go_wp2_with fail
      go_loop [26, 27, 107] (fun hd ol j => ∃ t : Nat, t ≤ n ∧ j = .int .i64 t ∧ hd = .bool (hasK K t rd) ∧ ol = ptrV (if hasK K t rd = true then f rd else none)) (fun _ _ j => n - (intOf j).toNat)
      case atStart => exact ⟨0, Nat.zero_le _, rfl, rfl, rfl⟩
      case round =>
        obtain ⟨t, ht, rfl, rfl, rfl⟩ := hrel
        by_cases htn : t < n
        · obtain ⟨gk, rfl, _⟩ := own_pos HI.out.keys (by omega)
          obtain ⟨gp, rfl, _⟩ := own_pos HI.out.ptrs (by omega)
          have hkl := HI.out.klen
          have hpl := HI.out.plen
          have hk1 : wi.cell? ⟨gk, t, none⟩ = some (.int .i64 (K.getD t 0)) := by
            rw [HI.out.keys.cellAt t (by omega)]
            simp [List.getD, List.getElem?_map, List.getElem?_eq_getElem (show t < K.length by omega)]
          have hp1 : wi.cell? ⟨gp, t, none⟩ = some (.pointer (some ⟨P.getD t 0, 0, none⟩)) := by
            rw [HI.out.ptrs.cellAt t (by omega)]
            simp [List.getD, List.getElem?_map, List.getElem?_eq_getElem (show t < P.length by omega)]
          have hit := HI.out.hit t htn
          have hsucc := hasK_succ K t rd (by omega)
          obtain ⟨kk, hkk⟩ : ∃ kk, kk = K.getD t 0 := ⟨_, rfl⟩
          obtain ⟨pp, hpp⟩ : ∃ pp, pp = P.getD t 0 := ⟨_, rfl⟩
          rw [← hkk] at hk1 hsucc hit
          rw [← hpp] at hp1 hit
          have HSUC := hid hsucc
          have HIT := hid hit
          clear hsucc hit hkk hpp hkl hpl
          by_cases hkr : (kk == rd) = true
          · go_wp2
            go_round
            case rel =>
              have e : kk = rd := by simpa using hkr
              have hs1 : hasK K (t + 1) rd = true := by rw [HSUC.out, hkr]; simp
              refine ⟨t + 1, by omega, by go_num, by rw [hs1], ?_⟩
              rw [hs1, if_pos rfl, ← e, HIT.out]; rfl
            case measure => simp [intOf]; omega
          · have hkf : (kk == rd) = false := by simpa using hkr
            clear hkr
            go_wp2
            go_round
            case rel =>
              have hs1 : hasK K (t + 1) rd = hasK K t rd := by rw [HSUC.out, hkf]; simp
              exact ⟨t + 1, by omega, by go_num, by rw [hs1], by rw [hs1]⟩
            case measure => simp [intOf]; omega
        · have htn' : t = n := by omega
          subst htn'
          have HH2 : Hid ((if hasK K t rd = true then f rd else none) = f rd) := by
            have h := HHK.out
            rw [h]
            cases f rd <;> rfl
          rw [HH2.out, HHK.out]
          go_wp2
          go_meet
          case rel => exact ⟨rfl, rfl, rfl⟩
    case rest =>
      obtain ⟨rfl, rfl, rfl⟩ := hcut
      clear HHK HS
      cases hfr : f rd with
      | some p =>
        as_aux_lemma =>
        rw [show (some p).isSome = true from rfl, show ptrV (some p) = .pointer (some ⟨p, 0, none⟩) from rfl]
        have HF := hid hfr
        clear hfr
        have HV := hid HI.out.view
        obtain ⟨c0, c1, c2, c3, c4, c5, c6, c7, c8, c9, c10, c11, c12, c13, c14, c15, c16, c17⟩ := proc_cells HV.out.proc
        obtain ⟨d0, d1, d2, d3, d4, d5, d6, d7⟩ := cfg_cells HV.out.cfg
        have dc : wi.cell? ⟨w.heap.size, 0, none⟩ = some (.int .i64 0) := cell_of_one HV.out.calls
        go_wp2_with (go_at_call 5; refine (state_has (w.heap.size + 1 + 1 + 1) w.heap.size (w.heap.size + 1 + 1) n n p M _ sh id cur rd f _ HI.out.proc HI.out.map hrd HF.out).mono ?_; rintro e w1 ⟨rfl, hw1⟩; rw [hw1])
        go_quiet (fail)
        go_upto_block 4 with (fail)
        go_cut [] from 410 (fun w2 => Still wi w2)
        case first =>
          clear_value *
          as_aux_lemma =>
          go_wp2_with fail
          go_loopw [187] (fun i W => ∃ u : Nat, u ≤ n ∧ i = .int .i64 u ∧ Still wi W) (fun i _ => n - (intOf i).toNat)
          case atStart => exact ⟨0, Nat.zero_le _, rfl, Still.drewN _ _⟩
          case round =>
            obtain ⟨u, hu, rfl, hst⟩ := hrel
            have HVW := hid (HV.out.still hst)
            by_cases hut : u < n
            · obtain ⟨gk, rfl, _⟩ := own_pos HVW.out.keys (by omega)
              obtain ⟨gp, rfl, _⟩ := own_pos HVW.out.ptrs (by omega)
              obtain ⟨gc, rfl, _⟩ := own_pos HVW.out.cnts (by omega)
              have hkl := HVW.out.klen
              have hpl := HVW.out.plen
              have hcl := HVW.out.clen
              have hk1 : wr.cell? ⟨gk, u, none⟩ = some (.int .i64 (K.getD u 0)) := by
                rw [HVW.out.keys.cellAt u (by omega)]
                simp [List.getD, List.getElem?_map, List.getElem?_eq_getElem (show u < K.length by omega)]
              have hp1 : wr.cell? ⟨gp, u, none⟩ = some (.pointer (some ⟨P.getD u 0, 0, none⟩)) := by
                rw [HVW.out.ptrs.cellAt u (by omega)]
                simp [List.getD, List.getElem?_map, List.getElem?_eq_getElem (show u < P.length by omega)]
              have hc1 : wr.cell? ⟨gc, u, none⟩ = some (.int .i64 (C.getD u 0)) := by
                rw [HVW.out.cnts.cellAt u (by omega)]
                simp [List.getD, List.getElem?_map, List.getElem?_eq_getElem (show u < C.length by omega)]
              have hkw : (Lit.int .i64 (K.getD u 0)).wf = true := HVW.out.kwf _ (by rw [List.getD, List.getElem?_eq_getElem (show u < K.length by omega)]; exact List.getElem_mem _)
              have hlk := HVW.out.map.look (K.getD u 0) hkw
              rw [HVW.out.hit u hut] at hlk
              obtain ⟨q0, q1, q4, q8⟩ := rs_cells (HVW.out.rs u hut)
              have k14 : wr.cell? ⟨w.heap.size + 1 + 1 + 1, 14, none⟩ = some (.map (some (w.heap.size + 1 + 1))) := (proc_cells HVW.out.proc).2.2.2.2.2.2.2.2.2.2.2.2.2.2.1
              obtain ⟨kk, hkk⟩ : ∃ kk, kk = K.getD u 0 := ⟨_, rfl⟩
              obtain ⟨pp, hpp⟩ : ∃ pp, pp = P.getD u 0 := ⟨_, rfl⟩
              obtain ⟨qq, hqq⟩ : ∃ qq, qq = C.getD u 0 := ⟨_, rfl⟩
              rw [← hkk] at hk1 hlk hkw
              rw [← hpp] at hp1 hlk q0 q1 q4 q8
              rw [← hqq] at hc1 q1
              have hlk' : (Instr.lookup 31 (.map (some (w.heap.size + 1 + 1))) (.int .i64 kk) true).run Yba.prog wr = .ok (.tuple #[.pointer (some ⟨pp, 0, none⟩), .bool true]) wr := hlk
              have hnn := fun (X : World) (a : Option Addr) (n c : Nat) => run_neq_slice_nil_any (P := Yba.prog) X 37 4 a n c 0 0 Yba.underlying37
              clear hlk hkk hpp hqq hkl hpl hcl
              go_wp2
              go_quiet (fail)
              go_wp2
              go_roundw
              case rel => exact ⟨u + 1, by omega, by go_num, hst.trans (Still.drewN _ _)⟩
              case measure => simp [intOf]; omega
            · go_wp2
              go_meet
              case rel => exact hst
        case rest =>
          have hst := hcut
          obtain ⟨wr, hwr⟩ : ∃ wr, wr = wc := ⟨_, rfl⟩
          subst hwr
          have HVW := hid (HV.out.still hst)
          have k14 : wr.cell? ⟨w.heap.size + 1 + 1 + 1, 14, none⟩ = some (.map (some (w.heap.size + 1 + 1))) := (proc_cells HVW.out.proc).2.2.2.2.2.2.2.2.2.2.2.2.2.2.1
          have hlen := fun ty => HVW.out.map.len ty
          have HB := hid HVW.out.below
          clear HVW
          go_wp2
          go_ret
          exact ⟨rfl, HB.out⟩
      | none =>
        rw [show (none : Option Nat).isSome = false from rfl, show ptrV none = .pointer none from rfl]
        have HF := hid hfr
        clear hfr
        cases sh with
        | false =>
          go_wp2_with fail
          refine (state_plain (w.heap.size + 1 + 1 + 1) w.heap.size (w.heap.size + 1 + 1) n n M _ id cur rd f _ hM (by omega) HI.out.proc HI.out.map hrd HF.out).mono ?_
          rintro e w1 ⟨gc, gr, rfl, hrs, hbl, hm1, hg1, hgc, hgr⟩
          have HV := hid (HI.out.view_new gr HF.out hm1 hg1)
          have HRS := hid hrs
          have HBL := hid hbl
          clear hrs hbl hm1 hg1
          obtain ⟨c0, c1, c2, c3, c4, c5, c6, c7, c8, c9, c10, c11, c12, c13, c14, c15, c16, c17⟩ := proc_cells HV.out.proc
          obtain ⟨d0, d1, d2, d3, d4, d5, d6, d7⟩ := cfg_cells HV.out.cfg
          have dc : w1.cell? ⟨w.heap.size, 0, none⟩ = some (.int .i64 0) := cell_of_one HV.out.calls
          go_upto_region 35 with (fail)
          go_cut [184] from 410 (fun s w2 => s = .bool false ∧ Still w1 w2)
          case first =>
            clear_value *
            as_aux_lemma =>
            go_quiet (fail)
            go_wp2
            go_meet
            case rel => exact ⟨rfl, Still.drewN _ _⟩
          case rest =>
          obtain ⟨rfl, hs35⟩ := hcut
          clear c0 c1 c2 c3 c4 c5 c6 c7 c8 c9 c10 c11 c12 c13 c14 c15 c16 c17 d0 d1 d2 d3 d4 d5 d6 d7 dc
          go_upto_block 4 with (fail)
          go_cut [] from 410 (fun w2 => Still w1 w2)
          case first =>
            clear_value *
            as_aux_lemma =>
            go_wp2_with fail
            go_loopw [187] (fun i W => ∃ u : Nat, u ≤ n ∧ i = .int .i64 u ∧ Still w1 W) (fun i _ => n - (intOf i).toNat)
            case atStart => exact ⟨0, Nat.zero_le _, rfl, hs35⟩
            case round =>
              obtain ⟨u, hu, rfl, hst⟩ := hrel
              have HVW := hid (HV.out.still hst)
              by_cases hut : u < n
              · obtain ⟨gk, rfl, _⟩ := own_pos HVW.out.keys (by omega)
                obtain ⟨gp, rfl, _⟩ := own_pos HVW.out.ptrs (by omega)
                obtain ⟨gc, rfl, _⟩ := own_pos HVW.out.cnts (by omega)
                have hkl := HVW.out.klen
                have hpl := HVW.out.plen
                have hcl := HVW.out.clen
                have hk1 : wr.cell? ⟨gk, u, none⟩ = some (.int .i64 (K.getD u 0)) := by
                  rw [HVW.out.keys.cellAt u (by omega)]
                  simp [List.getD, List.getElem?_map, List.getElem?_eq_getElem (show u < K.length by omega)]
                have hp1 : wr.cell? ⟨gp, u, none⟩ = some (.pointer (some ⟨P.getD u 0, 0, none⟩)) := by
                  rw [HVW.out.ptrs.cellAt u (by omega)]
                  simp [List.getD, List.getElem?_map, List.getElem?_eq_getElem (show u < P.length by omega)]
                have hc1 : wr.cell? ⟨gc, u, none⟩ = some (.int .i64 (C.getD u 0)) := by
                  rw [HVW.out.cnts.cellAt u (by omega)]
                  simp [List.getD, List.getElem?_map, List.getElem?_eq_getElem (show u < C.length by omega)]
                have hkw : (Lit.int .i64 (K.getD u 0)).wf = true := HVW.out.kwf _ (by rw [List.getD, List.getElem?_eq_getElem (show u < K.length by omega)]; exact List.getElem_mem _)
                have hlk := HVW.out.map.look (K.getD u 0) hkw
                rw [HVW.out.hit u hut] at hlk
                obtain ⟨q0, q1, q4, q8⟩ := rs_cells (HVW.out.rs u hut)
                have k14 : wr.cell? ⟨w.heap.size + 1 + 1 + 1, 14, none⟩ = some (.map (some (w.heap.size + 1 + 1))) := (proc_cells HVW.out.proc).2.2.2.2.2.2.2.2.2.2.2.2.2.2.1
                obtain ⟨kk, hkk⟩ : ∃ kk, kk = K.getD u 0 := ⟨_, rfl⟩
                obtain ⟨pp, hpp⟩ : ∃ pp, pp = P.getD u 0 := ⟨_, rfl⟩
                obtain ⟨qq, hqq⟩ : ∃ qq, qq = C.getD u 0 := ⟨_, rfl⟩
                rw [← hkk] at hk1 hlk hkw
                rw [← hpp] at hp1 hlk q0 q1 q4 q8
                rw [← hqq] at hc1 q1
                have hlk' : (Instr.lookup 31 (.map (some (w.heap.size + 1 + 1))) (.int .i64 kk) true).run Yba.prog wr = .ok (.tuple #[.pointer (some ⟨pp, 0, none⟩), .bool true]) wr := hlk
                have hnn := fun (X : World) (a : Option Addr) (n c : Nat) => run_neq_slice_nil_any (P := Yba.prog) X 37 4 a n c 0 0 Yba.underlying37
                clear hlk hkk hpp hqq hkl hpl hcl
                go_wp2
                go_quiet (fail)
                go_wp2
                go_roundw
                case rel => exact ⟨u + 1, by omega, by go_num, hst.trans (Still.drewN _ _)⟩
                case measure => simp [intOf]; omega
              · go_wp2
                go_meet
                case rel => exact hst
          case rest =>
            have hst := hcut
            obtain ⟨wr, hwr⟩ : ∃ wr, wr = wc := ⟨_, rfl⟩
            subst hwr
            have HVW := hid (HV.out.still hst)
            have hz4 : w.heap.size + 4 ≤ gc := by have := lt_of_block HI.out.proc; omega
            have HT0 : Hid (Tail w.heap.size w wr M ((M : Int) / 3) false gr gc (.pointer none)) := ⟨HVW.out.below, HVW.out.calls, HVW.out.cfg, by rw [hst.heap]; exact HRS.out, by have := lt_of_block HVW.out.proc; omega, hz4⟩
            have HB0 := hid (HBL.out.still hst)
            go_upto_region 46 with (fail)
            go_cut [269] from 410 (fun s w2 => s = .bool false ∧ wr = w2)
            case first =>
              clear_value *
              as_aux_lemma =>
              have k14 : wr.cell? ⟨w.heap.size + 1 + 1 + 1, 14, none⟩ = some (.map (some (w.heap.size + 1 + 1))) := (proc_cells HVW.out.proc).2.2.2.2.2.2.2.2.2.2.2.2.2.2.1
              have hlen := fun ty => HVW.out.map.len ty
              clear HVW
              go_wp2
              go_meet
              case rel => exact ⟨rfl, rfl⟩
            case rest =>
            obtain ⟨rfl, rfl⟩ := hcut
            go_upto_region 48 with (fail)
            go_cut [35, 36] from 410 (fun q ok w2 => q = .pointer (some ⟨gr, 0, none⟩) ∧ ok = .bool true ∧ wr = w2)
            case first =>
              clear_value *
              as_aux_lemma =>
              have k14 : wr.cell? ⟨w.heap.size + 1 + 1 + 1, 14, none⟩ = some (.map (some (w.heap.size + 1 + 1))) := (proc_cells HVW.out.proc).2.2.2.2.2.2.2.2.2.2.2.2.2.2.1
              have hlk := HVW.out.map.look rd hrd
              rw [show setF f rd gr rd = some gr from if_pos rfl] at hlk
              have hlk' : (Instr.lookup 31 (.map (some (w.heap.size + 1 + 1))) (.int .i64 rd) true).run Yba.prog wr = .ok (.tuple #[.pointer (some ⟨gr, 0, none⟩), .bool true]) wr := hlk
              clear hlk HVW
              go_wp2
              go_meet
              case rel => exact ⟨rfl, rfl, rfl⟩
            case rest =>
            obtain ⟨rfl, rfl, rfl⟩ := hcut
            clear HVW
            go_upto_region 49 with (fail)
            go_cut [285] from 410 (fun s w2 => s = .bool false ∧ wr = w2)
            case first =>
              clear_value *
              as_aux_lemma =>
              go_wp2
              go_meet
              case rel => exact ⟨rfl, rfl⟩
            case rest =>
            obtain ⟨rfl, rfl⟩ := hcut
            go_upto_region 51 with (fail)
            go_cut [301] from 410 (fun s w2 => s = .bool false ∧ Below wr.heap.size wr w2)
            case first =>
              clear_value *
              as_aux_lemma =>
              obtain ⟨r0, r1, r2, r3, r4, r5, r6, r7, r8⟩ := rsnew_cells HT0.out.rs
              go_wp2_with fail
              refine (tally_lo gc M (2 * M) _ hM HB0.out).mono ?_
              rintro e w2 ⟨rfl, hb2⟩
              have HT2 := hid (HT0.out.ext hb2)
              have HB2 := hid (HB0.out.ext hb2)
              obtain ⟨r0, r1, r2, r3, r4, r5, r6, r7, r8⟩ := rsnew_cells HT2.out.rs
              go_wp2_with fail
              refine (tally_hi gc M M _ hM HB2.out).mono ?_
              rintro e w3 ⟨rfl, hb3⟩
              go_wp2
              go_meet
              case rel => exact ⟨rfl, hb2.trans (hb3.mono hb2.size)⟩
            case rest =>
            obtain ⟨rfl, hb3⟩ := hcut
            obtain ⟨w3, hw3⟩ : ∃ w3, w3 = wc := ⟨_, rfl⟩
            subst hw3
            have HT3 := hid (HT0.out.ext hb3)
            have HB3 := hid (HB0.out.ext hb3)
            go_upto_region 53 with (fail)
            go_cut [313] from 410 (fun s w2 => s = .bool false ∧ w3.grownBy w2 (some gc))
            case first =>
              obtain ⟨r0, r1, r2, r3, r4, r5, r6, r7, r8⟩ := rsnew_cells HT3.out.rs
              go_region_with (go_at_call 7; refine (sep_any gc M (2 * M) M w3.drew hM (by exact HB3.out.half)).mono ?_; rintro e w4 ⟨rfl, hg4⟩)
              all_goals
                have hg4' : w3.grownBy w4 (some gc) := ⟨hg4.os, hg4.tape, hg4.output, hg4.size, hg4.block⟩
                go_wp2
                go_meet
                case rel => exact ⟨rfl, hg4'⟩
            case rest =>
            obtain ⟨rfl, hg4'⟩ := hcut
            obtain ⟨w4, hw4⟩ : ∃ w4, w4 = wc := ⟨_, rfl⟩
            subst hw4
            have HT4 := hid (HT3.out.grown hg4' hz4 HB3.out.row)
            obtain ⟨r0, r1, r2, r3, r4, r5, r6, r7, r8⟩ := rsnew_cells HT4.out.rs
            go_wp2
            go_ret
            exact ⟨rfl, HT4.out.below⟩
        | true =>
          exact absurd HSH.out (by decide)
end Go.Proofs.Ybulkehkc
