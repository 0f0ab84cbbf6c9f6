/- THE WALK of LawS6681BDigits. -/
import Derived.Test.YbulkehimCalls
import Derived.Laws.BytesArg
import Derived.RegionTactic
import Derived.ChangeAlike
namespace Go.Proofs.Ybulkehim
open Go.RowKit Plain

theorem Yba.info5 : (Yba.prog.info? 5).map (fun i => (i.zero, i.size, i.bytes)) = some (some (.int .u8 0), 1, 1) := by kernel_rfl

theorem hid {p : Prop} (h : p) : Hid p := h

/-- What the loop knows of the bytes that it has laid: each a byte, the first k digits. -/
structure Row (n k : Nat) (L : List Int) : Prop where
  len : L.length = n
  byte : ∀ j, j < n → 0 ≤ L.getD j 0 ∧ L.getD j 0 ≤ 255
  dig : ∀ j, j < k → 48 ≤ L.getD j 0 ∧ L.getD j 0 ≤ 57

theorem made_u8 (n : Nat) : (madeCells (Value.int .u8 0).cells (n * 1)).toList = (List.replicate n (0 : Int)).map (Value.int .u8) := by
  rw [show (Value.int IntKind.u8 0).cells = #[Value.int IntKind.u8 0] from rfl, toList_madeCells_one]; simp
theorem row_start (n : Nat) : Row n 0 (List.replicate n 0) := by
  refine ⟨by simp, fun j hj => ?_, fun j hj => by omega⟩
  simp [List.getD, hj]

theorem row_step {n k : Nat} {L : List Int} {v : Int} (h : Row n k L) (hk : k < n) : Row n (k + 1) (L.set k (48 + v % 10)) := by
  have hl := h.len
  refine ⟨by simpa using hl, fun j hj => ?_, fun j hj => ?_⟩
  · by_cases e : j = k
    · subst e; simp [List.getD, show j < L.length by omega]; omega
    · have := h.byte j hj
      simp only [List.getD, List.getElem?_set, if_neg (fun x => e (Eq.symm x))] at this ⊢; exact this
  · by_cases e : j = k
    · subst e; simp [List.getD, show j < L.length by omega]; omega
    · have := h.dig j (by omega)
      simp only [List.getD, List.getElem?_set, if_neg (fun x => e (Eq.symm x))] at this ⊢; exact this

theorem other_at (p : Nat) : ∃ c : Int, (0 ≤ c ∧ c ≤ 255) ∧ ∀ W, (Instr.index 9 (.string ⟨#[97, 47, 58, 45, 46, 32]⟩) (.int .i64 ((p : Int) / 4 % 6))).run Yba.prog W = .ok (.int .u8 c) W := by
  have h : ((p : Int) / 4 % 6) = ((p / 4 % 6 : Nat) : Int) := by omega
  rw [h]
  have h6 : p / 4 % 6 < 6 := Nat.mod_lt _ (by omega)
  generalize p / 4 % 6 = r at h6
  match r, h6 with
  | 0, _ => exact ⟨97, by omega, fun _ => by kernel_rfl⟩
  | 1, _ => exact ⟨47, by omega, fun _ => by kernel_rfl⟩
  | 2, _ => exact ⟨58, by omega, fun _ => by kernel_rfl⟩
  | 3, _ => exact ⟨45, by omega, fun _ => by kernel_rfl⟩
  | 4, _ => exact ⟨46, by omega, fun _ => by kernel_rfl⟩
  | 5, _ => exact ⟨32, by omega, fun _ => by kernel_rfl⟩

theorem conv_row {W : World} {B n : Nat} {xs : List Value} {L : List Int} (hown : W.ownsRow B 5 1 (.slice (some ⟨B, 0, none⟩) n n) n xs) (hx : xs = L.map (Value.int .u8)) (hl : L.length = n) :
    (convert 25 9 (Value.slice (some ⟨B, 0, none⟩) n n)).run Yba.prog W = .ok (.string (strOfNums L)) W := by
  subst hx
  refine run_convert_bytes_arg W 25 5 Yba.underlying25 Yba.underlying5 B 0 n n L hl (fun i hi => ?_) 9 Yba.underlying9
  rw [Nat.zero_add, hown.cellAt i (by omega)]
  simp [List.getD, List.getElem?_map, List.getElem?_eq_getElem (show i < L.length by omega)]

theorem res_row {k : Nat} {L : List Int} (h : Row k k L) (hk : 0 < k) : resB (strOfNums L).data.toList = true := by
  rw [strOfNums_data]
  have hl := h.len
  have ha : (L.map fun n => UInt8.ofNat n.toNat).all dgB = true := by
    rw [List.all_eq_true]
    intro c hc
    obtain ⟨n, hn, rfl⟩ := List.mem_map.1 hc
    obtain ⟨j, hj, rfl⟩ := List.getElem_of_mem hn
    have := h.dig j (by omega)
    simp only [List.getD, List.getElem?_eq_getElem hj, Option.getD_some] at this
    refine decide_eq_true ?_
    simp only [UInt8.toNat_ofNat']
    omega
  have hne : (L.map fun n => UInt8.ofNat n.toNat).isEmpty = false := by
    cases L with
    | nil => simp at hl; omega
    | cons _ _ => rfl
  simp only [resB, ha, hne]; rfl

set_option maxHeartbeats 400000 in
theorem digits_walk (a0 : Option Addr) (n cap p q : Nat) (w : World) (hn : n ≤ 1048576) (hp : p ≤ 255) (hq : q ≤ 255)
    (hcell : ∀ k, k < n → ∃ b off, ∃ v : Int, a0 = some ⟨b, off, none⟩ ∧ b < w.heap.size ∧ w.cell? ⟨b, off + k, none⟩ = some (.int .u8 v) ∧ 0 ≤ v ∧ v ≤ 255) :
    Calls Yba.prog 4 #[.slice a0 n cap, .int .u8 p, .int .u8 q] w fun e w' => e = .returned (.bool true) ∧ Below w.heap.size w w' := by
  obtain ⟨i0, hi, hz0, hz1, hz2⟩ := info_parts Yba.info5
  have HC : Hid (∀ k, k < n → ∃ b off, ∃ v : Int, a0 = some ⟨b, off, none⟩ ∧ b < w.heap.size ∧ w.cell? ⟨b, off + k, none⟩ = some (.int .u8 v) ∧ 0 ≤ v ∧ v ≤ 255) := hcell
  clear hcell
  go_enter Yba.func4, Yba.ntmps4
  go_wp2_with (at_make; refine wpList_make_full _ rfl (.tmp 18) (.tmp 18) 25 rfl w.heap.size 5 i0 (.int .u8 0) 1 Yba.underlying25 hi hz0 hz1 .i64 .i64 _ _ n rfl rfl rfl rfl (by rw [hz2]; omega) (by unfold maxLen; omega) (Nat.le_refl _) ?_; intro w1 hown hgrow)
  rw [made_u8] at hown
  have hb : Below w.heap.size w w1 := (Below.refl _ _).grown hgrow (Nat.le_refl _) (by simp)
  clear hgrow
  go_loopw [8] (fun i wr => ∃ k : Nat, k ≤ n ∧ i = .int .i64 k ∧ ∃ L : List Int, Row n k L ∧ wr.ownsRow w.heap.size 5 1 (.slice (some ⟨w.heap.size, 0, none⟩) n n) n (L.map (Value.int .u8)) ∧ Below w.heap.size w wr) (fun i _ => n - (intOf i).toNat)
  case atStart => exact ⟨0, Nat.zero_le _, rfl, _, row_start n, hown, hb⟩
  case round =>
    obtain ⟨k, hk, rfl, L, hL, hown, hb⟩ := hrel
    by_cases hlt : k < n
    · obtain ⟨b, off, v, rfl, hbB, hc, hv0, hv1⟩ := HC.out k hlt
      have hcx : wr.cell? ⟨b, off + k, none⟩ = some (.int .u8 v) := (hb.cell (by exact hbB)).trans hc
      have hst := hown.stored k (.int .u8 (48 + v % 10))
      have hfz : wr.frozen? ⟨w.heap.size, k, none⟩ = false := hown.frozenAt k
      have hc0 : ∃ u, wr.cell? ⟨w.heap.size, k, none⟩ = some u := by
        refine ⟨.int .u8 (L.getD k 0), ?_⟩
        rw [hown.cellAt k (by omega)]
        have := hL.len
        simp [List.getD, List.getElem?_map, List.getElem?_eq_getElem (show k < L.length by omega)]
      obtain ⟨u, hc0⟩ := hc0
      have HS := hid hst
      clear hst
      have HO := hid hown
      clear hown
      have HB := hid hb
      clear hb
      go_wp2
      go_roundw
      case rel =>
        refine ⟨k + 1, by omega, by go_num, L.set k (48 + v % 10), row_step hL hlt, ?_, ?_⟩
        · have := HS.out.1
          rwa [← List.map_set] at this
        · exact HB.out.setCell (Nat.le_refl _) _
      case measure => simp [intOf]; omega
    · have hkn : k = n := by omega
      subst hkn
      clear hlt hk HC
      by_cases hp4 : p % 4 = 0 ∧ 0 < k
      · obtain ⟨hp4, hk0⟩ := hp4
        have hqk : q % k < k := Nat.mod_lt _ hk0
        have hfz : wr.frozen? ⟨w.heap.size, q % k, none⟩ = false := hown.frozenAt _
        have hc0 : ∃ u, wr.cell? ⟨w.heap.size, q % k, none⟩ = some u := by
          refine ⟨.int .u8 (L.getD (q % k) 0), ?_⟩
          rw [hown.cellAt _ (by omega)]
          have := hL.len
          simp [List.getD, List.getElem?_map, List.getElem?_eq_getElem (show q % k < L.length by omega)]
        obtain ⟨u, hc0⟩ := hc0
        have HO := hid hown
        clear hown
        have HB := hid hb
        clear hb
        obtain ⟨c, hc, hoth⟩ := other_at p
        have HL : Hid (L.length = k) := hL.len
        clear hL
        go_wp2
        go_region
        all_goals
          have hcv := conv_row (L := L.set (q % k) c) (HO.out.stored (q % k) (.int .u8 c)).1.drew List.map_set.symm ((List.length_set).trans HL.out)
          have hsz : (strOfNums (L.set (q % k) c)).size ≤ maxLen := by rw [strOfNums_size, List.length_set, HL.out]; unfold maxLen; omega
          go_wp2_with (first | (go_at_call 5; refine (digits_any _ _ hsz).mono ?_; rintro e w' ⟨rfl, rfl⟩) | (go_at_call 6; refine (model_any _ _ hsz).mono ?_; rintro e w' ⟨rfl, rfl⟩))
          go_ret
          exact ⟨rfl, (HB.out.setCell (Nat.le_refl _) _).drew⟩
      · have hcv := conv_row hown rfl hL.len
        have hsz : (strOfNums L).size ≤ maxLen := by rw [strOfNums_size, hL.len]; unfold maxLen; omega
        have HD : Hid (0 < k → resB (strOfNums L).data.toList = true) := fun h => res_row hL h
        clear hown hL
        by_cases hk0 : 0 < k
        · have hp4' : ¬ p % 4 = 0 := by omega
          have hrb := HD.out hk0
          clear hp4 HD
          go_wp2_with (first | (go_at_call 5; refine (digits_any _ _ hsz).mono ?_; rintro e w' ⟨rfl, rfl⟩) | (go_at_call 6; refine (model_any _ _ hsz).mono ?_; rintro e w' ⟨rfl, rfl⟩))
          go_ret
          exact ⟨rfl, hb⟩
        · clear hp4 HD
          by_cases hp4 : p % 4 = 0
          all_goals
            go_wp2_with (first | (go_at_call 5; refine (digits_any _ _ hsz).mono ?_; rintro e w' ⟨rfl, rfl⟩) | (go_at_call 6; refine (model_any _ _ hsz).mono ?_; rintro e w' ⟨rfl, rfl⟩))
            go_ret
            exact ⟨rfl, hb⟩
end Go.Proofs.Ybulkehim
