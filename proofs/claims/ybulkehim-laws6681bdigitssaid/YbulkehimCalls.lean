/- THE CONTRACTS of digitsValue and of the law's own model. -/
import Derived.Test.YbulkehimRows
import Derived.Test.YbulkehimPlain
import Derived.WalkKit
import Derived.ProofKit
namespace Go.Proofs.Ybulkehim
open Go.RowKit Plain

theorem ret_pair {a b : Int} {c d : Bool} (h : a = b) (g : c = d) : Ending.returned (.tuple #[.int .i64 a, .bool c]) = .returned (.tuple #[.int .i64 b, .bool d]) := by rw [h, g]
theorem val_int {k : IntKind} {a b : Int} (h : a = b) : Value.int k a = .int k b := by rw [h]

theorem dg_lo {c : UInt8} (h : (c.toNat : Int) < 48) : dgB c = false := decide_eq_false (by omega)
theorem dg_hi {c : UInt8} (h : (57 : Int) < (c.toNat : Int)) : dgB c = false := decide_eq_false (by omega)
theorem dg_in {c : UInt8} (h1 : ¬ (c.toNat : Int) < 48) (h2 : ¬ (57 : Int) < (c.toNat : Int)) : dgB c = true := decide_eq_true (by omega)

set_option maxHeartbeats 400000 in
theorem digits_any (s : ByteArray) (w : World) (hs : s.size ≤ maxLen) :
    Calls Yba.prog 5 #[.string s] w fun e w' => e = .returned (.tuple #[.int .i64 (resV s.data.toList), .bool (resB s.data.toList)]) ∧ w' = w := by
  unfold maxLen at hs
  go_enter Yba.func5, Yba.ntmps5
  go_wp2
  go_loop [4, 5] (fun n i => ∃ k : Nat, k ≤ s.size ∧ i = .int .i64 k ∧ n = .int .i64 (wrap64 (val (s.data.toList.take k))) ∧ Hid ((s.data.toList.take k).all dgB = true)) (fun _ i => s.size - (intOf i).toNat)
  case atStart => exact ⟨0, Nat.zero_le _, rfl, by simp [val, wrap64], by unfold Hid; simp⟩
  case round =>
    obtain ⟨k, hk, rfl, rfl, HA⟩ := hrel
    by_cases hlt : k < s.size
    · by_cases h1 : (s[k].toNat : Int) < 48
      · go_wp2
        go_ret2
        have r := res_no s.data.toList s[k] (get_mem s k hlt) (dg_lo h1)
        exact ⟨ret_pair r.1.symm r.2.symm, rfl⟩
      · by_cases h2 : (57 : Int) < (s[k].toNat : Int)
        · go_wp2
          go_ret2
          have r := res_no s.data.toList s[k] (get_mem s k hlt) (dg_hi h2)
          exact ⟨ret_pair r.1.symm r.2.symm, rfl⟩
        · go_wp2
          go_round
          case rel =>
            refine ⟨k + 1, by omega, by go_num, ?_, ?_⟩
            · rw [take_snoc s k hlt, val_snoc]; exact val_int (wrap_step _ _)
            · unfold Hid
              rw [take_snoc s k hlt, List.all_append, HA.out]
              simp [dg_in h1 h2]
          case measure => simp [intOf]; omega
    · have hks : k = s.size := by omega
      have ht : s.data.toList.take k = s.data.toList := List.take_of_length_le (by simp [hks])
      have HT : Hid (s.data.toList.take k = s.data.toList) := ht
      clear ht
      have HK : Hid (k = s.size) := hks
      clear hks
      go_wp2
      go_ret2
      have ha : s.data.toList.all dgB = true := by have := HA.out; rwa [HT.out] at this
      refine ⟨ret_pair ?_ ?_, rfl⟩
      · rw [HT.out]; simp [resV, ha]
      · rw [ByteArray.toList_eq]; simp [resB, ha]

set_option maxHeartbeats 400000 in
theorem model_any (s : ByteArray) (w : World) (hs : s.size ≤ maxLen) :
    Calls Yba.prog 6 #[.string s] w fun e w' => e = .returned (.tuple #[.int .i64 (resV s.data.toList), .bool (resB s.data.toList)]) ∧ w' = w := by
  unfold maxLen at hs
  by_cases h0 : ((s.size : Int) == 0) = true
  · have e : s.data.toList = [] := by
      have h : s.size = 0 := by simpa using h0
      exact List.eq_nil_of_length_eq_zero (by simpa using h)
    have HE : Hid (s.data.toList = []) := e
    clear e
    go_enter Yba.func6, Yba.ntmps6
    go_wp2
    go_ret2
    refine ⟨ret_pair ?_ ?_, rfl⟩
    · rw [HE.out]; simp [resV, val, wrap64]
    · rw [HE.out]; simp [resB]
  · have hp : 0 < s.size := by
      have : ¬ s.size = 0 := by simpa using h0
      omega
    go_enter Yba.func6, Yba.ntmps6
    go_wp2
    go_loop [4, 5, 6] (fun n p i => ∃ k : Nat, k ≤ s.size ∧ i = .int .i64 ((k : Int) - 1) ∧ n = .int .u64 (IntKind.u64.wrap (val (s.data.toList.drop k))) ∧ p = .int .u64 (IntKind.u64.wrap (10 ^ (s.size - k))) ∧ Hid ((s.data.toList.drop k).all dgB = true)) (fun _ _ i => (intOf i + 1).toNat)
    case atStart =>
      have hd : s.data.toList.drop s.size = [] := List.drop_of_length_le (by simp)
      exact ⟨s.size, Nat.le_refl _, rfl, by rw [hd]; simp [val, wrapU], by simp [wrapU], by unfold Hid; rw [hd]; rfl⟩
    case round =>
      obtain ⟨k, hk, rfl, rfl, rfl, HA⟩ := hrel
      by_cases hlt : 0 < k
      · obtain ⟨j, rfl⟩ : ∃ j, k = j + 1 := ⟨k - 1, by omega⟩
        by_cases h1 : (s[j].toNat : Int) < 48
        · go_wp2
          go_ret2
          have r := res_no s.data.toList s[j] (get_mem s j (by omega)) (dg_lo h1)
          exact ⟨ret_pair r.1.symm r.2.symm, rfl⟩
        · by_cases h2 : (57 : Int) < (s[j].toNat : Int)
          · go_wp2
            go_ret2
            have r := res_no s.data.toList s[j] (get_mem s j (by omega)) (dg_hi h2)
            exact ⟨ret_pair r.1.symm r.2.symm, rfl⟩
          · go_wp2
            go_round
            case rel =>
              have hlen : (s.data.toList.drop (j + 1)).length = s.size - (j + 1) := by simp
              have hc := drop_cons s j (by omega)
              refine ⟨j, by omega, rfl, ?_, ?_, ?_⟩
              · rw [hc]
                simp only [val]
                rw [hlen]
                exact val_int (u64_sum _ _ _)
              · rw [u64_p, show s.size - j = s.size - (j + 1) + 1 from by omega, Int.pow_succ]
              · unfold Hid
                rw [hc, List.all_cons, HA.out, dg_in (by omega) (by omega)]
                rfl
            case measure => simp [intOf]
      · have hk0 : k = 0 := by omega
        subst hk0
        go_wp2
        go_ret2
        have ha : s.data.toList.all dgB = true := by have := HA.out; rwa [List.drop_zero] at this
        have hne : s.data.toList.isEmpty = false := by
          cases hl : s.data.toList with
          | nil => have h2 : s.data.toList.length = s.size := by simp
                   rw [hl, List.length_nil] at h2; omega
          | cons _ _ => rfl
        refine ⟨ret_pair ?_ ?_, rfl⟩
        · rw [u64_out]; simp [resV, ha]
        · simp only [resB, ha, hne]; rfl
end Go.Proofs.Ybulkehim
