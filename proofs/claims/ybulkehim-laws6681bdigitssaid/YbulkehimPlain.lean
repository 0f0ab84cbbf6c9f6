/- THE PLAIN LAWS of digitsValue and of the law's own model: no Go in sight. -/
import Derived.Laws.Small
import Derived.RowKit
namespace Go.Proofs.Ybulkehim.Plain
open Go.RowKit

def dgB (c : UInt8) : Bool := decide (48 ≤ c.toNat ∧ c.toNat ≤ 57)
/-- The value of a row of digits, unbounded. -/
def val : List UInt8 → Int
  | [] => 0
  | c :: t => ((c.toNat : Int) - 48) * 10 ^ t.length + val t
/-- What both functions answer. -/
def resV (l : List UInt8) : Int := if l.all dgB = true then wrap64 (val l) else 0
def resB (l : List UInt8) : Bool := l.all dgB && !l.isEmpty

theorem val_snoc (l : List UInt8) (c : UInt8) : val (l ++ [c]) = val l * 10 + ((c.toNat : Int) - 48) := by
  induction l with
  | nil => simp [val]
  | cons a t ih =>
    simp only [List.cons_append, val, ih, List.length_append, List.length_singleton]
    rw [Int.pow_succ, Int.add_mul, ← Int.mul_assoc]
    omega

theorem wrap_step (V d : Int) : wrap64 (wrap64 (wrap64 V * 10) + d) = wrap64 (V * 10 + d) := by
  unfold wrap64; omega

theorem wrapU (n : Int) : IntKind.u64.wrap n = n % 18446744073709551616 := by simp [IntKind.wrap, IntKind.bits, IntKind.signed]
theorem u64_p (P : Int) : IntKind.u64.wrap (IntKind.u64.wrap P * 10) = IntKind.u64.wrap (P * 10) := by
  simp only [wrapU]; omega
theorem u64_sum (S d P : Int) : IntKind.u64.wrap (IntKind.u64.wrap S + IntKind.u64.wrap (d * IntKind.u64.wrap P)) = IntKind.u64.wrap (d * P + S) := by
  simp only [wrapU]
  have h : d * (P % 18446744073709551616) % 18446744073709551616 = d * P % 18446744073709551616 := by
    rw [Int.mul_emod d (P % 18446744073709551616), Int.emod_emod_of_dvd P (Int.dvd_refl _), ← Int.mul_emod]
  rw [h]
  generalize d * P = X
  omega
theorem u64_out (V : Int) : wrap64 (IntKind.u64.wrap V) = wrap64 V := by
  simp only [wrapU]; unfold wrap64; omega

theorem take_snoc (s : ByteArray) (k : Nat) (h : k < s.size) : s.data.toList.take (k + 1) = s.data.toList.take k ++ [s[k]] := by
  rw [List.take_succ_eq_append_getElem (by simpa using h)]; rfl
theorem drop_cons (s : ByteArray) (k : Nat) (h : k < s.size) : s.data.toList.drop k = s[k] :: s.data.toList.drop (k + 1) := by
  rw [List.drop_eq_getElem_cons (by simpa using h)]; rfl
theorem get_mem (s : ByteArray) (k : Nat) (h : k < s.size) : s[k] ∈ s.data.toList := by
  have e := drop_cons s k h
  exact List.mem_of_mem_drop (i := k) (by rw [e]; simp)

theorem all_false_of (l : List UInt8) (c : UInt8) (hc : c ∈ l) (h : dgB c = false) : l.all dgB = false := by
  rw [List.all_eq_false]
  exact ⟨c, hc, by simp [h]⟩
theorem res_no (l : List UInt8) (c : UInt8) (hc : c ∈ l) (h : dgB c = false) : resV l = 0 ∧ resB l = false := by
  have := all_false_of l c hc h
  simp [resV, resB, this]
end Go.Proofs.Ybulkehim.Plain
