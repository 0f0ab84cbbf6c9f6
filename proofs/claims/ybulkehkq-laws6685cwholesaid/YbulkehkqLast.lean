/- THE CONTRACT of zzs6685clast. -/
import Derived.Test.YbulkehkqRep
import Derived.RegionTactic
import Derived.ChangeAlike
import Derived.Deep.QuietTactic
import Derived.BigQuiet
import Derived.Deep.LoopGhost
namespace Go.Proofs.Ybulkehkq
open Go.RowKit Go.Maps Plain

structure Still (w w' : World) : Prop where
  os : w'.os = w.os
  tape : w'.tape = w.tape
  output : w'.output = w.output
  heap : w'.heap = w.heap
theorem Still.refl (w : World) : Still w w := ⟨rfl, rfl, rfl, rfl⟩
theorem Still.drewN (w : World) (n : Nat) : Still w (w.drewN n) := ⟨rfl, rfl, rfl, rfl⟩
theorem Still.trans {a b c : World} (h : Still a b) (k : Still b c) : Still a c := ⟨k.os.trans h.os, k.tape.trans h.tape, k.output.trans h.output, k.heap.trans h.heap⟩
theorem Still.below {w w' : World} (h : Still w w') (B : Nat) : Below B w w' := ⟨h.os, h.tape, h.output, by rw [h.heap]; exact Nat.le_refl _, fun _ _ => by rw [h.heap]⟩
theorem Still.cell {w w' : World} (h : Still w w') (a : Addr) : w'.cell? a = w.cell? a := by simp only [World.cell?, h.heap]

/-- The entries as they lie in memory. -/
structure Ents (w : World) (a : Option Addr) (n : Nat) (Ek Ev : Nat → ByteArray) (Ec : Nat → Int) : Prop where
  cell : ∀ i, i < n → ∃ b off, a = some ⟨b, off, none⟩ ∧ b < w.heap.size ∧ w.cell? ⟨b, off + i * 3, none⟩ = some (.string (Ek i)) ∧ w.cell? ⟨b, off + i * 3 + 1, none⟩ = some (.string (Ev i)) ∧ w.cell? ⟨b, off + i * 3 + 2, none⟩ = some (.int .i64 (Ec i))
  ks : ∀ i, i < n → (Ek i).size ≤ maxLen
  vs : ∀ i, i < n → (Ev i).size ≤ maxLen
  cs : ∀ i, i < n → (Lit.int .i64 (Ec i)).wf = true
theorem Ents.ext {w w' : World} {a : Option Addr} {n : Nat} {Ek Ev : Nat → ByteArray} {Ec : Nat → Int} (h : Ents w a n Ek Ev Ec) (hb : Below w.heap.size w w') : Ents w' a n Ek Ev Ec :=
  ⟨fun i hi => by
    obtain ⟨b, off, e, hlt, h0, h1, h2⟩ := h.cell i hi
    exact ⟨b, off, e, Nat.lt_of_lt_of_le hlt hb.size, (hb.cell hlt).trans h0, (hb.cell hlt).trans h1, (hb.cell hlt).trans h2⟩, h.ks, h.vs, h.cs⟩

set_option maxHeartbeats 400000 in
theorem last_any (a : Option Addr) (n cap i : Nat) (Ek Ev : Nat → ByteArray) (Ec : Nat → Int) (w : World) (hn : n ≤ 4096) (hi : i < n) (hs : Ents w a n Ek Ev Ec) :
    Calls Yba.prog 5 #[.slice a n cap, .int .i64 i] w fun e w' => ∃ res, e = .returned (.bool res) ∧ (res = true ↔ Last Ek Ev n i) ∧ Still w w' := by
  obtain ⟨b, off, rfl, hb, i0, i1, _⟩ := hs.cell i hi
  have HS := hid hs
  clear hs
  go_enter Yba.func5, Yba.ntmps5
  go_wp2
  go_loopw [5] (fun j wr => ∃ t : Nat, i < t ∧ t ≤ n ∧ j = .int .i64 t ∧ Hid (∀ x, i < x → x < t → ¬ Same Ek Ev i x) ∧ Still w wr) (fun j _ => n - (intOf j).toNat)
  case atStart => exact ⟨i + 1, by omega, by omega, by go_num, fun x h1 h2 => by omega, Still.refl _⟩
  case round =>
    obtain ⟨t, hit, htn, rfl, HL, hst⟩ := hrel
    by_cases hlt : t < n
    · obtain ⟨b', off', e, _, t0, t1, _⟩ := HS.out.cell t hlt
      simp only [Option.some.injEq, Addr.mk.injEq, and_true] at e
      obtain ⟨rfl, rfl⟩ := e
      have k0 := (hst.cell _).trans i0
      have k1 := (hst.cell _).trans i1
      have u0 := (hst.cell _).trans t0
      have u1 := (hst.cell _).trans t1
      by_cases hk : ((Ek t).toList == (Ek i).toList) = true
      · by_cases hv : ((Ev t).toList == (Ev i).toList) = true
        · go_wp2
          go_quiet (fail)
          go_wp2
          go_ret
          refine ⟨false, rfl, ⟨fun h => (by cases h), fun h => ?_⟩, hst.trans (Still.drewN _ _)⟩
          rw [eq_key] at hk hv
          exact absurd ⟨of_decide_eq_true hk, of_decide_eq_true hv⟩ (h t hit hlt)
        · have hvf : ((Ev t).toList == (Ev i).toList) = false := by simpa using hv
          clear hv
          go_wp2
          go_quiet (fail)
          go_wp2
          go_roundw
          case rel =>
            refine ⟨t + 1, by omega, by omega, by go_num, fun x h1 h2 hsm => ?_, hst.trans (Still.drewN _ _)⟩
            by_cases e : x = t
            · subst e; rw [eq_key] at hvf; exact of_decide_eq_false hvf hsm.2
            · exact HL.out x h1 (by omega) hsm
          case measure => simp [intOf]; omega
      · have hkf : ((Ek t).toList == (Ek i).toList) = false := by simpa using hk
        clear hk
        go_wp2
        go_quiet (fail)
        go_wp2
        go_roundw
        case rel =>
          refine ⟨t + 1, by omega, by omega, by go_num, fun x h1 h2 hsm => ?_, hst.trans (Still.drewN _ _)⟩
          by_cases e : x = t
          · subst e; rw [eq_key] at hkf; exact of_decide_eq_false hkf hsm.1
          · exact HL.out x h1 (by omega) hsm
        case measure => simp [intOf]; omega
    · go_wp2
      go_ret
      have e : t = n := by omega
      subst e
      exact ⟨true, rfl, ⟨fun _ => HL.out, fun _ => rfl⟩, hst⟩
end Go.Proofs.Ybulkehkq
