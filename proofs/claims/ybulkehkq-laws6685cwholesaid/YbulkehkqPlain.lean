/- THE PLAIN LAWS of LawS6685CWhole: no Go in sight. -/
namespace Go.Proofs.Ybulkehkq.Plain

abbrev Key := List UInt8
def key (s : ByteArray) : Key := s.data.toList

section
variable (Ek Ev : Nat → ByteArray) (Ec : Nat → Int) (Lk Lv : Nat → ByteArray)

/-- What the counts are behind the first m entries. -/
def cntTo : Nat → Key → Key → Int
  | 0, _, _ => 0
  | m + 1, k, v => if key (Ek m) = k ∧ key (Ev m) = v then Ec m else cntTo m k v
/-- What the labels are behind the first m. -/
def labTo : Nat → Key → Option Key
  | 0, _ => none
  | m + 1, k => if key (Lk m) = k then some (key (Lv m)) else labTo m k
def Same (i j : Nat) : Prop := key (Ek j) = key (Ek i) ∧ key (Ev j) = key (Ev i)
def Last (n i : Nat) : Prop := ∀ j, i < j → j < n → ¬ Same Ek Ev i j

theorem cnt_last : ∀ n i, i < n → Last Ek Ev n i → cntTo Ek Ev Ec n (key (Ek i)) (key (Ev i)) = Ec i
  | 0, _, h, _ => absurd h (Nat.not_lt_zero _)
  | m + 1, i, h, hl => by
    unfold cntTo
    by_cases e : i = m
    · subst e; rw [if_pos ⟨rfl, rfl⟩]
    · have hlt : i < m := by omega
      rw [if_neg (fun hs : key (Ek m) = key (Ek i) ∧ key (Ev m) = key (Ev i) => hl m hlt (Nat.lt_succ_self _) hs)]
      exact cnt_last m i hlt (fun j h1 h2 => hl j h1 (by omega))

theorem cnt_pos : ∀ n k v, 0 < cntTo Ek Ev Ec n k v → ∃ i, i < n ∧ Last Ek Ev n i ∧ key (Ek i) = k ∧ key (Ev i) = v ∧ Ec i = cntTo Ek Ev Ec n k v
  | 0, _, _, h => by simp [cntTo] at h
  | m + 1, k, v, h => by
    unfold cntTo at h ⊢
    by_cases e : key (Ek m) = k ∧ key (Ev m) = v
    · rw [if_pos e]
      exact ⟨m, Nat.lt_succ_self _, fun j h1 h2 => by omega, e.1, e.2, rfl⟩
    · rw [if_neg e] at h ⊢
      obtain ⟨i, hi, hl, h1, h2, h3⟩ := cnt_pos m k v h
      refine ⟨i, by omega, fun j hj1 hj2 hs => ?_, h1, h2, h3⟩
      by_cases ej : j = m
      · subst ej; exact e ⟨hs.1.trans h1, hs.2.trans h2⟩
      · exact hl j hj1 (by omega) hs

theorem lab_last : ∀ n i, i < n → (∀ j, i < j → j < n → key (Lk j) ≠ key (Lk i)) → labTo Lk Lv n (key (Lk i)) = some (key (Lv i))
  | 0, _, h, _ => absurd h (Nat.not_lt_zero _)
  | m + 1, i, h, hl => by
    unfold labTo
    by_cases e : i = m
    · subst e; rw [if_pos rfl]
    · have hlt : i < m := by omega
      rw [if_neg (hl m hlt (Nat.lt_succ_self _))]
      exact lab_last m i hlt (fun j h1 h2 => hl j h1 (by omega))

/-- What repels answers. -/
def Hits (cnt : Key → Key → Int) (lab : Key → Option Key) : Prop := ∃ k v, lab k = some v ∧ 0 < cnt k v
/-- Does entry i hit? -/
def HitAt (n : Nat) (lab : Key → Option Key) (i : Nat) : Prop := 0 < Ec i ∧ Last Ek Ev n i ∧ lab (key (Ek i)) = some (key (Ev i))

theorem hits_iff (n : Nat) (lab : Key → Option Key) : Hits (cntTo Ek Ev Ec n) lab ↔ ∃ i, i < n ∧ HitAt Ek Ev Ec n lab i := by
  constructor
  · rintro ⟨k, v, h1, h2⟩
    obtain ⟨i, hi, hl, rfl, rfl, he⟩ := cnt_pos Ek Ev Ec n k v h2
    exact ⟨i, hi, by omega, hl, h1⟩
  · rintro ⟨i, hi, hc, hl, h1⟩
    exact ⟨_, _, h1, by rw [cnt_last Ek Ev Ec n i hi hl]; exact hc⟩
end
end Go.Proofs.Ybulkehkq.Plain
