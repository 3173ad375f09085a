/-
  The plain side of the seat's laws: no Go in sight.
-/
namespace Go.Proofs.Ybulkvwo

/-- How many spaces a text begins with. -/
def spaces : List UInt8 → Nat
  | [] => 0
  | c :: l => if c = 32 then spaces l + 1 else 0

theorem spaces_le (l : List UInt8) : spaces l ≤ l.length := by
  induction l with
  | nil => simp [spaces]
  | cons c l ih => simp only [spaces, List.length_cons]; split <;> omega

theorem spaces_at (l : List UInt8) (j : Nat) (h : j < spaces l) : l[j]? = some 32 := by
  induction l generalizing j with
  | nil => simp [spaces] at h
  | cons c l ih =>
    simp only [spaces] at h
    split at h
    · cases j with
      | zero => simp [*]
      | succ j => simpa using ih j (by omega)
    · omega

theorem spaces_stop (l : List UInt8) (h : spaces l < l.length) : l[spaces l]? ≠ some 32 := by
  induction l with
  | nil => simp at h
  | cons c l ih =>
    by_cases hc : c = 32
    · simp only [spaces, hc, if_true, List.length_cons] at h ⊢
      simpa using ih (by omega)
    · simp [spaces, hc]

/-- Where the rest begins, from place p on. -/
def restAt (s : ByteArray) (p : Nat) : Nat := p + spaces (s.data.toList.drop p)

theorem restAt_ge (s : ByteArray) (p : Nat) : p ≤ restAt s p := by unfold restAt; omega

theorem restAt_le (s : ByteArray) (p : Nat) (h : p ≤ s.size) : restAt s p ≤ s.size := by
  have := spaces_le (s.data.toList.drop p)
  have e : s.data.toList.length = s.size := rfl
  simp only [List.length_drop] at this
  unfold restAt; omega

theorem restAt_space (s : ByteArray) (k : Nat) (h : k < s.size) (hs : s[k] = 32) : restAt s k = restAt s (k + 1) := by
  have e : s.data.toList.length = s.size := rfl
  unfold restAt
  rw [List.drop_eq_getElem_cons (by omega)]
  have : s.data.toList[k] = s[k] := rfl
  rw [this, hs]
  simp [spaces]; omega

theorem restAt_other (s : ByteArray) (k : Nat) (h : k < s.size) (hs : s[k] ≠ 32) : restAt s k = k := by
  have e : s.data.toList.length = s.size := rfl
  unfold restAt
  rw [List.drop_eq_getElem_cons (by omega)]
  have : s.data.toList[k] = s[k] := rfl
  rw [this]
  simp [spaces, hs]

theorem restAt_end (s : ByteArray) : restAt s s.size = s.size := by
  have e : s.data.toList.length = s.size := rfl
  unfold restAt
  rw [List.drop_of_length_le (by omega)]
  simp [spaces]

theorem restAt_between (s : ByteArray) (p j : Nat) (hp : p ≤ j) (h : j < restAt s p) (hj : j < s.size) : s[j] = 32 := by
  have e : s.data.toList.length = s.size := rfl
  have := spaces_at (s.data.toList.drop p) (j - p) (by unfold restAt at h; omega)
  rw [List.getElem?_drop, show p + (j - p) = j from by omega, List.getElem?_eq_getElem (by omega)] at this
  exact Option.some.inj this

theorem restAt_stop (s : ByteArray) (p : Nat) (h : restAt s p < s.size) : s[restAt s p] ≠ 32 := by
  have e : s.data.toList.length = s.size := rfl
  intro hc
  refine spaces_stop (s.data.toList.drop p) (by simp only [List.length_drop]; unfold restAt at h; omega) ?_
  rw [List.getElem?_drop]
  have : s.data.toList[p + spaces (s.data.toList.drop p)]? = some s[restAt s p] := by
    rw [List.getElem?_eq_getElem (by unfold restAt at h; omega)]; rfl
  rw [this, hc]

end Go.Proofs.Ybulkvwo
