/-
  The plain side of 'LawS1108ABuild': no Go in sight. Nodes are a function 'N' of the index.
-/
import Derived.Maps.Views
import Derived.Laws.Strings
namespace Go.Proofs.Ybulkvxq
open Go.Maps

/-- The test '==' on two strings as the walk spells it. -/
def same (a b : ByteArray) : Bool := a.toList == b.toList

theorem same_iff (a b : ByteArray) : same a b = true ↔ a = b := by
  unfold same
  rw [ByteArray.toList_eq, ByteArray.toList_eq, beq_iff_eq]
  constructor
  · intro h; exact ByteArray.ext (Array.toList_inj.1 h)
  · intro h; rw [h]

/-- The last place below k at which s stands, or -1. -/
def lastTo (N : Nat → ByteArray) (s : ByteArray) : Nat → Int
  | 0 => -1
  | k + 1 => if same (N k) s = true then (k : Int) else lastTo N s k

theorem lastTo_pos (N : Nat → ByteArray) (s : ByteArray) (k : Nat) (h : same (N k) s = true) : lastTo N s (k + 1) = (k : Int) := by
  show (if same (N k) s = true then (k : Int) else lastTo N s k) = _
  rw [if_pos h]
theorem lastTo_neg (N : Nat → ByteArray) (s : ByteArray) (k : Nat) (h : ¬ same (N k) s = true) : lastTo N s (k + 1) = lastTo N s k := by
  show (if same (N k) s = true then (k : Int) else lastTo N s k) = _
  rw [if_neg h]

theorem lastTo_ge (N : Nat → ByteArray) (s : ByteArray) (k : Nat) : -1 ≤ lastTo N s k := by
  induction k with
  | zero => simp [lastTo]
  | succ k ih => simp only [lastTo]; split <;> omega

theorem lastTo_lt (N : Nat → ByteArray) (s : ByteArray) (k : Nat) : lastTo N s k < k := by
  induction k with
  | zero => simp [lastTo]
  | succ k ih => simp only [lastTo]; split <;> omega

theorem lastTo_hit (N : Nat → ByteArray) (s : ByteArray) (k : Nat) (h : 0 ≤ lastTo N s k) : N (lastTo N s k).toNat = s := by
  induction k with
  | zero => simp [lastTo] at h
  | succ k ih =>
    simp only [lastTo] at h ⊢
    split
    · rename_i hs; simpa using (same_iff _ _).1 hs
    · rename_i hs; rw [if_neg hs] at h; exact ih h

theorem lastTo_there (N : Nat → ByteArray) (s : ByteArray) (k j : Nat) (hj : j < k) (h : N j = s) : (j : Int) ≤ lastTo N s k := by
  induction k with
  | zero => omega
  | succ k ih =>
    simp only [lastTo]
    split
    · omega
    · rename_i hs
      have : j ≠ k := fun e => hs ((same_iff _ _).2 (e ▸ h))
      exact ih (by omega)

/-- Of the places below i: how many are the last ones (below n) of what stands there. -/
def cnt (N : Nat → ByteArray) (n : Nat) : Nat → Nat
  | 0 => 0
  | i + 1 => cnt N n i + if lastTo N (N i) n = (i : Int) then 1 else 0

theorem cnt_le (N : Nat → ByteArray) (n i : Nat) : cnt N n i ≤ i := by
  induction i with
  | zero => simp [cnt]
  | succ i ih => simp only [cnt]; split <;> omega

theorem cnt_step (N : Nat → ByteArray) (n i : Nat) : cnt N n (i + 1) = cnt N n i + if lastTo N (N i) n = (i : Int) then 1 else 0 := rfl

theorem cnt_turn (N : Nat → ByteArray) (k : Nat) : ∀ i, i ≤ k → cnt N (k + 1) i + (if 0 ≤ lastTo N (N k) k ∧ lastTo N (N k) k < (i : Int) then 1 else 0) = cnt N k i := by
  intro i
  induction i with
  | zero => intro _; rw [if_neg (by omega)]; simp [cnt]
  | succ i ih =>
    intro hi
    have ih := ih (by omega)
    have hL := lastTo_ge N (N k) k
    rw [cnt_step, cnt_step]
    by_cases hs : same (N k) (N i) = true
    · have e := (same_iff _ _).1 hs
      rw [lastTo_pos N (N i) k hs, if_neg (by omega : ¬ ((k : Int) = (i : Int))), ← e]
      by_cases hli : lastTo N (N k) k = (i : Int)
      · rw [if_pos (by omega), if_pos hli]
        rw [if_neg (by omega)] at ih
        omega
      · rw [if_neg hli]
        by_cases hc : 0 ≤ lastTo N (N k) k ∧ lastTo N (N k) k < (i : Int)
        · rw [if_pos hc] at ih; rw [if_pos (by omega)]; omega
        · rw [if_neg hc] at ih; rw [if_neg (by omega)]; omega
    · rw [lastTo_neg N (N i) k hs]
      have hne : lastTo N (N k) k ≠ (i : Int) := by
        intro e
        have h0 : 0 ≤ lastTo N (N k) k := by omega
        have := lastTo_hit N (N k) k h0
        rw [e] at this
        simp at this
        exact hs ((same_iff _ _).2 this.symm)
      by_cases hc : 0 ≤ lastTo N (N k) k ∧ lastTo N (N k) k < (i : Int)
      · rw [if_pos hc] at ih
        rw [if_pos (show 0 ≤ lastTo N (N k) k ∧ lastTo N (N k) k < ((i + 1 : Nat) : Int) by omega)]; omega
      · rw [if_neg hc] at ih
        rw [if_neg (show ¬ (0 ≤ lastTo N (N k) k ∧ lastTo N (N k) k < ((i + 1 : Nat) : Int)) by omega)]; omega

theorem cnt_succ (N : Nat → ByteArray) (k : Nat) : cnt N (k + 1) (k + 1) = if 0 ≤ lastTo N (N k) k then cnt N k k else cnt N k k + 1 := by
  have h := cnt_turn N k k (Nat.le_refl _)
  have hl := lastTo_lt N (N k) k
  have e : cnt N (k + 1) (k + 1) = cnt N (k + 1) k + 1 := by
    rw [cnt_step, lastTo_pos N (N k) k ((same_iff _ _).2 rfl), if_pos rfl]
  rw [e]
  by_cases h0 : 0 ≤ lastTo N (N k) k
  · rw [if_pos ⟨h0, hl⟩] at h; rw [if_pos h0]; omega
  · rw [if_neg (by omega)] at h; rw [if_neg h0]; omega

/-- A string as a map's key. -/
def key (s : ByteArray) : Lit := .string s.data.toList

theorem key_inj (a b : ByteArray) (h : key a = key b) : a = b := by
  unfold key at h
  injection h with h
  exact ByteArray.ext (Array.toList_inj.1 h)

theorem key_lit (s : ByteArray) : WideAt.IsKeyLit (key s) := trivial

/-- The map that is filled by 'm[K i] = V i' for i below k. -/
def fillD (K : Nat → ByteArray) (V : Nat → Int) : Nat → DataW Unit
  | 0 => .map []
  | k + 1 => (fillD K V k).put (key (K k)) (.lit (.int .i64 (V k)))

theorem fillD_tidy (K : Nat → ByteArray) (V : Nat → Int) (k : Nat) : Tidy (fillD K V k) := by
  induction k with
  | zero => exact tidy_empty
  | succ k ih => exact Tidy.put ih (key_lit _) _

/-- The value of the last of the first k pairs whose key is s, or 0. -/
def lastVal (K : Nat → ByteArray) (V : Nat → Int) (s : ByteArray) : Nat → Int
  | 0 => 0
  | k + 1 => if same (K k) s = true then V k else lastVal K V s k

theorem fillD_at (K : Nat → ByteArray) (V : Nat → Int) (s : ByteArray) (k : Nat) : (fillD K V k).atKey (key s) (.lit (.int .i64 0)) = .lit (.int .i64 (lastVal K V s k)) := by
  induction k with
  | zero => rfl
  | succ k ih =>
    simp only [fillD, lastVal]
    by_cases hs : same (K k) s = true
    · rw [if_pos hs, (same_iff _ _).1 hs, atKey_put_same (fillD_tidy K V k).isMap (key_lit _)]
    · rw [if_neg hs, atKey_put_other (fun e => hs ((same_iff _ _).2 (key_inj _ _ e).symm)), ih]

theorem fillD_has (K : Nat → ByteArray) (V : Nat → Int) (s : ByteArray) (k : Nat) : has (fillD K V k) (key s) = decide (0 ≤ lastTo K s k) := by
  induction k with
  | zero => rfl
  | succ k ih =>
    show has ((fillD K V k).put (key (K k)) (.lit (.int .i64 (V k)))) (key s) = _
    by_cases hs : same (K k) s = true
    · rw [lastTo_pos K s k hs, (same_iff _ _).1 hs, has_put_same (fillD_tidy K V k).isMap (key_lit _)]; simp
    · rw [lastTo_neg K s k hs, has_put_other (fun e => hs ((same_iff _ _).2 (key_inj _ _ e).symm)), ih]

theorem fillD_size (K : Nat → ByteArray) (V : Nat → Int) (k : Nat) : size (fillD K V k) = cnt K k k := by
  induction k with
  | zero => rfl
  | succ k ih =>
    rw [cnt_succ]
    simp only [fillD]
    rw [size_put (fillD_tidy K V k), fillD_has, ih]
    simp

/-- The index map: at each node its last place. -/
theorem lastVal_index (N : Nat → ByteArray) (s : ByteArray) (k : Nat) (h : 0 ≤ lastTo N s k) : lastVal N (fun i => (i : Int)) s k = lastTo N s k := by
  induction k with
  | zero => simp [lastTo] at h
  | succ k ih =>
    simp only [lastTo, lastVal] at h ⊢
    split
    · rfl
    · rename_i hs; rw [if_neg hs] at h; exact ih h

end Go.Proofs.Ybulkvxq
