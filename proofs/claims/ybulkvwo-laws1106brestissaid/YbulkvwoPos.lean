/-
  'int(pos % uint(len(s)+1))': the place that a law takes in a text.
-/
import Derived.WalkKit
import Derived.OpenShut
namespace Go.Proofs.Ybulkvwo
open Go.RowKit

theorem pos_eq (n : Nat) (a : Int) (hn : n ≤ maxLen) (ha : (Lit.int .u64 a).wf = true) :
    wrap64 (a.tmod (IntKind.u64.wrap (wrap64 ((n : Int) + 1)))) = ((a.toNat % (n + 1) : Nat) : Int) := by
  have h0 : 0 ≤ a := (bounds_u64 ha).1
  unfold maxLen at hn
  have e1 : IntKind.u64.wrap (wrap64 ((n : Int) + 1)) = (n : Int) + 1 := by
    rw [IntKind.wrap_u64]
    unfold wrap64
    omega
  rw [e1]
  obtain ⟨m, rfl⟩ := Int.eq_ofNat_of_zero_le h0
  have e2 : Int.tmod (m : Int) ((n : Int) + 1) = ((m % (n + 1) : Nat) : Int) := rfl
  rw [e2]
  have : m % (n + 1) < n + 1 := Nat.mod_lt _ (by omega)
  rw [Int.toNat_natCast]
  unfold wrap64
  omega

theorem pos_le (n : Nat) (a : Int) : a.toNat % (n + 1) ≤ n := by
  have : a.toNat % (n + 1) < n + 1 := Nat.mod_lt _ (by omega)
  omega
theorem pos_ne (n : Nat) (hn : n ≤ maxLen) : ¬ IntKind.u64.wrap (wrap64 ((n : Int) + 1)) = 0 := by
  unfold maxLen at hn
  rw [IntKind.wrap_u64]
  unfold wrap64
  omega
end Go.Proofs.Ybulkvwo
