/-
  The walks over the two laws: for every F.
-/
import Derived.Test.YbulkvxqFmtSeats
import Derived.WalkLawsBesides
namespace Go.Proofs.YbulkvxqFmt
open Go.RowKit Go.Extern.Stop Go.Stop Go.Extern

set_option maxHeartbeats 800000 in
theorem range_true (F : Interp) (n : Int) (w : World) (hF : F.answers w.tape) :
    Calls Ybaf.prog 3 #[.int .i64 n] w fun e w' => e = .returned (.bool true) ∧ Grown w w' := by
  by_cases hin : 5 ≤ n ∧ n ≤ 10
  · obtain ⟨h0, h1⟩ := hin
    go_enter Ybaf.func3, Ybaf.ntmps3
    go_wp2_with fail
    refine (seats_ok n _ h0 h1).mono ?_
    rintro e w' ⟨rfl, rfl⟩
    go_wp2
    go_ret
    exact ⟨rfl, Grown.refl _⟩
  · have hout : n < 5 ∨ 10 < n := by omega
    by_cases h5 : n < 5
    · go_enter Ybaf.func3, Ybaf.ntmps3
      go_wp2_with fail
      refine (seats_bad F n _ hF hout).mono ?_
      rintro e w' ⟨t, rfl, rfl⟩
      go_wp2
      go_ret
      exact ⟨rfl, by repeat (first | exact Grown.refl _ | apply Grown.drew | apply Grown.alloc)⟩
    · have h10 : 10 < n := by omega
      have hle : decide (n ≤ 10) = false := by rw [decide_eq_false_iff_not]; omega
      go_enter Ybaf.func3, Ybaf.ntmps3
      go_wp2_with fail
      refine (seats_bad F n _ hF hout).mono ?_
      rintro e w' ⟨t, rfl, rfl⟩
      go_wp2
      go_ret
      exact ⟨rfl, by repeat (first | exact Grown.refl _ | apply Grown.drew | apply Grown.alloc)⟩

theorem assert26 (x : Value) (w : World) : (Instr.typeAssert (.iface 26 x) 23 26 true).run Ybaf.prog w = .ok (.tuple #[x, .bool true]) w := by kernel_rfl
attribute [local go_sem] assert26

set_option maxHeartbeats 800000 in
theorem code_true (F : Interp) (n : Int) (w : World) (hF : F.answers w.tape) :
    Calls Ybaf.prog 4 #[.int .i64 n] w fun e w' => e = .returned (.bool true) ∧ Grown w w' := by
  by_cases hin : 5 ≤ n ∧ n ≤ 10
  · obtain ⟨h0, h1⟩ := hin
    have hle : decide (n ≤ 10) = true := decide_eq_true h1
    go_enter Ybaf.func4, Ybaf.ntmps4
    go_wp2_with fail
    refine (seats_ok n _ h0 h1).mono ?_
    rintro e w' ⟨rfl, rfl⟩
    go_wp2
    go_ret
    exact ⟨rfl, Grown.refl _⟩
  · have hout : n < 5 ∨ 10 < n := by omega
    by_cases h5 : n < 5
    · have hd : decide (n < 5) = true := decide_eq_true h5
      go_enter Ybaf.func4, Ybaf.ntmps4
      go_wp2_with fail
      refine (seats_bad F n _ hF hout).mono ?_
      rintro e w' ⟨t, rfl, rfl⟩
      go_wp2
      go_ret
      exact ⟨rfl, by repeat (first | exact Grown.refl _ | apply Grown.drew | apply Grown.alloc)⟩
    · have h10 : 10 < n := by omega
      have hd : decide (10 < n) = true := decide_eq_true h10
      go_enter Ybaf.func4, Ybaf.ntmps4
      go_wp2_with fail
      refine (seats_bad F n _ hF hout).mono ?_
      rintro e w' ⟨t, rfl, rfl⟩
      go_wp2
      go_ret
      exact ⟨rfl, by repeat (first | exact Grown.refl _ | apply Grown.drew | apply Grown.alloc)⟩

end Go.Proofs.YbulkvxqFmt
