/-
  The walks over 'CheckSeats' (5): for every F.
-/
import Derived.Test.YbulkvxqFmtFacts
import Derived.WalkKit
import Derived.WalkSpells
namespace Go.Proofs.YbulkvxqFmt
open Go.RowKit Go.Extern.Stop Go.Stop Go.Extern
attribute [local go_sem] call7 guard fmt0 fmt0r act3_100 op3_100

set_option maxHeartbeats 400000 in
theorem seats_ok (n : Int) (w : World) (h0 : 5 ≤ n) (h1 : n ≤ 10) :
    Calls Ybaf.prog 5 #[.int .i64 n] w fun e w' => e = .returned .nilIface ∧ w' = w := by
  go_enter Ybaf.func5, Ybaf.ntmps5
  go_wp2
  go_ret
  exact ⟨rfl, rfl⟩

set_option maxHeartbeats 800000 in
theorem seats_low (F : Interp) (n : Int) (w : World) (hF : F.answers w.tape) (h0 : n < 5) :
    Calls Ybaf.prog 5 #[.int .i64 n] w fun e w' => ∃ t : ByteArray, e = .returned (.iface 26 (.pointer (some ⟨w.heap.size + 1, 0, none⟩))) ∧
      w' = ((w.alloc (.cells #[.iface 3 (.int .i64 5), .iface 3 (.int .i64 10), .iface 3 (.int .i64 n)] 20)).alloc (.cells #[.string ⟨#[73, 78, 86, 65, 76, 73, 68, 95, 83, 69, 84, 85, 80]⟩, .string t, .int .i64 0] 30)).drew := by
  have hF' := answers_open hF
  go_enter Ybaf.func5, Ybaf.ntmps5
  go_wp2
  apply rows_value nextTurns
  case hr =>
    go_simp
    exact ⟨rfl, rfl⟩
  case h =>
    go_wp2
    go_ret
    exact ⟨_, rfl, rfl⟩
set_option maxHeartbeats 800000 in
theorem seats_high (F : Interp) (n : Int) (w : World) (hF : F.answers w.tape) (h0 : 10 < n) :
    Calls Ybaf.prog 5 #[.int .i64 n] w fun e w' => ∃ t : ByteArray, e = .returned (.iface 26 (.pointer (some ⟨w.heap.size + 1, 0, none⟩))) ∧
      w' = ((w.alloc (.cells #[.iface 3 (.int .i64 5), .iface 3 (.int .i64 10), .iface 3 (.int .i64 n)] 20)).alloc (.cells #[.string ⟨#[73, 78, 86, 65, 76, 73, 68, 95, 83, 69, 84, 85, 80]⟩, .string t, .int .i64 0] 30)).drew := by
  have h1 : ¬ n < 5 := by omega
  have hF' := answers_open hF
  go_enter Ybaf.func5, Ybaf.ntmps5
  go_wp2
  apply rows_value nextTurns
  case hr =>
    go_simp
    exact ⟨rfl, rfl⟩
  case h =>
    go_wp2
    go_ret
    exact ⟨_, rfl, rfl⟩

/-- A refusal, whichever bound it breaks. -/
theorem seats_bad (F : Interp) (n : Int) (w : World) (hF : F.answers w.tape) (h0 : n < 5 ∨ 10 < n) :
    Calls Ybaf.prog 5 #[.int .i64 n] w fun e w' => ∃ t : ByteArray, e = .returned (.iface 26 (.pointer (some ⟨w.heap.size + 1, 0, none⟩))) ∧
      w' = ((w.alloc (.cells #[.iface 3 (.int .i64 5), .iface 3 (.int .i64 10), .iface 3 (.int .i64 n)] 20)).alloc (.cells #[.string ⟨#[73, 78, 86, 65, 76, 73, 68, 95, 83, 69, 84, 85, 80]⟩, .string t, .int .i64 0] 30)).drew := by
  rcases h0 with h | h
  · exact seats_low F n w hF h
  · exact seats_high F n w hF h
end Go.Proofs.YbulkvxqFmt
