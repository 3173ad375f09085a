/-
  'LawS1108ABuild' at more than 1024 names, edges or yields: true at once.
-/
import Derived.Test.YbulkvxqChecked
import Derived.WalkKit
import Derived.WalkSpells
namespace Go.Proofs.Ybulkvxq
open Go.RowKit

set_option maxRecDepth 100000 in
set_option maxHeartbeats 1000000 in
theorem law_long (name : ByteArray) (na : Option Addr) (n0 c0 : Nat) (ea : Option Addr) (m ce : Nat) (ya : Option Addr) (q cy : Nat) (hq0 hq1 start : Int) (w : World) (h : 1024 < n0 ∨ 1024 < m ∨ 1024 < q) :
    Calls Yba.prog 3 #[.string name, .slice na n0 c0, .slice ea m ce, .slice ya q cy, .int .u8 hq0, .int .u8 hq1, .int .i64 start] w fun e w' => e = .returned (.bool true) ∧ Below w.heap.size w w' := by
  by_cases h1 : 1024 < n0
  · go_enter Yba.func3, Yba.ntmps3
    go_wp2
    go_ret
    exact ⟨rfl, Below.refl _ _⟩
  · by_cases h2 : 1024 < m
    · go_enter Yba.func3, Yba.ntmps3
      go_wp2
      go_ret
      exact ⟨rfl, Below.refl _ _⟩
    · have h3 : 1024 < q := by omega
      go_enter Yba.func3, Yba.ntmps3
      go_wp2
      go_ret
      exact ⟨rfl, Below.refl _ _⟩
end Go.Proofs.Ybulkvxq
