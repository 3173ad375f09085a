/-
  What a frame is, in plain numbers.
-/
import Derived.Test.YbulkweqDoorIp
namespace Go.Proofs.YbulkweqDoor
open Go.RowKit Go.Deep

/-- Two bytes, the greatest first. -/
def et (Z : Nat → Int) (a : Nat) : Int := Z a * 256 + Z (a + 1)
/-- Is it a VLAN tag's type? -/
def tagged (e : Int) : Bool := e == 33024 || e == 34984
/-- Where the last EtherType lies; none: the frame ends ahead of it. -/
def findF (Z : Nat → Int) (L : Nat) : Nat → Nat → Option Nat
  | 0, a => some a
  | r + 1, a => if tagged (et Z a) = true then (if L < a + 6 then none else findF Z L r (a + 4)) else some a
/-- What lies in the frame. -/
inductive Out where
  | bad
  | four (p t : Nat)
  | six (p t : Nat)
def bad6a (X : Nat → Int) (n : Nat) : Prop := n < 40 ∨ X 0 / 16 ≠ 6
open Classical in
noncomputable def outAt (Z : Nat → Int) (L a : Nat) : Out :=
  if et Z a = 2048 then (if bad4a (fun i => Z (a + 2 + i)) (L - (a + 2)) ∨ bad4b (fun i => Z (a + 2 + i)) then .bad else .four (a + 2) (et Z (a + 4)).toNat)
  else if et Z a = 34525 then (if bad6a (fun i => Z (a + 2 + i)) (L - (a + 2)) then .bad else .six (a + 2) (40 + et Z (a + 6)).toNat)
  else .bad
noncomputable def outOf (Z : Nat → Int) (L : Nat) : Option Nat → Out
  | none => .bad
  | some a => outAt Z L a
noncomputable def out (Z : Nat → Int) (L : Nat) : Out :=
  if L < 14 then .bad else outOf Z L (findF Z L 2 12)

theorem et_bounds (Z : Nat → Int) (hZ : ∀ i, 0 ≤ Z i ∧ Z i < 256) (a : Nat) : 0 ≤ et Z a ∧ et Z a < 65536 := by
  have := hZ a; have := hZ (a + 1); unfold et; omega

/-- The six results of the model. -/
def modelVal (L : Nat) : Out → Value
  | .bad => .tuple #[.int .i64 0, .int .i64 0, .int .i64 0, .int .i64 0, .bool false, .bool false]
  | .four p t => .tuple #[.int .i64 (p : Int), .int .i64 ((p + min t (L - p) : Nat) : Int), .int .i64 ((p + 12 : Nat) : Int), .int .i64 ((p + 16 : Nat) : Int), .bool false, .bool true]
  | .six p t => .tuple #[.int .i64 (p : Int), .int .i64 ((p + min t (L - p) : Nat) : Int), .int .i64 ((p + 8 : Nat) : Int), .int .i64 ((p + 24 : Nat) : Int), .bool true, .bool true]
end Go.Proofs.YbulkweqDoor
