/-
  'string([]byte{a, b}) + Tail', and the check of it.
-/
import Derived.Test.YbulkvwoDigit
import Derived.Laws.BytesArg
namespace Go.Proofs.Ybulkvwo
open Go.RowKit

theorem cells_two (a b : Int) (w : World) : ∀ i, i < 2 → (w.alloc (.cells #[.int .u8 a, .int .u8 b] 5)).cell? ⟨w.heap.size, 0 + i, none⟩ = some (.int .u8 ([a, b].getD i 0)) := by
  intro i hi
  match i, hi with
  | 0, _ => simp
  | 1, _ => simp

/-- The two bytes as a text: its length, its bytes, and the conversion's run in the world in which the walk comes to it. -/
theorem pair_string (a b : Int) (p0 : 0 ≤ a) (q0 : a ≤ 255) (p1 : 0 ≤ b) (q1 : b ≤ 255) (w : World) :
    ∃ t : ByteArray, t.size = 2 ∧ (∀ (u : ByteArray) (h0 : 0 < (t ++ u).size) (h1 : 1 < (t ++ u).size), (((t ++ u)[0]'h0).toNat : Int) = a ∧ (((t ++ u)[1]'h1).toNat : Int) = b) ∧
      (convert 30 9 (.slice (some ⟨w.heap.size, 0, none⟩) 2 2)).run Yba.prog (w.alloc (.cells #[.int .u8 a, .int .u8 b] 5)) = .ok (.string t) (w.alloc (.cells #[.int .u8 a, .int .u8 b] 5)) := by
  refine ⟨strOfNums [a, b], rfl, ?_, run_convert_bytes_arg (P := Yba.prog) _ 30 5 Yba.underlying30 Yba.underlying5 w.heap.size 0 2 2 [a, b] rfl (cells_two a b w) 9 Yba.underlying9⟩
  intro u h0 h1
  have e0 : (strOfNums [a, b] ++ u)[0]'h0 = UInt8.ofNat a.toNat := by
    rw [ByteArray.getElem_append_left (by show 0 < 2; omega)]; rfl
  have e1 : (strOfNums [a, b] ++ u)[1]'h1 = UInt8.ofNat b.toNat := by
    rw [ByteArray.getElem_append_left (by show 1 < 2; omega)]; rfl
  rw [e0, e1]
  constructor
  · rw [UInt8.toNat_ofNat']; omega
  · rw [UInt8.toNat_ofNat']; omega

theorem check_pair (t u : ByteArray) (a b : Int) (p0 : 0 ≤ a) (q0 : a ≤ 255) (p1 : 0 ≤ b) (q1 : b ≤ 255) (ht : t.size = 2)
    (hb : ∀ (u : ByteArray) (h0 : 0 < (t ++ u).size) (h1 : 1 < (t ++ u).size), (((t ++ u)[0]'h0).toNat : Int) = a ∧ (((t ++ u)[1]'h1).toNat : Int) = b) (w : World) :
    Calls Yba.prog 9 #[.string (t ++ u)] w fun e w' => e = .returned (.bool true) ∧ w' = w.drew := by
  have h0 : 0 < (t ++ u).size := by rw [ByteArray.size_append]; omega
  have h1 : 1 < (t ++ u).size := by rw [ByteArray.size_append]; omega
  exact check_true (t ++ u) a b h0 h1 (hb u h0 h1).1 (hb u h0 h1).2 p0 q0 p1 q1 w
end Go.Proofs.Ybulkvwo
