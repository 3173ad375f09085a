/-
  Small laws for the second half of the walk over 'LawS1108ABuild'.
-/
import Derived.Test.YbulkvxqFin
import Derived.ChangeKeysEq
namespace Go.Proofs.Ybulkvxq
open Go.RowKit Go.Maps Go.Deep

theorem look_ok_fill {w : World} {b q : Nat} {N : Nat → ByteArray} {n : Nat} (h : w.ownsMap Yba.prog 9 (plainElem Yba.prog 3) b q (fillD N (fun i => (i : Int)) n)) (s : ByteArray) (hs : s.size ≤ maxLen) (hl : 0 ≤ lastTo N s n) :
    (Instr.lookup 29 (.map (some b)) (.string s) true).run Yba.prog w = .ok (.tuple #[.int .i64 (lastTo N s n), .bool true]) w := by
  obtain ⟨v, ps, hrun, hv⟩ := h.look_ok keyed Yba.underlying29 (zero3 _) (plainElem_int Yba.underlying3 (by decide)) (keyOf_str s hs)
  obtain ⟨c, rfl, hc, _⟩ := plainElem_int_inv Yba.underlying3 hv
  rw [fillD_at, lastVal_index N s n hl] at hc
  rw [hrun, fillD_has]
  have : c = lastTo N s n := by simp at hc; exact hc.1.symm
  rw [this]
  simp [hl]

theorem info9' : ∃ i, Yba.prog.info? 9 = some i := ⟨_, rfl⟩
theorem info3' : ∃ i, Yba.prog.info? 3 = some i := ⟨_, rfl⟩
theorem cells9' : Yba.prog.cellsOf 9 = 1 := by kernel_rfl
theorem cells3' : Yba.prog.cellsOf 3 = 1 := by kernel_rfl

theorem neq28 (a b : ByteArray) (w : World) : (binOp .neq 28 (.agg #[.string a, .string b]) (.agg #[.string a, .string b])).run Yba.prog w = .ok (.bool false) w := by
  obtain ⟨i, hi⟩ := info9'
  rw [run_neq_struct, run_equalIn_array w 9999 _ _ Yba.underlying28 hi]
  simp [Op.eqItems, cells9', List.range_succ, Yba.underlying9, go_sem]
theorem neq38 (a b : Int) (w : World) : (binOp .neq 38 (.agg #[.int .i64 a, .int .i64 b]) (.agg #[.int .i64 a, .int .i64 b])).run Yba.prog w = .ok (.bool false) w := by
  obtain ⟨i, hi⟩ := info3'
  rw [run_neq_struct, run_equalIn_array w 9999 _ _ Yba.underlying38 hi]
  simp [Op.eqItems, cells3', List.range_succ, Yba.underlying3, go_sem]
end Go.Proofs.Ybulkvxq
