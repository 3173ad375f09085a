/-
  The arguments of 'LawS1108ABuild' opened: a slice of strings; slices of structs of two integers.
-/
import Derived.Test.YbulkvxqChecked
import Derived.ProofKit
import Derived.SliceStrings
import Derived.Deep.SlicePairs
import Derived.OpenShut
namespace Go.Proofs.Ybulkvxq
open Go.ChangeShapes Go.WideShapes Go.RowKit Go.Deep

theorem pair_ints {H : Type} {enc : TypeId × Value → H} {t e : TypeId} {f0 f1 : Field} {k0 k1 : IntKind} {W : World} {ao : Option Addr} {m c : Nat} {d : DataW H} {ps : List MemPlace}
    (ht : Yba.prog.underlying t = some (.slice e)) (he : Yba.prog.underlying e = some (.struct #[f0, f1])) (ce : Yba.prog.cellsOf e = 2) (o0 : f0.offset = 0) (o1 : f1.offset = 1)
    (c0 : Yba.prog.cellsOf f0.type = 1) (c1 : Yba.prog.cellsOf f1.type = 1) (u0 : Yba.prog.underlying f0.type = some (.int k0)) (u1 : Yba.prog.underlying f1.type = some (.int k1))
    (h : DataW.Trod enc Yba.prog W 0 (fun _ => true) true t (.slice ao m c) d ps) :
    ∃ (b off : Nat) (A B : Nat → Int), (0 < m → ao = some ⟨b, off, none⟩) ∧ (∀ i, i < m → W.cell? ⟨b, off + i * 2, none⟩ = some (.int k0 (A i)) ∧ W.cell? ⟨b, off + i * 2 + 1, none⟩ = some (.int k1 (B i))) ∧
      (∀ i, (Lit.int k0 (A i)).wf = true) ∧ (∀ i, (Lit.int k1 (B i)).wf = true) := by
  have z : ∀ k : IntKind, (Lit.int k 0).wf = true := fun k => by cases k <;> decide
  obtain ⟨fuel, hf⟩ := h
  rcases open_slice_pairs ht he ce o0 o1 c0 c1 hf with ⟨hcs, _⟩ | ⟨a, len, cap, mm, n, V0, V1, D0, D1, P0, P1, hcs, _, hl, hm, hmm, _, hall⟩
  · simp [Value.cells] at hcs
    obtain ⟨rfl, rfl, rfl⟩ := hcs
    exact ⟨0, 0, fun _ => 0, fun _ => 0, fun h => by omega, fun i hi => by omega, fun _ => z _, fun _ => z _⟩
  · simp [Value.cells] at hcs
    obtain ⟨rfl, rfl, rfl⟩ := hcs
    simp only [if_true] at hmm
    subst hmm
    have each : ∀ i, i < m → ∃ x y : Int, V0 i = .int k0 x ∧ V1 i = .int k1 y ∧ (Lit.int k0 x).wf = true ∧ (Lit.int k1 y).wf = true := fun i hi => by
      obtain ⟨_, _, t0, t1⟩ := hall i (by omega)
      obtain ⟨x, hx, _, wx⟩ := DataW.trod_int u0 t0
      obtain ⟨y, hy, _, wy⟩ := DataW.trod_int u1 t1
      exact ⟨x, y, by simpa using hx, by simpa using hy, wx, wy⟩
    refine ⟨a.block, a.off, fun i => if i < m then intOf (V0 i) else 0, fun i => if i < m then intOf (V1 i) else 0, fun h0 => ?_, fun i hi => ?_, fun i => ?_, fun i => ?_⟩
    · have hs := World.cell?_spot (hall 0 (by omega)).1
      obtain ⟨b, off, spot⟩ := a
      have : spot = none := by
        simpa [Addr.add] using hs
      subst this; rfl
    · obtain ⟨g0, g1, _, _⟩ := hall i (by omega)
      obtain ⟨x, y, hx, hy, _, _⟩ := each i hi
      have hs := World.cell?_spot (hall 0 (by omega)).1
      obtain ⟨b, off, spot⟩ := a
      have : spot = none := by
        simpa [Addr.add] using hs
      subst this
      rw [add_plain] at g0 g1
      simp only [if_pos hi]
      exact ⟨by rw [g0, hx]; rfl, by rw [show off + i * 2 + 1 = off + (i * 2 + 1) from by omega, g1, hy]; rfl⟩
    · by_cases hi : i < m
      · obtain ⟨x, y, hx, hy, wx, wy⟩ := each i hi
        simp only [if_pos hi, hx]; exact wx
      · simp only [if_neg hi]; exact z _
    · by_cases hi : i < m
      · obtain ⟨x, y, hx, hy, wx, wy⟩ := each i hi
        simp only [if_pos hi, hy]; exact wy
      · simp only [if_neg hi]; exact z _

theorem strs_open {H : Type} {enc : TypeId × Value → H} {W : World} {ao : Option Addr} {m c : Nat} {d : DataW H} {ps : List MemPlace}
    (h : DataW.Trod enc Yba.prog W 0 (fun _ => true) true 22 (.slice ao m c) d ps) :
    ∃ ss : Nat → ByteArray, (∀ i, (ss i).size ≤ maxLen) ∧ (0 < m → ∃ ad, ao = some ad ∧ ∀ j, j < m → W.cell? (ad.add j) = some (.string (ss j))) := by
  have z : (ByteArray.empty).size ≤ maxLen := Nat.zero_le _
  obtain ⟨fuel, hf⟩ := h
  rcases open_strings Yba.underlying22 Yba.underlying9 (by kernel_rfl) hf with ⟨hcs, _⟩ | ⟨a, len, cap, ss, hcs, _, hl, hm, hz, _, hcell, hws⟩
  · simp [Value.cells] at hcs
    obtain ⟨rfl, rfl, rfl⟩ := hcs
    exact ⟨fun _ => ByteArray.empty, fun _ => z, fun h => by omega⟩
  · simp [Value.cells] at hcs
    obtain ⟨rfl, rfl, rfl⟩ := hcs
    simp only [if_true] at hz
    refine ⟨fun i => ss.getD i ByteArray.empty, fun i => ?_, fun _ => ⟨a, rfl, fun j hj => hcell j (by omega)⟩⟩
    by_cases hi : i < ss.length
    · have : ss.getD i ByteArray.empty = ss[i] := by simp [hi]
      show (ss.getD i ByteArray.empty).size ≤ maxLen
      rw [this]; exact hws _ (List.getElem_mem hi)
    · have : ss.getD i ByteArray.empty = ByteArray.empty := by simp [List.getElem?_eq_none (Nat.le_of_not_lt hi)]
      show (ss.getD i ByteArray.empty).size ≤ maxLen
      rw [this]; exact z
end Go.Proofs.Ybulkvxq
