/-
  The argument of 'LawS1121CBuilt' opened; the two listed variables.
-/
import Derived.Test.YbulkweqDoorRows
import Derived.Test.YbulkweqDoorBuild
import Derived.ProofKit
import Derived.LaidMore
import Derived.OpenShut
import Derived.ChangeSlices
import Derived.ChangeSame
namespace Go.Proofs.YbulkweqDoor
open Go.ChangeShapes Go.WideShapes Go.ChangeAt Go.RowKit Go.Deep

theorem cells34 : Ybad.prog.cellsOf 34 = 1 := by kernel_rfl
theorem cells32 : Ybad.prog.cellsOf 32 = 1 := by kernel_rfl
theorem cells25 : Ybad.prog.cellsOf 25 = 9 := by kernel_rfl
theorem cells23 : Ybad.prog.cellsOf 23 = 1 := by kernel_rfl
theorem cells22 : Ybad.prog.cellsOf 22 = 1 := by kernel_rfl
theorem cells5 : Ybad.prog.cellsOf 5 = 1 := by kernel_rfl
theorem gZ4 : Ybad.prog.globalNamed "net/netip.z4" = some 1 := by kernel_rfl
theorem gZ6 : Ybad.prog.globalNamed "net/netip.z6noz" = some 2 := by kernel_rfl
theorem tZ4 : (Ybad.prog.globals[1]?).map (·.type) = some 34 := by kernel_rfl
theorem tZ6 : (Ybad.prog.globals[2]?).map (·.type) = some 34 := by kernel_rfl

theorem u8_bounds {x : Int} (h : (Lit.int .u8 x).wf = true) : 0 ≤ x ∧ x < 256 := by
  simp [Lit.wf, IntKind.min, IntKind.max, IntKind.signed, IntKind.bits] at h
  omega
theorem u16_bounds {x : Int} (h : (Lit.int .u16 x).wf = true) : 0 ≤ x ∧ x < 65536 := by
  simp [Lit.wf, IntKind.min, IntKind.max, IntKind.signed, IntKind.bits] at h
  omega

theorem handle_ptr {H : Type} {enc : TypeId × Value → H} {W : World} {base : Nat} {spare : Nat → Bool} {held : Bool} {fuel : Nat} {cs : List Value} {x : DataW H × List MemPlace} (h : DataW.trod enc Ybad.prog W base spare held fuel 34 cs = some x) : ∃ p, cs = [.pointer p] := by
  obtain ⟨y0, n, _, hl, h0⟩ := trod_struct1 Ybad.underlying34 h
  rw [cells34] at hl
  match cs, hl with
  | [c], _ =>
    have h0' : DataW.trod enc Ybad.prog W base spare held n 32 [c] = some y0 := by simpa [cells32] using h0
    rcases DataW.trod_pointer Ybad.underlying32 h0' with ⟨e, _⟩ | ⟨a, _, _, _, _, e, _⟩
    · exact ⟨_, e⟩
    · exact ⟨_, e⟩

/-- What the condition gives the walks. -/
theorem of_laid {W : World} (h : laidMetH Ybad.prog Rows.lawS1121CBuiltRow.laid W) : ∃ p4 p6, W.cell? ⟨1, 0, none⟩ = some (.pointer p4) ∧ W.cell? ⟨2, 0, none⟩ = some (.pointer p6) := by
  rw [MakeChecks.laidMetH_plain _ _ _ (by kernel_rfl)] at h
  obtain ⟨ps, ⟨g0, t0, cs0, f0, p0, q0, hg0, ht0, hv0, hd0, ⟨g1, t1, cs1, f1, p1, q1, hg1, ht1, hv1, hd1, _, _⟩, _⟩, _, _⟩ := h
  obtain rfl := Option.some.inj (gZ4.symm.trans hg0)
  obtain rfl := Option.some.inj (gZ6.symm.trans hg1)
  obtain rfl := Option.some.inj (tZ4.symm.trans ht0)
  obtain rfl := Option.some.inj (tZ6.symm.trans ht1)
  obtain ⟨p4, e4⟩ := handle_ptr hd0
  obtain ⟨p6, e6⟩ := handle_ptr hd1
  refine ⟨p4, p6, ?_, ?_⟩
  · have := World.var?_cell hg0 hv0 0
    rw [Array.eq_one_of_toList e4] at this
    simpa using this
  · have := World.var?_cell hg1 hv1 0
    rw [Array.eq_one_of_toList e6] at this
    simpa using this

theorem body_open {H : Type} {enc : TypeId × Value → H} {W : World} {fuel : Nat} {c : Value} {x : DataW H × List MemPlace} (h : DataW.trod enc Ybad.prog W 0 (fun _ => true) true fuel 23 [c] = some x) :
    ∃ (ba : Option Addr) (n cb bb bo : Nat) (B : Nat → Int), c = .slice ba n cb ∧ (∀ i, 0 ≤ B i ∧ B i < 256) ∧ (0 < n → ba = some ⟨bb, bo, none⟩) ∧ (∀ i, i < n → W.cell? ⟨bb, bo + i, none⟩ = some (.int .u8 (B i))) ∧ (ba = none → n = 0 ∧ cb = 0) := by
  rcases open_ints Ybad.underlying23 Ybad.underlying5 cells5 h with ⟨hcs, _⟩ | ⟨a, len, cap, zs, hcs, _, hl, _, hz, _, hcell, hwf⟩
  · simp at hcs
    exact ⟨none, 0, 0, 0, 0, fun _ => 0, hcs, fun _ => ⟨Int.le_refl 0, show (0 : Int) < 256 by omega⟩, fun h => by omega, fun i hi => by omega, fun _ => ⟨rfl, rfl⟩⟩
  · simp at hcs
    simp only [if_true] at hz
    have hsp : 0 < len → a.spot = none := fun h0 => by
      have hs := World.cell?_spot (hcell 0 (by omega))
      obtain ⟨b, off, spot⟩ := a
      simpa [Addr.add] using hs
    refine ⟨some a, len, cap, a.block, a.off, fun i => zs.getD i 0, hcs, fun i => ?_, fun h0 => ?_, fun i hi => ?_, fun h => by cases h⟩
    · by_cases hi : i < zs.length
      · have e : zs.getD i 0 = zs[i] := by simp [hi]
        show 0 ≤ zs.getD i 0 ∧ zs.getD i 0 < 256
        rw [e]; exact u8_bounds (hwf _ (List.getElem_mem hi))
      · have e : zs.getD i 0 = 0 := by simp [List.getElem?_eq_none (Nat.le_of_not_lt hi)]
        show 0 ≤ zs.getD i 0 ∧ zs.getD i 0 < 256
        rw [e]; decide
    · have := hsp h0
      obtain ⟨b, off, spot⟩ := a
      simp at this; subst this; rfl
    · have := hsp (by omega)
      have hc := hcell i (by omega)
      obtain ⟨b, off, spot⟩ := a
      simp at this; subst this
      rw [Addr.add_lit] at hc
      exact hc

/-- The argument, opened. -/
theorem arg_open {H : Type} {enc : TypeId × Value → H} {W : World} {base : Nat} {v : Value} {d : DataW H} {p : List MemPlace} (hv : Value.okWide Ybad.prog W .any base 25 v) (h : DataW.Trod enc Ybad.prog W 0 (fun _ => true) true 25 v d p) :
    ∃ (tags tk kind raw flip ihl total cut : Int) (ba : Option Addr) (n cb bb bo : Nat) (B : Nat → Int), v = .agg (argX tags tk kind raw flip ihl total cut ba n cb) ∧
      (0 ≤ tags ∧ tags < 256) ∧ (0 ≤ tk ∧ tk < 256) ∧ (0 ≤ kind ∧ kind < 256) ∧ (0 ≤ raw ∧ raw < 65536) ∧ (0 ≤ flip ∧ flip < 256) ∧ (0 ≤ ihl ∧ ihl < 256) ∧ (0 ≤ total ∧ total < 65536) ∧ (0 ≤ cut ∧ cut < 256) ∧
      (∀ i, 0 ≤ B i ∧ B i < 256) ∧ (0 < n → ba = some ⟨bb, bo, none⟩) ∧ (∀ i, i < n → W.cell? ⟨bb, bo + i, none⟩ = some (.int .u8 (B i))) ∧ (ba = none → n = 0 ∧ cb = 0) := by
  obtain ⟨cs, rfl, hsz⟩ := okWide_struct Ybad.underlying25 hv
  rw [cells25] at hsz
  obtain ⟨l⟩ := cs
  obtain ⟨fuel, hf⟩ := h
  match l, hsz with
  | [c0, c1, c2, c3, c4, c5, c6, c7, c8], _ =>
    obtain ⟨xs, m, _, _, _, hlen, hfs⟩ := DataW.trod_struct Ybad.underlying25 hf
    match xs, hlen with
    | [y0, y1, y2, y3, y4, y5, y6, y7, y8], _ =>
      have h0 : DataW.trod enc Ybad.prog W 0 (fun _ => true) true m 5 [c0] = some y0 := by simpa [Value.cells, cells5] using hfs 0 _ rfl
      have h1 : DataW.trod enc Ybad.prog W 0 (fun _ => true) true m 5 [c1] = some y1 := by simpa [Value.cells, cells5] using hfs 1 _ rfl
      have h2 : DataW.trod enc Ybad.prog W 0 (fun _ => true) true m 5 [c2] = some y2 := by simpa [Value.cells, cells5] using hfs 2 _ rfl
      have h3 : DataW.trod enc Ybad.prog W 0 (fun _ => true) true m 22 [c3] = some y3 := by simpa [Value.cells, cells22] using hfs 3 _ rfl
      have h4 : DataW.trod enc Ybad.prog W 0 (fun _ => true) true m 5 [c4] = some y4 := by simpa [Value.cells, cells5] using hfs 4 _ rfl
      have h5 : DataW.trod enc Ybad.prog W 0 (fun _ => true) true m 5 [c5] = some y5 := by simpa [Value.cells, cells5] using hfs 5 _ rfl
      have h6 : DataW.trod enc Ybad.prog W 0 (fun _ => true) true m 22 [c6] = some y6 := by simpa [Value.cells, cells22] using hfs 6 _ rfl
      have h7 : DataW.trod enc Ybad.prog W 0 (fun _ => true) true m 23 [c7] = some y7 := by simpa [Value.cells, cells23] using hfs 7 _ rfl
      have h8 : DataW.trod enc Ybad.prog W 0 (fun _ => true) true m 5 [c8] = some y8 := by simpa [Value.cells, cells5] using hfs 8 _ rfl
      obtain ⟨a0, e0, _, w0⟩ := DataW.trod_int Ybad.underlying5 h0
      obtain ⟨a1, e1, _, w1⟩ := DataW.trod_int Ybad.underlying5 h1
      obtain ⟨a2, e2, _, w2⟩ := DataW.trod_int Ybad.underlying5 h2
      obtain ⟨a3, e3, _, w3⟩ := DataW.trod_int Ybad.underlying22 h3
      obtain ⟨a4, e4, _, w4⟩ := DataW.trod_int Ybad.underlying5 h4
      obtain ⟨a5, e5, _, w5⟩ := DataW.trod_int Ybad.underlying5 h5
      obtain ⟨a6, e6, _, w6⟩ := DataW.trod_int Ybad.underlying22 h6
      obtain ⟨a8, e8, _, w8⟩ := DataW.trod_int Ybad.underlying5 h8
      obtain ⟨ba, n, cb, bb, bo, B, rfl, b1, b2, b3, b4⟩ := body_open h7
      simp only [List.cons.injEq, and_true] at e0 e1 e2 e3 e4 e5 e6 e8
      subst e0 e1 e2 e3 e4 e5 e6 e8
      exact ⟨a0, a1, a2, a3, a4, a5, a6, a8, ba, n, cb, bb, bo, B, rfl, u8_bounds w0, u8_bounds w1, u8_bounds w2, u16_bounds w3, u8_bounds w4, u8_bounds w5, u16_bounds w6, u8_bounds w8, b1, b2, b3, b4⟩
end Go.Proofs.YbulkweqDoor
