/-
  'zzs1121caddr' (9).
-/
import Derived.Test.YbulkweqDoorAs
import Derived.Deep.DeepCutAuto
namespace Go.Proofs.YbulkweqDoor
open Go.RowKit Go.Deep

theorem below_drewN {w W : World} {B : Nat} (h : Below B w W) (m : Nat) : Below B w (W.drewN m) := h.trans ⟨rfl, rfl, rfl, Nat.le_refl _, fun _ _ => rfl⟩

set_option maxRecDepth 100000 in
set_option maxHeartbeats 1000000 in
theorem addr_six (Y Z : Nat → Int) (y fb p L cap : Nat) (w : World) (hc : ∀ i, i < L → w.cell? ⟨fb, i, none⟩ = some (.int .u8 (Z i))) (hp : p + 16 ≤ L) (hL : L ≤ 4096) (hY : ∀ i, i < 16 → Y (y + i) = Z (p + i)) :
    Calls Ybad.prog 9 #[.agg (row16 Y y), .slice (some ⟨fb, 0, none⟩) L cap, .int .i64 (p : Int), .bool true] w fun e w' => e = .returned (.bool true) ∧ Below w.heap.size w w' := by
  obtain ⟨W0, hW0⟩ : ∃ W0, W0 = w.alloc (.cells (row16 Y y) 45) := ⟨_, rfl⟩
  have cA : Hid (∀ i, i < 16 → W0.cell? ⟨w.heap.size, i, none⟩ = some (.int .u8 (Z (p + i)))) := by
    intro i hi
    rw [hW0, ← hY i hi]
    exact cell_row (blk_new w _) (row16_at Y y i hi)
  have cB : Hid (∀ i, i < 16 → W0.cell? ⟨fb, p + i, none⟩ = some (.int .u8 (Z (p + i)))) := by
    intro i hi
    rw [hW0]
    exact cell?_alloc_old _ (hc (p + i) (by omega))
  have hB : Hid (Below w.heap.size w W0) := by rw [hW0]; exact (Below.refl _ _).alloc (Nat.le_refl _) _
  have HW : Hid (W0 = w.alloc (.cells (row16 Y y) 45)) := hW0
  clear hc hY hW0
  go_enter Ybad.func9, Ybad.ntmps9
  go_wp2
  go_loopw [9] (fun v wr => ∃ i m : Nat, i ≤ 16 ∧ v = .int .i64 (i : Int) ∧ wr = W0.drewN m) (fun v _ => (16 - intOf v).toNat)
  case atStart => exact ⟨0, 0, by omega, rfl, HW.out.symm⟩
  case round =>
    obtain ⟨i, m, hi, rfl, rfl⟩ := hrel
    by_cases h16 : i = 16
    · have kk : decide ((i : Int) < 16) = false := by simp; omega
      clear h16
      go_wp2
      exact bodyPost_ret (v := .bool true) (by simp [results, Ybad.results9, go_sem]) rfl ⟨rfl, below_drewN hB.out m⟩
    · have kk : decide ((i : Int) < 16) = true := by simp; omega
      have c1 := cA.out i (by omega)
      have c2 := cB.out i (by omega)
      have w1 : IntKind.i64.wrap ((p : Int) + (i : Int)) = ((p + i : Nat) : Int) := by rw [IntKind.wrap_i64]; omega
      have w2 : IntKind.i64.wrap ((i : Int) + 1) = ((i + 1 : Nat) : Int) := by rw [IntKind.wrap_i64]; omega
      have b1 : i < 16 := by omega
      have b2 : p + i < L := by omega
      have b3 : (i : Int) < 16 := by omega
      have b4 : (p : Int) + (i : Int) < (L : Int) := by omega
      clear h16
      go_upto_region 5 with fail
      go_region
      all_goals go_wp2
      all_goals (go_roundw; (case rel => exact ⟨i + 1, m + 1, by omega, by go_num, rfl⟩); (case measure => simp [intOf]; omega))
set_option maxRecDepth 100000 in
set_option maxHeartbeats 1000000 in
theorem addr_four (F Z : Nat → Int) (fb p L cap : Nat) (w : World) (hc : ∀ i, i < L → w.cell? ⟨fb, i, none⟩ = some (.int .u8 (Z i))) (hp : p + 4 ≤ L) (hL : L ≤ 4096) (hF : ∀ i, i < 4 → F i = Z (p + i)) :
    Calls Ybad.prog 9 #[.agg (row16 (v4 F) 0), .slice (some ⟨fb, 0, none⟩) L cap, .int .i64 (p : Int), .bool false] w fun e w' => e = .returned (.bool true) ∧ Below w.heap.size w w' := by
  obtain ⟨W0, hW0⟩ : ∃ W0, W0 = w.alloc (.cells (row16 (v4 F) 0) 45) := ⟨_, rfl⟩
  have row : ∀ i, i < 16 → W0.cell? ⟨w.heap.size, i, none⟩ = some (.int .u8 (v4 F i)) := by
    intro i hi
    rw [hW0, ← Nat.zero_add i]
    exact cell_row (blk_new w _) (by rw [Nat.zero_add]; have := row16_at (v4 F) 0 i hi; rwa [Nat.zero_add] at this)
  have cA : Hid (∀ i, i < 10 → W0.cell? ⟨w.heap.size, i, none⟩ = some (.int .u8 0)) := by
    intro i hi
    rw [row i (by omega), v4, if_pos hi]
  have c10 : W0.cell? ⟨w.heap.size, 10, none⟩ = some (.int .u8 255) := row 10 (by omega)
  have c11 : W0.cell? ⟨w.heap.size, 11, none⟩ = some (.int .u8 255) := row 11 (by omega)
  have cC : Hid (∀ i, i < 4 → W0.cell? ⟨w.heap.size, 12 + i, none⟩ = some (.int .u8 (Z (p + i)))) := by
    intro i hi
    rw [row (12 + i) (by omega), v4, if_neg (by omega), if_neg (by omega), ← hF i hi, show 12 + i - 12 = i by omega]
  have cB : Hid (∀ i, i < 4 → W0.cell? ⟨fb, p + i, none⟩ = some (.int .u8 (Z (p + i)))) := by
    intro i hi
    rw [hW0]
    exact cell?_alloc_old _ (hc (p + i) (by omega))
  have hB : Hid (Below w.heap.size w W0) := by rw [hW0]; exact (Below.refl _ _).alloc (Nat.le_refl _) _
  have HW : Hid (W0 = w.alloc (.cells (row16 (v4 F) 0) 45)) := hW0
  clear hc hF hW0 row
  go_enter Ybad.func9, Ybad.ntmps9
  go_wp2
  go_loopw [10] (fun v wr => ∃ i m : Nat, i ≤ 10 ∧ v = .int .i64 (i : Int) ∧ wr = W0.drewN m) (fun v _ => (10 - intOf v).toNat)
  case atStart => exact ⟨0, 0, by omega, rfl, HW.out.symm⟩
  case round =>
    obtain ⟨i, m0, hi, rfl, rfl⟩ := hrel
    by_cases h16 : i = 10
    · have kk : decide ((i : Int) < 10) = false := by simp; omega
      clear h16
      go_wp2
      go_loopw [11] (fun v wr' => ∃ i m : Nat, i ≤ 4 ∧ v = .int .i64 (i : Int) ∧ wr' = W0.drewN m) (fun v _ => (4 - intOf v).toNat)
      case atStart => exact ⟨0, m0, by omega, rfl, rfl⟩
      case round =>
        obtain ⟨j, m, hj, rfl, rfl⟩ := hrel
        by_cases h4 : j = 4
        · have kj : decide ((j : Int) < 4) = false := by simp; omega
          clear h4
          go_wp2
          exact bodyPost_ret (v := .bool true) (by simp [results, Ybad.results9, go_sem]) rfl ⟨rfl, below_drewN hB.out m⟩
        · have kj : decide ((j : Int) < 4) = true := by simp; omega
          have c1 := cC.out j (by omega)
          have c2 := cB.out j (by omega)
          have w1 : IntKind.i64.wrap ((p : Int) + (j : Int)) = ((p + j : Nat) : Int) := by rw [IntKind.wrap_i64]; omega
          have w2 : IntKind.i64.wrap ((j : Int) + 1) = ((j + 1 : Nat) : Int) := by rw [IntKind.wrap_i64]; omega
          have w3 : IntKind.i64.wrap (12 + (j : Int)) = ((12 + j : Nat) : Int) := by rw [IntKind.wrap_i64]; omega
          have b1 : 12 + j < 16 := by omega
          have b2 : p + j < L := by omega
          have b3 : 12 + (j : Int) < 16 := by omega
          have b4 : (p : Int) + (j : Int) < (L : Int) := by omega
          clear h4
          go_upto_region 18 with fail
          go_region
          all_goals go_wp2
          all_goals (go_roundw; (case rel => exact ⟨j + 1, m + 1, by omega, by go_num, rfl⟩); (case measure => simp [intOf]; omega))
    · have kk : decide ((i : Int) < 10) = true := by simp; omega
      have c1 := cA.out i (by omega)
      have w2 : IntKind.i64.wrap ((i : Int) + 1) = ((i + 1 : Nat) : Int) := by rw [IntKind.wrap_i64]; omega
      have b1 : i < 16 := by omega
      have b3 : (i : Int) < 16 := by omega
      have b5 : i < 10 := by omega
      clear h16
      go_wp2
      go_roundw
      case rel => exact ⟨i + 1, m0, by omega, by go_num, rfl⟩
      case measure => simp [intOf]; omega
end Go.Proofs.YbulkweqDoor
