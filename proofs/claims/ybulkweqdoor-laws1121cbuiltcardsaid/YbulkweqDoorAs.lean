/-
  As16 (10).
-/
import Derived.Test.YbulkweqDoorFrom
namespace Go.Proofs.YbulkweqDoor
open Go.RowKit Go.Deep

abbrev zero16 : Array Value := #[.int .u8 0, .int .u8 0, .int .u8 0, .int .u8 0, .int .u8 0, .int .u8 0, .int .u8 0, .int .u8 0, .int .u8 0, .int .u8 0, .int .u8 0, .int .u8 0, .int .u8 0, .int .u8 0, .int .u8 0, .int .u8 0]
theorem put_two (Z : Nat → Int) (z : Nat) : put8c (put8c zero16 0 Z z) 8 Z (z + 8) = row16 Z z := by
  simp [put8c, row16]

theorem row16_one (Z : Nat → Int) (z : Nat) : (row16 Z z).all (·.oneCell') = true := by simp [row16, Value.oneCell']
theorem info45 (Z : Nat → Int) (z : Nat) : (Ybad.prog.info? 45).map (·.size) = some (row16 Z z).size := by kernel_rfl
theorem below_row {w w' : World} {B g : Nat} (h : Below B w w') (hg : B ≤ g) (cs : Array Value) : Below B w (w'.setRow g cs) :=
  ⟨by rw [setRow_os]; exact h.os, by rw [setRow_tape]; exact h.tape, by rw [setRow_output]; exact h.output, by rw [setRow_size]; exact h.size, fun b hb => by rw [setRow_other _ _ _ _ (by omega)]; exact h.block b hb⟩

set_option maxHeartbeats 1000000 in
theorem as16_any (Z : Nat → Int) (hZ : ∀ i, 0 ≤ Z i ∧ Z i < 256) (z : Nat) (pz : Option Addr) (w : World) :
    Calls Ybad.prog 10 #[.agg #[.int .u64 (be8 Z z), .int .u64 (be8 Z (z + 8)), .pointer pz]] w fun e w' => e = .returned (.agg (row16 Z z)) ∧ Below w.heap.size w w' := by
  have q : ∀ (W : World), W.heap = ((w.alloc (.cells #[.int .u64 (be8 Z z), .int .u64 (be8 Z (z + 8)), .pointer pz] 36)).alloc (.cells zero16 45)).heap → Below w.heap.size w W → Calls Ybad.prog 15 #[.slice (some ⟨w.heap.size + 1, 0, none⟩) 8 16, .int .u64 (be8 Z z)] W fun e w' =>
      e = .returned (.tuple #[]) ∧ w'.cell? ⟨w.heap.size, 1, none⟩ = some (.int .u64 (be8 Z (z + 8))) ∧ w'.heap[w.heap.size + 1]? = some (.cells (put8c zero16 0 Z z) 45) ∧ Below w.heap.size w w' := fun W h hB => by
    have h1 : W.heap[w.heap.size + 1]? = some (.cells zero16 45) := by
      rw [h]; have := blk_new (w.alloc (.cells #[.int .u64 (be8 Z z), .int .u64 (be8 Z (z + 8)), .pointer pz] 36)) (.cells zero16 45); simpa using this
    have h2 : W.heap[w.heap.size]? = some (.cells #[.int .u64 (be8 Z z), .int .u64 (be8 Z (z + 8)), .pointer pz] 36) := by
      rw [h]; exact blk_alloc (blk_new w _) _
    refine (bePut_any Z hZ z (w.heap.size + 1) 0 8 16 45 zero16 W (Nat.le_refl _) h1 (by decide)).mono ?_
    rintro e w' ⟨rfl, rfl⟩
    exact ⟨rfl, cell_row (by rw [put8_other Z z (by omega)]; exact h2) rfl, put8_blk Z z h1, put8_below Z z hB (by omega)⟩
  go_enter Ybad.func10, Ybad.ntmps10
  go_wp2
  go_region_with (go_at_call 15; refine (q _ ?hh ?hb).mono ?_; (case hh => rfl); (case hb => exact (((Below.refl _ _).alloc (Nat.le_refl _) _).alloc (by simp) _).drew); rintro e w' ⟨rfl, h1, h2, h3⟩)
  go_wp2
  have q2 : ∀ (W : World), W.heap = w'.heap → Below w.heap.size w W → Calls Ybad.prog 15 #[.slice (some ⟨w.heap.size + 1, 8, none⟩) 8 8, .int .u64 (be8 Z (z + 8))] W fun e w' =>
      e = .returned (.tuple #[]) ∧ w'.heap[w.heap.size + 1]? = some (.cells (row16 Z z) 45) ∧ Below w.heap.size w w' := fun W h hB => by
    refine (bePut_any Z hZ (z + 8) (w.heap.size + 1) 8 8 8 45 (put8c zero16 0 Z z) W (Nat.le_refl _) (by rw [h]; exact h2) (by simp [put8c])).mono ?_
    rintro e w' ⟨rfl, rfl⟩
    refine ⟨rfl, ?_, put8_below Z (z + 8) hB (by omega)⟩
    rw [← put_two]
    exact put8_blk Z (z + 8) (by rw [h]; exact h2)
  go_region_with (go_at_call 15; refine (q2 _ ?hh ?hb).mono ?_; (case hh => rfl); (case hb => exact h3.drew); rintro e w' ⟨rfl, h4, h5⟩)
  go_wp2_with (first | (refine wpList_load_row rfl 45 _ rfl (w.heap.size + 1) rfl 45 (row16 Z z) (0, 0) _ h4 Ybad.underlying45 rfl (info45 Z z) ?_) | (refine wpList_store_row rfl 45 _ _ rfl (w.heap.size + 1) (row16 Z z) rfl rfl 45 (row16 Z z) h4 (info45 Z z) rfl (row16_one Z z) ?_))
  refine bodyPost_ret (v := .agg (row16 Z z)) (results_cell_row Ybad.results10 _ _ (w.heap.size + 1) 45 (row16 Z z) (0, 0) _ rfl (setRow_heap _ _ _ _ _ _ h4) Ybad.underlying45 rfl (info45 Z z)) rfl ⟨rfl, below_row h5 (Nat.le_succ _) _⟩
end Go.Proofs.YbulkweqDoor
