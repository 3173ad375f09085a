/-
  AddrFrom4 (16), AddrFrom16 (17), As16 (10).
-/
import Derived.Test.YbulkweqDoorAddr
namespace Go.Proofs.YbulkweqDoor
open Go.RowKit Go.Deep

/-- The sixteen bytes of an IPv4 address. -/
def v4 (F : Nat → Int) (i : Nat) : Int := if i < 10 then 0 else if i < 12 then 255 else F (i - 12)

theorem v4_hi (F : Nat → Int) : be8 (v4 F) 0 = 0 := by simp [be8, v4]
theorem v4_lo (F : Nat → Int) : be8 (v4 F) 8 = 281470681743360 + F 0 * 16777216 + F 1 * 65536 + F 2 * 256 + F 3 := by simp [be8, v4]; omega

theorem or4 (f0 f1 f2 f3 : Int) (a0 : 0 ≤ f0) (b0 : f0 < 256) (a1 : 0 ≤ f1) (b1 : f1 < 256) (a2 : 0 ≤ f2) (b2 : f2 < 256) (a3 : 0 ≤ f3) (b3 : f3 < 256) :
    bits .or .u64 (bits .or .u64 (bits .or .u64 (bits .or .u64 281470681743360 (f0 * 16777216)) (f1 * 65536)) (f2 * 256)) f3 = 281470681743360 + f0 * 16777216 + f1 * 65536 + f2 * 256 + f3 := by
  rw [bits_join .u64 64 (by decide) wraps_u64 32 281470681743360 (f0 * 16777216) (by omega) (by omega) (by omega) (by omega) (by omega) (by omega),
    bits_join .u64 64 (by decide) wraps_u64 24 _ (f1 * 65536) (by omega) (by omega) (by omega) (by omega) (by omega) (by omega),
    bits_join .u64 64 (by decide) wraps_u64 16 _ (f2 * 256) (by omega) (by omega) (by omega) (by omega) (by omega) (by omega),
    bits_join .u64 64 (by decide) wraps_u64 8 _ f3 (by omega) (by omega) (by omega) (by omega) (by omega) (by omega)]

set_option maxHeartbeats 400000 in
theorem from4_any (F : Nat → Int) (hF : ∀ i, 0 ≤ F i ∧ F i < 256) (pz : Option Addr) (w : World) (hz : w.cell? ⟨1, 0, none⟩ = some (.pointer pz)) :
    Calls Ybad.prog 16 #[.agg #[.int .u8 (F 0), .int .u8 (F 1), .int .u8 (F 2), .int .u8 (F 3)]] w fun e w' => e = .returned (.agg #[.int .u64 (be8 (v4 F) 0), .int .u64 (be8 (v4 F) 8), .pointer pz]) ∧ Below w.heap.size w w' := by
  obtain ⟨a0, b0⟩ := hF 0
  obtain ⟨a1, b1⟩ := hF 1
  obtain ⟨a2, b2⟩ := hF 2
  obtain ⟨a3, b3⟩ := hF 3
  rw [v4_hi, v4_lo, ← or4 _ _ _ _ a0 b0 a1 b1 a2 b2 a3 b3]
  clear hF
  generalize F 0 = f0 at *
  generalize F 1 = f1 at *
  generalize F 2 = f2 at *
  generalize F 3 = f3 at *
  have d : ∀ o o', ((w.alloc o).alloc o').cell? ⟨1, 0, none⟩ = some (.pointer pz) := fun o o' => cell?_alloc_old o' (cell?_alloc_old o hz)
  go_enter Ybad.func16, Ybad.ntmps16
  go_wp2
  refine bodyPost_ret (v := .agg #[.int .u64 0, .int .u64 (bits .or .u64 (bits .or .u64 (bits .or .u64 (bits .or .u64 281470681743360 (f0 * 16777216)) (f1 * 65536)) (f2 * 256)) f3), .pointer pz]) (by simp [results, Ybad.results16, go_sem]) rfl ⟨rfl, ?_⟩
  exact ((Below.refl _ _).alloc (Nat.le_refl _) _).alloc (by simp) _

/-- Sixteen bytes. -/
abbrev row16 (Z : Nat → Int) (z : Nat) : Array Value := #[.int .u8 (Z z), .int .u8 (Z (z + 1)), .int .u8 (Z (z + 2)), .int .u8 (Z (z + 3)), .int .u8 (Z (z + 4)), .int .u8 (Z (z + 5)), .int .u8 (Z (z + 6)), .int .u8 (Z (z + 7)), .int .u8 (Z (z + 8)), .int .u8 (Z (z + 9)), .int .u8 (Z (z + 10)), .int .u8 (Z (z + 11)), .int .u8 (Z (z + 12)), .int .u8 (Z (z + 13)), .int .u8 (Z (z + 14)), .int .u8 (Z (z + 15))]
theorem row16_at (Z : Nat → Int) (z k : Nat) (h : k < 16) : (row16 Z z)[k]? = some (.int .u8 (Z (z + k))) := by
  rcases k with _ | _ | _ | _ | _ | _ | _ | _ | _ | _ | _ | _ | _ | _ | _ | _ | k
  all_goals first | rfl | omega

theorem below_fill (w : World) (o1 o2 : Obj) (m : Nat) (v0 v1 v2 : Value) : Below w.heap.size w ((((((w.alloc o1).alloc o2).drewN m).setCell ⟨w.heap.size + 1, 0, none⟩ v0).setCell ⟨w.heap.size + 1, 1, none⟩ v1).setCell ⟨w.heap.size + 1, 2, none⟩ v2) := by
  have h : Below w.heap.size w (((w.alloc o1).alloc o2).drewN m) := (((Below.refl _ _).alloc (Nat.le_refl _) _).alloc (by simp) _).trans ⟨rfl, rfl, rfl, Nat.le_refl _, fun _ _ => rfl⟩
  have hb : ∀ i, w.heap.size ≤ (⟨w.heap.size + 1, i, none⟩ : Addr).block := fun _ => Nat.le_succ _
  exact ((h.setCell (hb _) v0).setCell (hb _) v1).setCell (hb _) v2

set_option maxHeartbeats 1000000 in
theorem from16_any (Z : Nat → Int) (hZ : ∀ i, 0 ≤ Z i ∧ Z i < 256) (z : Nat) (pz : Option Addr) (w : World) (hz : w.cell? ⟨2, 0, none⟩ = some (.pointer pz)) :
    Calls Ybad.prog 17 #[.agg (row16 Z z)] w fun e w' => e = .returned (.agg #[.int .u64 (be8 Z z), .int .u64 (be8 Z (z + 8)), .pointer pz]) ∧ Below w.heap.size w w' := by
  have d : ∀ o o', ((w.alloc o).alloc o').cell? ⟨2, 0, none⟩ = some (.pointer pz) := fun o o' => cell?_alloc_old o' (cell?_alloc_old o hz)
  have nb : ((w.alloc (.cells (row16 Z z) 45)).alloc (.cells #[.int .u64 0, .int .u64 0, .pointer none] 36)).heap[w.heap.size]? = some (.cells (row16 Z z) 45) := blk_alloc (blk_new w _) _
  have q : ∀ (W : World), W.heap = ((w.alloc (.cells (row16 Z z) 45)).alloc (.cells #[.int .u64 0, .int .u64 0, .pointer none] 36)).heap → Calls Ybad.prog 18 #[.slice (some ⟨w.heap.size, 0, none⟩) 8 16] W fun e w' => e = .returned (.int .u64 (be8 Z z)) ∧ ∃ m, w' = W.drewN m := fun W h =>
    beUint64_any Z hZ w.heap.size 0 8 16 z W (Nat.le_refl _) fun k hk => by rw [Nat.zero_add]; exact cell_row (by rw [h]; exact nb) (row16_at Z z k (by omega))
  have q' : ∀ (W : World), W.heap = ((w.alloc (.cells (row16 Z z) 45)).alloc (.cells #[.int .u64 0, .int .u64 0, .pointer none] 36)).heap → Calls Ybad.prog 18 #[.slice (some ⟨w.heap.size, 8, none⟩) 8 8] W fun e w' => e = .returned (.int .u64 (be8 Z (z + 8))) ∧ ∃ m, w' = W.drewN m := fun W h =>
    beUint64_any Z hZ w.heap.size 8 8 8 (z + 8) W (Nat.le_refl _) fun k hk => by rw [Nat.add_assoc]; exact cell_row (by rw [h]; exact nb) (row16_at Z z (8 + k) (by omega))
  generalize hV : be8 Z z = V at *
  generalize hV' : be8 Z (z + 8) = V' at *
  clear nb hz hV hV' hZ
  go_enter Ybad.func17, Ybad.ntmps17
  go_wp2
  go_region_with (first | (go_at_call_of 18 (Value.slice (some ⟨w.heap.size, 0, none⟩) 8 16); refine (q _ ?hh).mono ?_; (case hh => rfl); rintro e w' ⟨rfl, m, rfl⟩) | (go_at_call_of 18 (Value.slice (some ⟨w.heap.size, 8, none⟩) 8 8); refine (q' _ ?hh).mono ?_; (case hh => rfl); rintro e w' ⟨rfl, m, rfl⟩))
  all_goals go_wp2
  all_goals refine bodyPost_ret (v := .agg #[.int .u64 V, .int .u64 V', .pointer pz]) (by simp [results, Ybad.results17, go_sem]) rfl ⟨rfl, ?_⟩
  all_goals exact below_fill w _ _ _ _ _ _
end Go.Proofs.YbulkweqDoor
