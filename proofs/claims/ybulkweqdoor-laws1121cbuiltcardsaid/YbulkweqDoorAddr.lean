/-
  BEPutUint64 (15), AddrFrom4 (16).
-/
import Derived.Test.YbulkweqDoorBe
import Derived.Deep.RegionWith
namespace Go.Proofs.YbulkweqDoor
open Go.RowKit Go.Deep

theorem cell_row {w : World} {b i : Nat} {cs : Array Value} {t : TypeId} {v : Value} (h : w.heap[b]? = some (.cells cs t (0, 0))) (hv : cs[i]? = some v) : w.cell? ⟨b, i, none⟩ = some v := by
  simp [World.cell?, h, hv]
theorem free_row {w : World} {b i : Nat} {cs : Array Value} {t : TypeId} (h : w.heap[b]? = some (.cells cs t (0, 0))) : w.frozen? ⟨b, i, none⟩ = false := frozen_of_row w b i cs t h
theorem blk_lt {w : World} {b : Nat} {o : Obj} (h : w.heap[b]? = some o) : b < w.heap.size := lt_of_block h
theorem blk_alloc {w : World} {b : Nat} {o : Obj} (h : w.heap[b]? = some o) (o' : Obj) : (w.alloc o').heap[b]? = some o := by
  rw [Below.heap_alloc w o' b (blk_lt h)]; exact h
theorem blk_new (w : World) (o : Obj) : (w.alloc o).heap[w.heap.size]? = some o := by
  show (w.heap.push o)[w.heap.size]? = _
  simp

/-- Eight bytes written, the greatest first. -/
def put8 (w : World) (b o : Nat) (Z : Nat → Int) (z : Nat) : World :=
  (((((((w.setCell ⟨b, o, none⟩ (.int .u8 (Z z))).setCell ⟨b, o + 1, none⟩ (.int .u8 (Z (z + 1)))).setCell ⟨b, o + 2, none⟩ (.int .u8 (Z (z + 2)))).setCell ⟨b, o + 3, none⟩ (.int .u8 (Z (z + 3)))).setCell ⟨b, o + 4, none⟩ (.int .u8 (Z (z + 4)))).setCell ⟨b, o + 5, none⟩ (.int .u8 (Z (z + 5)))).setCell ⟨b, o + 6, none⟩ (.int .u8 (Z (z + 6)))).setCell ⟨b, o + 7, none⟩ (.int .u8 (Z (z + 7)))
def put8c (cs : Array Value) (o : Nat) (Z : Nat → Int) (z : Nat) : Array Value :=
  (((((((cs.setIfInBounds o (.int .u8 (Z z))).setIfInBounds (o + 1) (.int .u8 (Z (z + 1)))).setIfInBounds (o + 2) (.int .u8 (Z (z + 2)))).setIfInBounds (o + 3) (.int .u8 (Z (z + 3)))).setIfInBounds (o + 4) (.int .u8 (Z (z + 4)))).setIfInBounds (o + 5) (.int .u8 (Z (z + 5)))).setIfInBounds (o + 6) (.int .u8 (Z (z + 6)))).setIfInBounds (o + 7) (.int .u8 (Z (z + 7)))
theorem put8_blk {w : World} {b o : Nat} {cs : Array Value} {t : TypeId} (Z : Nat → Int) (z : Nat) (h : w.heap[b]? = some (.cells cs t (0, 0))) : (put8 w b o Z z).heap[b]? = some (.cells (put8c cs o Z z) t (0, 0)) :=
  heap_setCell_same _ b _ _ t _ (heap_setCell_same _ b _ _ t _ (heap_setCell_same _ b _ _ t _ (heap_setCell_same _ b _ _ t _ (heap_setCell_same _ b _ _ t _ (heap_setCell_same _ b _ _ t _ (heap_setCell_same _ b _ _ t _ (heap_setCell_same w b o cs t _ h)))))))
theorem put8_below {w w1 : World} {b o B : Nat} (Z : Nat → Int) (z : Nat) (h : Below B w w1) (hb : B ≤ b) : Below B w (put8 w1 b o Z z) :=
  (((((((h.setCell hb _).setCell hb _).setCell hb _).setCell hb _).setCell hb _).setCell hb _).setCell hb _).setCell hb _
theorem put8_other {w : World} {b o b' : Nat} (Z : Nat → Int) (z : Nat) (h : b' ≠ b) : (put8 w b o Z z).heap[b']? = w.heap[b']? := by
  unfold put8
  rw [heap_setCell_other _ _ _ _ h, heap_setCell_other _ _ _ _ h, heap_setCell_other _ _ _ _ h, heap_setCell_other _ _ _ _ h, heap_setCell_other _ _ _ _ h, heap_setCell_other _ _ _ _ h, heap_setCell_other _ _ _ _ h, heap_setCell_other _ _ _ _ h]

theorem be8_bytes (Z : Nat → Int) (hZ : ∀ i, 0 ≤ Z i ∧ Z i < 256) (o : Nat) : 0 ≤ be8 Z o ∧ be8 Z o < 18446744073709551616 ∧ be8 Z o / 72057594037927936 = Z o ∧ be8 Z o / 281474976710656 % 256 = Z (o + 1) ∧ be8 Z o / 1099511627776 % 256 = Z (o + 2) ∧ be8 Z o / 4294967296 % 256 = Z (o + 3) ∧
    be8 Z o / 16777216 % 256 = Z (o + 4) ∧ be8 Z o / 65536 % 256 = Z (o + 5) ∧ be8 Z o / 256 % 256 = Z (o + 6) ∧ be8 Z o % 256 = Z (o + 7) := by
  have h0 := hZ o
  have h1 := hZ (o + 1)
  have h2 := hZ (o + 2)
  have h3 := hZ (o + 3)
  have h4 := hZ (o + 4)
  have h5 := hZ (o + 5)
  have h6 := hZ (o + 6)
  have h7 := hZ (o + 7)
  unfold be8
  generalize Z o = z0 at *
  generalize Z (o + 1) = z1 at *
  generalize Z (o + 2) = z2 at *
  generalize Z (o + 3) = z3 at *
  generalize Z (o + 4) = z4 at *
  generalize Z (o + 5) = z5 at *
  generalize Z (o + 6) = z6 at *
  generalize Z (o + 7) = z7 at *
  omega

set_option maxHeartbeats 2000000 in
theorem bePut_any (Z : Nat → Int) (hZ : ∀ i, 0 ≤ Z i ∧ Z i < 256) (z : Nat) (b i n cap : Nat) (t : TypeId) (cs : Array Value) (w : World) (hi : 8 ≤ n) (hb : w.heap[b]? = some (.cells cs t (0, 0))) (hs : i + 8 ≤ cs.size) :
    Calls Ybad.prog 15 #[.slice (some ⟨b, i, none⟩) n cap, .int .u64 (be8 Z z)] w fun e w' => e = .returned (.tuple #[]) ∧ w' = put8 w b i Z z := by
  have q0 : 0 < n := by omega
  have q1 : (1 : Int) < (n : Int) := by omega
  have q2 : (2 : Int) < (n : Int) := by omega
  have q3 : (3 : Int) < (n : Int) := by omega
  have q4 : (4 : Int) < (n : Int) := by omega
  have q5 : (5 : Int) < (n : Int) := by omega
  have q6 : (6 : Int) < (n : Int) := by omega
  have q7 : (7 : Int) < (n : Int) := by omega
  have f0 : w.frozen? ⟨b, i, none⟩ = false := free_row hb
  have f1 : w.frozen? ⟨b, i + 1, none⟩ = false := free_row hb
  have f2 : w.frozen? ⟨b, i + 2, none⟩ = false := free_row hb
  have f3 : w.frozen? ⟨b, i + 3, none⟩ = false := free_row hb
  have f4 : w.frozen? ⟨b, i + 4, none⟩ = false := free_row hb
  have f5 : w.frozen? ⟨b, i + 5, none⟩ = false := free_row hb
  have f6 : w.frozen? ⟨b, i + 6, none⟩ = false := free_row hb
  have f7 : w.frozen? ⟨b, i + 7, none⟩ = false := free_row hb
  have hc : ∀ k, k < 8 → ∃ v, w.cell? ⟨b, i + k, none⟩ = some v := fun k hk => ⟨cs[i + k]'(by omega), cell_row hb (by simp)⟩
  obtain ⟨v0, c0⟩ := hc 0 (by omega)
  obtain ⟨v1, c1⟩ := hc 1 (by omega)
  obtain ⟨v2, c2⟩ := hc 2 (by omega)
  obtain ⟨v3, c3⟩ := hc 3 (by omega)
  obtain ⟨v4, c4⟩ := hc 4 (by omega)
  obtain ⟨v5, c5⟩ := hc 5 (by omega)
  obtain ⟨v6, c6⟩ := hc 6 (by omega)
  obtain ⟨v7, c7⟩ := hc 7 (by omega)
  rw [Nat.add_zero] at c0
  obtain ⟨e, e', e0, e1, e2, e3, e4, e5, e6, e7⟩ := be8_bytes Z hZ z
  unfold put8
  rw [← e0, ← e1, ← e2, ← e3, ← e4, ← e5, ← e6, ← e7]
  clear hc hb hs hZ e0 e1 e2 e3 e4 e5 e6 e7
  generalize be8 Z z = V at *
  obtain ⟨v, rfl⟩ := Int.eq_ofNat_of_zero_le e
  have hv : v < 18446744073709551616 := by omega
  clear e e'
  go_enter Ybad.func15, Ybad.ntmps15
  go_wp2
  go_end0
  exact ⟨rfl, rfl⟩
end Go.Proofs.YbulkweqDoor
