/-
  'ipv4Datagram' (12).
-/
import Derived.Test.YbulkweqDoorAs
import Derived.Deep.DeepCutAuto
namespace Go.Proofs.YbulkweqDoor
open Go.RowKit Go.Deep

/-- The empty Datagram's seven cells. -/
abbrev dg0 : Array Value := #[.slice none 0 0, .int .u64 0, .int .u64 0, .pointer none, .int .u64 0, .int .u64 0, .pointer none]
/-- A Datagram's seven cells. -/
abbrev dgOf (s : Value) (Y Y' : Nat → Int) (y y' : Nat) (pz : Option Addr) : Array Value := #[s, .int .u64 (be8 Y y), .int .u64 (be8 Y (y + 8)), .pointer pz, .int .u64 (be8 Y' y'), .int .u64 (be8 Y' (y' + 8)), .pointer pz]

/-- What the call has laid: the bytes, the variable z, the result's seven zero cells; below all as it was. -/
structure Lies (w : World) (fb o N g : Nat) (X : Nat → Int) (pz : Option Addr) (W : World) : Prop where
  below : Below w.heap.size w W
  row : ∀ i, i < N → W.cell? ⟨fb, o + i, none⟩ = some (.int .u8 (X i))
  var : W.cell? ⟨g, 0, none⟩ = some (.pointer pz)
  res : W.heap[w.heap.size]? = some (.cells dg0 38 (0, 0))
theorem Lies.step {w W W' : World} {fb o N g : Nat} {X : Nat → Int} {pz : Option Addr} (h : Lies w fb o N g X pz W) (hB : Below W.heap.size W W') : Lies w fb o N g X pz W' := by
  have cell : ∀ {a v}, W.cell? a = some v → W'.cell? a = some v := fun hv => by rw [hB.cell (World.block_lt_of_cell? W _ hv)]; exact hv
  exact ⟨h.below.trans (hB.mono h.below.size), fun i hi => cell (h.row i hi), cell h.var, by rw [hB.block _ (blk_lt h.res)]; exact h.res⟩
theorem Lies.drew {w W : World} {fb o N g : Nat} {X : Nat → Int} {pz : Option Addr} (h : Lies w fb o N g X pz W) : Lies w fb o N g X pz W.drew := h.step (Below.refl _ _).drew
theorem Lies.cells {w W : World} {fb o N g : Nat} {X : Nat → Int} {pz : Option Addr} (h : Lies w fb o N g X pz W) : W.cell? ⟨w.heap.size, 0, none⟩ = some (.slice none 0 0) ∧ W.cell? ⟨w.heap.size, 1, none⟩ = some (.int .u64 0) ∧ W.cell? ⟨w.heap.size, 2, none⟩ = some (.int .u64 0) ∧ W.cell? ⟨w.heap.size, 3, none⟩ = some (.pointer none) ∧ W.cell? ⟨w.heap.size, 4, none⟩ = some (.int .u64 0) ∧ W.cell? ⟨w.heap.size, 5, none⟩ = some (.int .u64 0) ∧ W.cell? ⟨w.heap.size, 6, none⟩ = some (.pointer none) ∧ (∀ i, W.frozen? ⟨w.heap.size, i, none⟩ = false) :=
  ⟨cell_row h.res rfl, cell_row h.res rfl, cell_row h.res rfl, cell_row h.res rfl, cell_row h.res rfl, cell_row h.res rfl, cell_row h.res rfl, fun _ => free_row h.res⟩
theorem below_dg (w W : World) (h : Below w.heap.size w W) (v0 v1 v2 v3 v4 v5 v6 : Value) : Below w.heap.size w (((((((W.setCell ⟨w.heap.size, 0, none⟩ v0).setCell ⟨w.heap.size, 1, none⟩ v1).setCell ⟨w.heap.size, 2, none⟩ v2).setCell ⟨w.heap.size, 3, none⟩ v3).setCell ⟨w.heap.size, 4, none⟩ v4).setCell ⟨w.heap.size, 5, none⟩ v5).setCell ⟨w.heap.size, 6, none⟩ v6) := by
  have hb : ∀ i, w.heap.size ≤ (⟨w.heap.size, i, none⟩ : Addr).block := fun _ => Nat.le_refl _
  exact ((((((h.setCell (hb _) v0).setCell (hb _) v1).setCell (hb _) v2).setCell (hb _) v3).setCell (hb _) v4).setCell (hb _) v5).setCell (hb _) v6

theorem arr54 (a : Addr) (c : Nat) (w : World) : (Instr.arrayAt 54 (.slice (some a) 4 c)).run Ybad.prog w = .ok (.pointer (some a)) w := by kernel_rfl
theorem arr45 (a : Addr) (c : Nat) (w : World) : (Instr.arrayAt 45 (.slice (some a) 16 c)).run Ybad.prog w = .ok (.pointer (some a)) w := by kernel_rfl

/-- Is it an IPv4 packet with its header whole? -/
def bad4a (X : Nat → Int) (n : Nat) : Prop := n < 20 ∨ X 0 / 16 ≠ 4
def bad4b (X : Nat → Int) : Prop := X 0 % 16 * 4 < 20 ∨ X 2 * 256 + X 3 < X 0 % 16 * 4

set_option maxHeartbeats 1000000 in
theorem ip4_bada (X : Nat → Int) (hX : ∀ i, 0 ≤ X i ∧ X i < 256) (fb o n cap : Nat) (w : World) (hc : ∀ i, i < n → w.cell? ⟨fb, o + i, none⟩ = some (.int .u8 (X i))) (hbad : bad4a X n) (hn : n ≤ 4096) :
    Calls Ybad.prog 12 #[.slice (some ⟨fb, o, none⟩) n cap] w fun e w' => e = .returned (.tuple #[.agg dg0, .bool false]) ∧ Below w.heap.size w w' := by
  by_cases h20 : n < 20
  · have q : decide ((n : Int) < 20) = true := by simp; omega
    clear hbad hc
    go_enter Ybad.func12, Ybad.ntmps12
    go_wp2
    all_goals refine bodyPost_ret (v := .tuple #[.agg dg0, .bool false]) (by simp [results, Ybad.results12, go_sem]) rfl ⟨rfl, (Below.refl _ _).alloc (Nat.le_refl _) _⟩
  · have q : decide ((n : Int) < 20) = false := by simp; omega
    have q0 : 0 < n := by omega
    have c0 : ∀ v, (w.alloc v).cell? ⟨fb, o, none⟩ = some (.int .u8 (X 0)) := fun v => cell?_alloc_old v (hc 0 (by omega))
    have hx : ¬ X 0 / 16 = 4 := hbad.resolve_left h20
    obtain ⟨x0, x1⟩ := hX 0
    clear hbad hc hX
    generalize X 0 = x at *
    go_enter Ybad.func12, Ybad.ntmps12
    go_wp2
    all_goals refine bodyPost_ret (v := .tuple #[.agg dg0, .bool false]) (by simp [results, Ybad.results12, go_sem]) rfl ⟨rfl, (Below.refl _ _).alloc (Nat.le_refl _) _⟩

set_option maxHeartbeats 1000000 in
theorem ip4_badb (X : Nat → Int) (hX : ∀ i, 0 ≤ X i ∧ X i < 256) (fb o n cap : Nat) (w : World) (hc : ∀ i, i < n → w.cell? ⟨fb, o + i, none⟩ = some (.int .u8 (X i))) (hok : ¬ bad4a X n) (hbad : bad4b X) (hn : n ≤ cap) :
    Calls Ybad.prog 12 #[.slice (some ⟨fb, o, none⟩) n cap] w fun e w' => e = .returned (.tuple #[.agg dg0, .bool false]) ∧ Below w.heap.size w w' := by
  have h20 : ¬ n < 20 := fun h => hok (Or.inl h)
  have q : decide ((n : Int) < 20) = false := by simp; omega
  have q0 : 0 < n := by omega
  have c0 : ∀ v, (w.alloc v).cell? ⟨fb, o, none⟩ = some (.int .u8 (X 0)) := fun v => cell?_alloc_old v (hc 0 (by omega))
  have hx : X 0 / 16 = 4 := Decidable.of_not_not fun h => hok (Or.inr h)
  obtain ⟨x0, x1⟩ := hX 0
  have c2 : ∀ v, (w.alloc v).cell? ⟨fb, o + 2, none⟩ = some (.int .u8 (X 2)) := fun v => cell?_alloc_old v (hc 2 (by omega))
  have c3 : ∀ v, (w.alloc v).cell? ⟨fb, o + 2 + 1, none⟩ = some (.int .u8 (X 3)) := fun v => cell?_alloc_old v (hc 3 (by omega))
  have u : ∀ W : World, W.cell? ⟨fb, o + 2, none⟩ = some (.int .u8 (X 2)) → W.cell? ⟨fb, o + 2 + 1, none⟩ = some (.int .u8 (X 3)) → Calls Ybad.prog 11 #[.agg #[], .slice (some ⟨fb, o + 2, none⟩) (n - 2) (cap - 2)] W fun e w' => e = .returned (.int .u16 (X 2 * 256 + X 3)) ∧ w' = (W.alloc (.cells #[] 49)).drew :=
    fun W h2 h3 => uint16_any fb (o + 2) (n - 2) (cap - 2) (X 2) (X 3) W (by omega) h2 h3 (hX 2).1 (hX 2).2 (hX 3).1 (hX 3).2
  obtain ⟨x2, x3⟩ := hX 2
  obtain ⟨x4, x5⟩ := hX 3
  have H : Hid (bad4b X) := hbad
  clear hok hc hX hbad
  generalize hXX : X 0 = a0 at *
  generalize hXX2 : X 2 = a2 at *
  generalize hXX3 : X 3 = a3 at *
  have H' : Hid (a0 % 16 * 4 < 20 ∨ a2 * 256 + a3 < a0 % 16 * 4) := by have := H.out; unfold bad4b at this; rw [hXX, hXX2, hXX3] at this; exact this
  clear H hXX hXX2 hXX3
  by_cases h5 : a0 % 16 * 4 < 20
  · have p1 : decide (a0 % 16 * 4 < 20) = true := by simpa using h5
    go_enter Ybad.func12, Ybad.ntmps12
    go_wp2
    go_region_with (go_at_call 11; refine (u _ ?hh ?hb).mono ?_; (case hh => exact c2 _); (case hb => exact c3 _); rintro e w' ⟨rfl, rfl⟩)
    all_goals go_wp2
    all_goals refine bodyPost_ret (v := .tuple #[.agg dg0, .bool false]) (by simp [results, Ybad.results12, go_sem]) rfl ⟨rfl, (((Below.refl _ _).alloc (Nat.le_refl _) _).drew.alloc (by simp) _).drew⟩
  · have p1 : decide (a0 % 16 * 4 < 20) = false := by simpa using h5
    have p2 : decide (a2 * 256 + a3 < a0 % 16 * 4) = true := by simpa using H'.out.resolve_left h5
    go_enter Ybad.func12, Ybad.ntmps12
    go_wp2
    go_region_with (go_at_call 11; refine (u _ ?hh ?hb).mono ?_; (case hh => exact c2 _); (case hb => exact c3 _); rintro e w' ⟨rfl, rfl⟩)
    all_goals go_wp2
    all_goals refine bodyPost_ret (v := .tuple #[.agg dg0, .bool false]) (by simp [results, Ybad.results12, go_sem]) rfl ⟨rfl, (((Below.refl _ _).alloc (Nat.le_refl _) _).drew.alloc (by simp) _).drew⟩

end Go.Proofs.YbulkweqDoor
