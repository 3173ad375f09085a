/-
  'LawS1121CBuilt' (3).
-/
import Derived.Test.YbulkweqDoorCheck
import Derived.Test.YbulkweqDoorBuild
namespace Go.Proofs.YbulkweqDoor
open Go.RowKit Go.Deep

theorem law_long (tags tk kind raw flip ihl total cut : Int) (ba : Option Addr) (n cb : Nat) (w : World) (hn : 1024 < n) :
    Calls Ybad.prog 3 #[.agg (argX tags tk kind raw flip ihl total cut ba n cb)] w fun e w' => e = .returned (.bool true) ∧ Below w.heap.size w w' := by
  go_enter Ybad.func3, Ybad.ntmps3
  go_wp2
  exact bodyPost_ret (v := .bool true) (by simp [results, Ybad.results3, go_sem]) rfl ⟨rfl, (Below.refl _ _).alloc (Nat.le_refl _) _⟩

theorem info25 (tags tk kind raw flip ihl total cut : Int) (ba : Option Addr) (n cb : Nat) : (Ybad.prog.info? 25).map (·.size) = some (argX tags tk kind raw flip ihl total cut ba n cb).size := by kernel_rfl

set_option maxRecDepth 100000 in
set_option maxHeartbeats 1000000 in
theorem law_short (tags tk kind raw flip ihl total cut : Int) (ba : Option Addr) (n cb bb bo : Nat) (B : Nat → Int) (p4 p6 : Option Addr) (w : World) (hn : n ≤ 1024) (hB : ∀ i, 0 ≤ B i ∧ B i < 256) (hba : 0 < n → ba = some ⟨bb, bo, none⟩) (hbc : ∀ i, i < n → w.cell? ⟨bb, bo + i, none⟩ = some (.int .u8 (B i))) (hnil : ba = none → n = 0 ∧ cb = 0)
    (t0 : 0 ≤ tags ∧ tags < 256) (t1 : 0 ≤ tk ∧ tk < 256) (t2 : 0 ≤ kind ∧ kind < 256) (t3 : 0 ≤ raw ∧ raw < 65536) (t4 : 0 ≤ flip ∧ flip < 256)
    (t5 : 0 ≤ ihl ∧ ihl < 256) (t6 : 0 ≤ total ∧ total < 65536) (t8 : 0 ≤ cut ∧ cut < 256)
    (h4 : w.cell? ⟨1, 0, none⟩ = some (.pointer p4)) (h6 : w.cell? ⟨2, 0, none⟩ = some (.pointer p6)) :
    Calls Ybad.prog 3 #[.agg (argX tags tk kind raw flip ihl total cut ba n cb)] w fun e w' => e = .returned (.bool true) ∧ Below w.heap.size w w' := by
  have Bd0 := build_any tags tk kind raw flip ihl total cut ba n cb bb bo B (w.alloc (.cells (argX tags tk kind raw flip ihl total cut ba n cb) 25)) hn hB hba (fun i hi => cell?_alloc_old _ (hbc i hi)) hnil t0 t1 t2 t3 t4 t5 t6 t8
  have Ck : Hid (∀ (Z : Nat → Int) (fb L C : Nat) (W : World), (∀ i, 0 ≤ Z i ∧ Z i < 256) → (∀ i, i < L → W.cell? ⟨fb, i, none⟩ = some (.int .u8 (Z i))) → L ≤ C → C ≤ 1090 → Below w.heap.size w W → Calls Ybad.prog 5 #[.slice (some ⟨fb, 0, none⟩) L C] W fun e w' => e = .returned (.bool true) ∧ Below W.heap.size W w') := fun Z fb L C W hZ hc hL hC hB =>
    check_any Z hZ fb L C p4 p6 W hc hL (by omega) (by rw [hB.cell (World.block_lt_of_cell? w _ h4)]; exact h4) (by rw [hB.cell (World.block_lt_of_cell? w _ h6)]; exact h6)
  have hB0 : Below w.heap.size w (w.alloc (.cells (argX tags tk kind raw flip ihl total cut ba n cb) 25)) := (Below.refl _ _).alloc (Nat.le_refl _) _
  have Bd : Calls Ybad.prog 6 #[.agg (argX tags tk kind raw flip ihl total cut ba n cb)] (w.alloc (.cells (argX tags tk kind raw flip ihl total cut ba n cb) 25)) fun e w' => ∃ (fb L C : Nat) (Z : Nat → Int), e = .returned (.slice (some ⟨fb, 0, none⟩) L C) ∧ L ≤ C ∧ C ≤ 1090 ∧ (∀ i, 0 ≤ Z i ∧ Z i < 256) ∧ (∀ i, i < L → w'.cell? ⟨fb, i, none⟩ = some (.int .u8 (Z i))) ∧ Below w.heap.size w w' :=
    Bd0.mono (by
      rintro e w' ⟨L, C, Z, he, hLC, hC, hZ, hc, hB1⟩
      exact ⟨_, L, C, Z, he, hLC, hC, hZ, hc, hB0.trans (hB1.mono hB0.size)⟩)
  have hblk : Hid ((w.alloc (.cells (argX tags tk kind raw flip ihl total cut ba n cb) 25)).heap[w.heap.size]? = some (.cells (argX tags tk kind raw flip ihl total cut ba n cb) 25 (0, 0))) := blk_new w _
  have HI : Hid ((Ybad.prog.info? 25).map (·.size) = some (argX tags tk kind raw flip ihl total cut ba n cb).size) := info25 _ _ _ _ _ _ _ _ _ _ _
  clear Bd0 hB0 hB hba hbc hnil t0 t1 t2 t3 t4 t5 t6 t8 h4 h6
  go_enter Ybad.func3, Ybad.ntmps3
  go_upto_region 3 with fail
  go_wp2_with (first
    | (refine wpList_load_row rfl 25 _ rfl w.heap.size rfl 25 (argX tags tk kind raw flip ihl total cut ba n cb) (0, 0) _ hblk.out Ybad.underlying25 rfl HI.out ?_)
    | (go_at_call 6; refine Bd.mono ?_; rintro e w1 ⟨fb, L, C, Z, rfl, hLC, hC, hZ, hc, hB1⟩)
    | (go_at_call 5; refine (Ck.out Z fb L C _ hZ hc hLC hC hB1).mono ?_; rintro e w2 ⟨rfl, hB2⟩))
  exact bodyPost_ret (v := .bool true) (by simp [results, Ybad.results3, go_sem]) rfl ⟨rfl, hB1.trans (hB2.mono hB1.size)⟩
end Go.Proofs.YbulkweqDoor
