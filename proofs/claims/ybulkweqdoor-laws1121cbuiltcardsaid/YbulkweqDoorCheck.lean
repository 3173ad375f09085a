/-
  'zzs1121ccheck' (5).
-/
import Derived.Test.YbulkweqDoorIpd
import Derived.Test.YbulkweqDoorModel
import Derived.Test.YbulkweqDoorCmp
import Derived.Lib.Builder
namespace Go.Proofs.YbulkweqDoor
open Go.RowKit Go.Deep

theorem eqNil (w : World) : (binOp .eql 23 (.slice none 0 0) (.slice none 0 0)).run Ybad.prog w = .ok (.bool true) w := by kernel_rfl
theorem eq36 (w : World) : (binOp .eql 36 (.agg #[.int .u64 0, .int .u64 0, .pointer none]) (.agg #[.int .u64 0, .int .u64 0, .pointer none])).run Ybad.prog w = .ok (.bool true) w := by kernel_rfl

theorem info5' : ∃ i, Ybad.prog.info? 5 = some i := ⟨_, rfl⟩
theorem neqPtr (a : Addr) (w : World) : (binOp .neq 43 (.pointer (some a)) (.pointer (some a))).run Ybad.prog w = .ok (.bool false) w := by
  obtain ⟨i, hi⟩ := info5'
  exact Lib.run_neq_ptr_same w a Ybad.underlying43 hi

/-- What lies while the frame is checked: the Datagram's seven cells. -/
structure Dg (w : World) (s : Nat) (D : Array Value) (W : World) : Prop where
  below : Below w.heap.size w W
  blk : W.heap[s]? = some (.cells D 38 (0, 0))
theorem Dg.step {w W W' : World} {s : Nat} {D : Array Value} (h : Dg w s D W) (hB : Below W.heap.size W W') : Dg w s D W' :=
  ⟨h.below.trans (hB.mono h.below.size), by rw [hB.block _ (blk_lt h.blk)]; exact h.blk⟩
theorem dg_made {w W : World} (h : Below w.heap.size w W) (D : Array Value) : Dg w W.heap.size D (W.alloc (.cells D 38)) :=
  ⟨h.alloc h.size _, blk_new W _⟩

set_option maxRecDepth 100000 in
set_option maxHeartbeats 1000000 in
theorem check_bad (fb L cap : Nat) (w : World)
    (I : Calls Ybad.prog 7 #[.slice (some ⟨fb, 0, none⟩) L cap] w fun e w' => e = .returned (.tuple #[.agg dg0, .bool false]) ∧ Below w.heap.size w w')
    (Mo : ∀ W, Below w.heap.size w W → Calls Ybad.prog 8 #[.slice (some ⟨fb, 0, none⟩) L cap] W fun e w' => e = .returned (.tuple #[.int .i64 0, .int .i64 0, .int .i64 0, .int .i64 0, .bool false, .bool false]) ∧ ∃ k, w' = W.drewN k) :
    Calls Ybad.prog 5 #[.slice (some ⟨fb, 0, none⟩) L cap] w fun e w' => e = .returned (.bool true) ∧ Below w.heap.size w w' := by
  have q1 := eqNil
  have q2 := eq36
  go_enter Ybad.func5, Ybad.ntmps5
  go_upto_region 1 with fail
  go_cut [3, 4] (fun v3 v4 wx => ∃ s, v3 = .pointer (some ⟨s, 0, none⟩) ∧ v4 = .bool false ∧ Dg w s dg0 wx)
  case first =>
    go_wp2_with (go_at_call 7; refine I.mono ?_; rintro e w' ⟨rfl, hB⟩)
    go_meet
    case rel => exact ⟨_, rfl, rfl, dg_made hB _⟩
  case rest =>
    obtain ⟨s, rfl, rfl, D⟩ := hcut
    apply_assumption
    have k0 := cell_row D.blk (i := 0) rfl
    have k1 := cell_row D.blk (i := 1) rfl
    have k2 := cell_row D.blk (i := 2) rfl
    have k3 := cell_row D.blk (i := 3) rfl
    have k4 := cell_row D.blk (i := 4) rfl
    have k5 := cell_row D.blk (i := 5) rfl
    have k6 := cell_row D.blk (i := 6) rfl
    go_wp2_with (go_at_call 8; refine (Mo _ D.below).mono ?_; rintro e w' ⟨rfl, k, rfl⟩)
    exact bodyPost_ret (v := .bool true) (by simp [results, Ybad.results5, go_sem]) rfl ⟨rfl, below_drewN D.below k⟩

set_option maxRecDepth 100000 in
set_option maxHeartbeats 1000000 in
theorem check_good (fb L cap p m sc sa da : Nat) (v6 : Bool) (s1 s2 d1 d2 : Int) (p1 p2 : Option Addr) (R1 R2 : Array Value) (w : World) (hm : 0 < m) (hp : p + m ≤ L) (hL : L ≤ 4096)
    (I : Calls Ybad.prog 7 #[.slice (some ⟨fb, 0, none⟩) L cap] w fun e w' => e = .returned (.tuple #[.agg #[.slice (some ⟨fb, p, none⟩) m sc, .int .u64 s1, .int .u64 s2, .pointer p1, .int .u64 d1, .int .u64 d2, .pointer p2], .bool true]) ∧ Below w.heap.size w w')
    (Mo : ∀ W, Below w.heap.size w W → Calls Ybad.prog 8 #[.slice (some ⟨fb, 0, none⟩) L cap] W fun e w' => e = .returned (.tuple #[.int .i64 (p : Int), .int .i64 ((p + m : Nat) : Int), .int .i64 (sa : Int), .int .i64 (da : Int), .bool v6, .bool true]) ∧ ∃ k, w' = W.drewN k)
    (Q1 : ∀ W, Calls Ybad.prog 10 #[.agg #[.int .u64 s1, .int .u64 s2, .pointer p1]] W fun e w' => e = .returned (.agg R1) ∧ Below W.heap.size W w')
    (Q2 : ∀ W, Calls Ybad.prog 10 #[.agg #[.int .u64 d1, .int .u64 d2, .pointer p2]] W fun e w' => e = .returned (.agg R2) ∧ Below W.heap.size W w')
    (r1 : ∀ W, Below w.heap.size w W → Calls Ybad.prog 9 #[.agg R1, .slice (some ⟨fb, 0, none⟩) L cap, .int .i64 (sa : Int), .bool v6] W fun e w' => e = .returned (.bool true) ∧ Below W.heap.size W w')
    (r2 : ∀ W, Below w.heap.size w W → Calls Ybad.prog 9 #[.agg R2, .slice (some ⟨fb, 0, none⟩) L cap, .int .i64 (da : Int), .bool v6] W fun e w' => e = .returned (.bool true) ∧ Below W.heap.size W w') :
    Calls Ybad.prog 5 #[.slice (some ⟨fb, 0, none⟩) L cap] w fun e w' => e = .returned (.bool true) ∧ Below w.heap.size w w' := by
  obtain ⟨DG, hDG⟩ : ∃ DG : Array Value, DG = #[.slice (some ⟨fb, p, none⟩) m sc, .int .u64 s1, .int .u64 s2, .pointer p1, .int .u64 d1, .int .u64 d2, .pointer p2] := ⟨_, rfl⟩
  have HDG : Hid (DG = #[.slice (some ⟨fb, p, none⟩) m sc, .int .u64 s1, .int .u64 s2, .pointer p1, .int .u64 d1, .int .u64 d2, .pointer p2]) := hDG
  clear hDG
  have C0 : Hid (∀ s W, Dg w s DG W → W.cell? ⟨s, 0, none⟩ = some (.slice (some ⟨fb, p, none⟩) m sc)) := fun s W D => cell_row D.blk (by rw [HDG.out]; rfl)
  have C1 : Hid (∀ s W, Dg w s DG W → W.cell? ⟨s, 1, none⟩ = some (.int .u64 s1)) := fun s W D => cell_row D.blk (by rw [HDG.out]; rfl)
  have C2 : Hid (∀ s W, Dg w s DG W → W.cell? ⟨s, 2, none⟩ = some (.int .u64 s2)) := fun s W D => cell_row D.blk (by rw [HDG.out]; rfl)
  have C3 : Hid (∀ s W, Dg w s DG W → W.cell? ⟨s, 3, none⟩ = some (.pointer p1)) := fun s W D => cell_row D.blk (by rw [HDG.out]; rfl)
  have C4 : Hid (∀ s W, Dg w s DG W → W.cell? ⟨s, 4, none⟩ = some (.int .u64 d1)) := fun s W D => cell_row D.blk (by rw [HDG.out]; rfl)
  have C5 : Hid (∀ s W, Dg w s DG W → W.cell? ⟨s, 5, none⟩ = some (.int .u64 d2)) := fun s W D => cell_row D.blk (by rw [HDG.out]; rfl)
  have C6 : Hid (∀ s W, Dg w s DG W → W.cell? ⟨s, 6, none⟩ = some (.pointer p2)) := fun s W D => cell_row D.blk (by rw [HDG.out]; rfl)
  have wm : IntKind.i64.wrap (((p + m : Nat) : Int) - (p : Int)) = (m : Int) := by rw [IntKind.wrap_i64]; omega
  have wm2 : IntKind.i64.wrap ((p : Int) + (m : Int) - (p : Int)) = (m : Int) := by rw [IntKind.wrap_i64]; omega
  have pL : p < L := by omega
  have qp := neqPtr ⟨fb, p, none⟩
  go_enter Ybad.func5, Ybad.ntmps5
  go_upto_region 1 with fail
  go_cut [3, 4] (fun v3 v4 wx => ∃ s, v3 = .pointer (some ⟨s, 0, none⟩) ∧ v4 = .bool true ∧ Dg w s DG wx)
  case first =>
    go_wp2_with (go_at_call 7; refine I.mono ?_; rintro e w' ⟨rfl, hB⟩)
    go_meet
    case rel => exact ⟨_, rfl, rfl, by rw [HDG.out]; exact dg_made hB _⟩
  case rest =>
    obtain ⟨s, rfl, rfl, D⟩ := hcut
    clear I
    apply_assumption
    refine wp_seq_k (fun K hK => ?_)
    go_cut [5, 6, 7, 8, 9, 10] (fun v5 v6' v7 v8 v9 v10 wx => v5 = .int .i64 (p : Int) ∧ v6' = .int .i64 ((p + m : Nat) : Int) ∧ v7 = .int .i64 (sa : Int) ∧ v8 = .int .i64 (da : Int) ∧ v9 = .bool v6 ∧ v10 = .bool true ∧ Dg w s DG wx)
    case first =>
      go_wp2_with (go_at_call 8; refine (Mo _ D.below).mono ?_; rintro e w' ⟨rfl, k, rfl⟩)
      go_meet
      case rel => exact ⟨rfl, rfl, rfl, rfl, rfl, rfl, D.step (below_drewN (Below.refl _ _) k)⟩
    case rest =>
      obtain ⟨rfl, rfl, rfl, rfl, rfl, rfl, D2⟩ := hcut
      clear D Mo
      have k0 := C0.out _ _ D2
      apply_assumption
      go_upto_region 7 with fail
      go_cut [60] (fun v wx => v = .bool false ∧ Dg w s DG wx)
      case first =>
        go_region
        all_goals (try go_wp2_with fail)
        all_goals (go_meet; case rel => exact ⟨rfl, D2.step (Below.refl _ _).drew⟩)
      case rest =>
        obtain ⟨rfl, D3⟩ := hcut
        clear D2 k0
        have k1 := C1.out _ _ D3
        have k2 := C2.out _ _ D3
        have k3 := C3.out _ _ D3
        apply_assumption
        go_wp2_with (first
          | (go_at_call_of 10 (Value.agg #[.int .u64 s1, .int .u64 s2, .pointer p1]); refine (Q1 _).mono ?_; rintro e w1 ⟨rfl, hB1⟩; have D4 := D3.step hB1)
          | (go_at_call_of 9 (Value.agg R1); refine (r1 _ D4.below).mono ?_; rintro e w2 ⟨rfl, hB2⟩; have D5 := D4.step hB2; have k4 := C4.out _ _ D5; have k5 := C5.out _ _ D5; have k6 := C6.out _ _ D5)
          | (go_at_call_of 10 (Value.agg #[.int .u64 d1, .int .u64 d2, .pointer p2]); refine (Q2 _).mono ?_; rintro e w3 ⟨rfl, hB3⟩; have D6 := D5.step hB3)
          | (go_at_call_of 9 (Value.agg R2); refine (r2 _ D6.below).mono ?_; rintro e w4 ⟨rfl, hB4⟩; have D7 := D6.step hB4))
        exact bodyPost_ret (v := .bool true) (by simp [results, Ybad.results5, go_sem]) rfl ⟨rfl, D7.below⟩

theorem outAt_four {Z : Nat → Int} {L a p t : Nat} (h : outAt Z L a = .four p t) : p + 20 ≤ L ∧ 0 < t := by
  unfold outAt at h
  split at h
  · split at h
    · cases h
    · rename_i hb
      have h1 : ¬ bad4a (fun i => Z (a + 2 + i)) (L - (a + 2)) := fun x => hb (Or.inl x)
      have h2 : ¬ bad4b (fun i => Z (a + 2 + i)) := fun x => hb (Or.inr x)
      have h3 : ¬ L - (a + 2) < 20 := fun x => h1 (Or.inl x)
      have h4 : ¬ Z (a + 2 + 0) % 16 * 4 < 20 := fun x => h2 (Or.inl x)
      have h5 : ¬ Z (a + 2 + 2) * 256 + Z (a + 2 + 3) < Z (a + 2 + 0) % 16 * 4 := fun x => h2 (Or.inr x)
      have h6 : et Z (a + 4) = Z (a + 2 + 2) * 256 + Z (a + 2 + 3) := rfl
      injection h with e1 e2
      omega
  · split at h
    · split at h <;> cases h
    · cases h
theorem outAt_six {Z : Nat → Int} (hZ : ∀ i, 0 ≤ Z i ∧ Z i < 256) {L a p t : Nat} (h : outAt Z L a = .six p t) : p + 40 ≤ L ∧ 0 < t := by
  unfold outAt at h
  split at h
  · split at h <;> cases h
  · split at h
    · split at h
      · cases h
      · rename_i hb
        have h3 : ¬ L - (a + 2) < 40 := fun x => hb (Or.inl x)
        have h6 := et_bounds Z hZ (a + 6)
        injection h with e1 e2
        omega
    · cases h
theorem out_at {Z : Nat → Int} {L : Nat} (h : out Z L ≠ .bad) : ∃ a, out Z L = outAt Z L a := by
  unfold out at h ⊢
  split
  · rename_i h1; rw [if_pos h1] at h; exact absurd rfl h
  · rename_i h1
    rw [if_neg h1] at h
    cases hf : findF Z L 2 12 with
    | none => rw [hf] at h; exact absurd rfl h
    | some a => exact ⟨a, rfl⟩
theorem v4_bounds {F : Nat → Int} (hF : ∀ i, 0 ≤ F i ∧ F i < 256) (i : Nat) : 0 ≤ v4 F i ∧ v4 F i < 256 := by
  have := hF (i - 12)
  unfold v4
  split
  · omega
  · split <;> omega

theorem check_any (Z : Nat → Int) (hZ : ∀ i, 0 ≤ Z i ∧ Z i < 256) (fb L cap : Nat) (p4 p6 : Option Addr) (w : World) (hc : ∀ i, i < L → w.cell? ⟨fb, i, none⟩ = some (.int .u8 (Z i))) (hL : L ≤ cap) (hcap : cap ≤ 4096)
    (h4 : w.cell? ⟨1, 0, none⟩ = some (.pointer p4)) (h6 : w.cell? ⟨2, 0, none⟩ = some (.pointer p6)) :
    Calls Ybad.prog 5 #[.slice (some ⟨fb, 0, none⟩) L cap] w fun e w' => e = .returned (.bool true) ∧ Below w.heap.size w w' := by
  have I := ipd_any Z hZ fb L cap p4 p6 w hc hL hcap h4 h6
  have hcW : ∀ W, Below w.heap.size w W → ∀ i, i < L → W.cell? ⟨fb, i, none⟩ = some (.int .u8 (Z i)) := fun W hB i hi => by
    rw [hB.cell (World.block_lt_of_cell? w _ (hc i hi))]; exact hc i hi
  have Mo : ∀ W, Below w.heap.size w W → Calls Ybad.prog 8 #[.slice (some ⟨fb, 0, none⟩) L cap] W fun e w' => e = .returned (modelVal L (out Z L)) ∧ ∃ k, w' = W.drewN k := fun W hB => model_any Z hZ fb L cap W (hcW W hB) (by omega)
  cases ho : out Z L with
  | bad =>
    rw [ho] at I Mo
    exact check_bad fb L cap w I Mo
  | four p t =>
    obtain ⟨a, ha⟩ := out_at (Z := Z) (L := L) (by rw [ho]; intro h; cases h)
    obtain ⟨hp, ht⟩ := outAt_four (ha.symm.trans ho)
    rw [ho] at I Mo
    exact check_good fb L cap p (min t (L - p)) (cap - p) (p + 12) (p + 16) false _ _ _ _ p4 p4 (row16 (v4 fun i => Z (p + (12 + i))) 0) (row16 (v4 fun i => Z (p + (16 + i))) 0) w (by omega) (by omega) (by omega) I Mo
      (fun W => as16_any _ (v4_bounds fun i => hZ _) 0 p4 W) (fun W => as16_any _ (v4_bounds fun i => hZ _) 0 p4 W)
      (fun W hB => addr_four _ Z fb (p + 12) L cap W (hcW W hB) (by omega) (by omega) (fun i _ => by rw [Nat.add_assoc]))
      (fun W hB => addr_four _ Z fb (p + 16) L cap W (hcW W hB) (by omega) (by omega) (fun i _ => by rw [Nat.add_assoc]))
  | six p t =>
    obtain ⟨a, ha⟩ := out_at (Z := Z) (L := L) (by rw [ho]; intro h; cases h)
    obtain ⟨hp, ht⟩ := outAt_six hZ (ha.symm.trans ho)
    rw [ho] at I Mo
    exact check_good fb L cap p (min t (L - p)) (cap - p) (p + 8) (p + 24) true _ _ _ _ p6 p6 (row16 (fun i => Z (p + i)) 8) (row16 (fun i => Z (p + i)) 24) w (by omega) (by omega) (by omega) I Mo
      (fun W => as16_any _ (fun i => hZ _) 8 p6 W) (fun W => as16_any _ (fun i => hZ _) 24 p6 W)
      (fun W hB => addr_six _ Z 8 fb (p + 8) L cap W (hcW W hB) (by omega) (by omega) (fun i _ => by show Z (p + (8 + i)) = Z (p + 8 + i); rw [Nat.add_assoc]))
      (fun W hB => addr_six _ Z 24 fb (p + 24) L cap W (hcW W hB) (by omega) (by omega) (fun i _ => by show Z (p + (24 + i)) = Z (p + 24 + i); rw [Nat.add_assoc]))
end Go.Proofs.YbulkweqDoor
