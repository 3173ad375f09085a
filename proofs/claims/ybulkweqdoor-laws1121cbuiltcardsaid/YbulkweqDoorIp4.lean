/-
  'ipv4Datagram' (12), the good way.
-/
import Derived.Test.YbulkweqDoorIp
import Derived.Deep.RegionHeld3
namespace Go.Proofs.YbulkweqDoor
open Go.RowKit Go.Deep

theorem info38 (v0 v1 v2 v3 v4 v5 v6 : Value) : (Ybad.prog.info? 38).map (·.size) = some (#[v0, v1, v2, v3, v4, v5, v6] : Array Value).size := by kernel_rfl
theorem results_dg {fn : Func} (h : fn.results = #[.cell 2 38, .tmp 3]) (tmps : Array Value) (W : World) {s : Nat} {b : Bool} {v0 v1 v2 v3 v4 v5 v6 : Value} (h2 : tmps.getD 2 undef = .pointer (some ⟨s, 0, none⟩)) (h3 : tmps.getD 3 undef = .bool b)
    (hb : W.heap[s]? = some (.cells #[v0, v1, v2, v3, v4, v5, v6] 38 (0, 0))) : (results fn tmps).run Ybad.prog W = .ok (.tuple #[.agg #[v0, v1, v2, v3, v4, v5, v6], .bool b]) W := by
  rw [results_cell_tmp h, h2, h3]
  simp [asAddr, Result.andThen, run_loadVar_row W s 38 38 _ (0, 0) _ hb Ybad.underlying38 rfl (info38 v0 v1 v2 v3 v4 v5 v6)]
theorem dg_blk {W : World} {s : Nat} (h : W.heap[s]? = some (.cells dg0 38 (0, 0))) (v0 v1 v2 v3 v4 v5 v6 : Value) :
    (((((((W.setCell ⟨s, 0, none⟩ v0).setCell ⟨s, 1, none⟩ v1).setCell ⟨s, 2, none⟩ v2).setCell ⟨s, 3, none⟩ v3).setCell ⟨s, 4, none⟩ v4).setCell ⟨s, 5, none⟩ v5).setCell ⟨s, 6, none⟩ v6).heap[s]? = some (.cells #[v0, v1, v2, v3, v4, v5, v6] 38 (0, 0)) :=
  heap_setCell_same _ s 6 _ 38 _ (heap_setCell_same _ s 5 _ 38 _ (heap_setCell_same _ s 4 _ 38 _ (heap_setCell_same _ s 3 _ 38 _ (heap_setCell_same _ s 2 _ 38 _ (heap_setCell_same _ s 1 _ 38 _ (heap_setCell_same W s 0 dg0 38 _ h))))))

set_option maxHeartbeats 4000000 in
theorem ip4_good (X : Nat → Int) (hX : ∀ i, 0 ≤ X i ∧ X i < 256) (fb o n cap : Nat) (pz : Option Addr) (w : World) (hc : ∀ i, i < n → w.cell? ⟨fb, o + i, none⟩ = some (.int .u8 (X i))) (hz : w.cell? ⟨1, 0, none⟩ = some (.pointer pz)) (hok : ¬ bad4a X n) (hok2 : ¬ bad4b X) (hn : n ≤ cap) (hcap : cap ≤ 4096) :
    Calls Ybad.prog 12 #[.slice (some ⟨fb, o, none⟩) n cap] w fun e w' => e = .returned (.tuple #[.agg (dgOf (.slice (some ⟨fb, o, none⟩) (min (X 2 * 256 + X 3).toNat n) cap) (v4 fun i => X (12 + i)) (v4 fun i => X (16 + i)) 0 0 pz), .bool true]) ∧ Below w.heap.size w w' := by
  have h20 : ¬ n < 20 := fun h => hok (Or.inl h)
  have q : decide ((n : Int) < 20) = false := by simp; omega
  have q0 : 0 < n := by omega
  have c0 : ∀ v, (w.alloc v).cell? ⟨fb, o, none⟩ = some (.int .u8 (X 0)) := fun v => cell?_alloc_old v (hc 0 (by omega))
  have hx : X 0 / 16 = 4 := Decidable.of_not_not fun h => hok (Or.inr h)
  obtain ⟨x0, x1⟩ := hX 0
  have c2 : ∀ v, (w.alloc v).cell? ⟨fb, o + 2, none⟩ = some (.int .u8 (X 2)) := fun v => cell?_alloc_old v (hc 2 (by omega))
  have c3 : ∀ v, (w.alloc v).cell? ⟨fb, o + 2 + 1, none⟩ = some (.int .u8 (X 3)) := fun v => cell?_alloc_old v (hc 3 (by omega))
  have u : ∀ W : World, W.cell? ⟨fb, o + 2, none⟩ = some (.int .u8 (X 2)) → W.cell? ⟨fb, o + 2 + 1, none⟩ = some (.int .u8 (X 3)) → Calls Ybad.prog 11 #[.agg #[], .slice (some ⟨fb, o + 2, none⟩) (n - 2) (cap - 2)] W fun e w' => e = .returned (.int .u16 (X 2 * 256 + X 3)) ∧ w' = (W.alloc (.cells #[] 49)).drew :=
    fun W h2 h3 => uint16_any fb (o + 2) (n - 2) (cap - 2) (X 2) (X 3) W (by omega) h2 h3 (hX 2).1 (hX 2).2 (hX 3).1 (hX 3).2
  obtain ⟨x2, x3⟩ := hX 2
  obtain ⟨x4, x5⟩ := hX 3
  have p1 : decide (X 0 % 16 * 4 < 20) = false := by simp; exact Int.not_lt.mp fun h => hok2 (Or.inl h)
  have p2 : decide (X 2 * 256 + X 3 < X 0 % 16 * 4) = false := by simp; exact Int.not_lt.mp fun h => hok2 (Or.inr h)
  have L : ∀ W : World, Below w.heap.size w W → W.heap[w.heap.size]? = some (.cells dg0 38 (0, 0)) → Lies w fb o 20 1 X pz W := fun W hB h =>
    ⟨hB, fun i hi => by rw [hB.cell (World.block_lt_of_cell? w _ (hc i (by omega)))]; exact hc i (by omega), by rw [hB.cell (World.block_lt_of_cell? w _ hz)]; exact hz, h⟩
  have L7 : Lies w fb o 20 1 X pz (((w.alloc (.cells dg0 38)).alloc (.cells #[] 49))) :=
    L _ (((Below.refl _ _).alloc (Nat.le_refl _) _).alloc (by simp) _) (blk_alloc (blk_new w _) _)
  have f4 : ∀ (k : Nat) (W : World), Lies w fb o 20 1 X pz W → Calls Ybad.prog 16 #[.agg #[.int .u8 (X k), .int .u8 (X (k + 1)), .int .u8 (X (k + 2)), .int .u8 (X (k + 3))]] W fun e w' => e = .returned (.agg #[.int .u64 (be8 (v4 fun i => X (k + i)) 0), .int .u64 (be8 (v4 fun i => X (k + i)) 8), .pointer pz]) ∧ Lies w fb o 20 1 X pz w' ∧ (w'.cell? ⟨fb, o + 12, none⟩ = some (.int .u8 (X 12)) ∧ w'.cell? ⟨fb, o + 12 + 1, none⟩ = some (.int .u8 (X 13)) ∧ w'.cell? ⟨fb, o + 12 + 2, none⟩ = some (.int .u8 (X 14)) ∧ w'.cell? ⟨fb, o + 12 + 3, none⟩ = some (.int .u8 (X 15)) ∧ w'.cell? ⟨fb, o + 16, none⟩ = some (.int .u8 (X 16)) ∧ w'.cell? ⟨fb, o + 16 + 1, none⟩ = some (.int .u8 (X 17)) ∧ w'.cell? ⟨fb, o + 16 + 2, none⟩ = some (.int .u8 (X 18)) ∧ w'.cell? ⟨fb, o + 16 + 3, none⟩ = some (.int .u8 (X 19))) ∧
      (w'.cell? ⟨w.heap.size, 0, none⟩ = some (.slice none 0 0) ∧ w'.cell? ⟨w.heap.size, 1, none⟩ = some (.int .u64 0) ∧ w'.cell? ⟨w.heap.size, 2, none⟩ = some (.int .u64 0) ∧ w'.cell? ⟨w.heap.size, 3, none⟩ = some (.pointer none) ∧ w'.cell? ⟨w.heap.size, 4, none⟩ = some (.int .u64 0) ∧ w'.cell? ⟨w.heap.size, 5, none⟩ = some (.int .u64 0) ∧ w'.cell? ⟨w.heap.size, 6, none⟩ = some (.pointer none) ∧ (∀ i, w'.frozen? ⟨w.heap.size, i, none⟩ = false)) := fun k W h =>
    (from4_any (fun i => X (k + i)) (fun i => hX (k + i)) pz W h.var).mono (by
      rintro e w' ⟨rfl, hB⟩
      have h' := h.step hB
      exact ⟨rfl, h', ⟨h'.row 12 (by omega), h'.row 13 (by omega), h'.row 14 (by omega), h'.row 15 (by omega), h'.row 16 (by omega), h'.row 17 (by omega), h'.row 18 (by omega), h'.row 19 (by omega)⟩, h'.cells⟩)
  have g12 : ∀ W, Lies w fb o 20 1 X pz W → Calls Ybad.prog 16 #[.agg #[.int .u8 (X 12), .int .u8 (X 13), .int .u8 (X 14), .int .u8 (X 15)]] W _ := f4 12
  have g16 : ∀ W, Lies w fb o 20 1 X pz W → Calls Ybad.prog 16 #[.agg #[.int .u8 (X 16), .int .u8 (X 17), .int .u8 (X 18), .int .u8 (X 19)]] W _ := f4 16
  clear f4
  have r7' := L7.row
  have m0 : (X 2 * 256 + X 3).toNat < n ∨ n ≤ (X 2 * 256 + X 3).toNat := by omega
  have hne' : ¬ w.heap.size = fb := Nat.ne_of_gt (World.block_lt_of_cell? w _ (hc 0 (by omega)))
  have hne : ¬ fb = w.heap.size := Nat.ne_of_lt (World.block_lt_of_cell? w _ (hc 0 (by omega)))
  clear hok hok2 hc hX hz L
  generalize hXX : X 0 = a0 at *
  generalize hXX2 : X 2 = a2 at *
  generalize hXX3 : X 3 = a3 at *
  obtain ⟨t, ht⟩ := Int.eq_ofNat_of_zero_le (show 0 ≤ a2 * 256 + a3 by omega)
  have we : IntKind.i64.wrap (a2 * 256 + a3) = (t : Int) := by rw [IntKind.wrap_i64]; omega
  have wr : Hid (Value.int .i64 (IntKind.i64.wrap (a2 * 256 + a3)) = .int .i64 (t : Int)) := congrArg (Value.int .i64) we
  clear we
  rw [ht] at m0 p2 ⊢
  have P2 : Hid (decide ((t : Int) < a0 % 16 * 4) = false) := p2
  have HT : Hid (a2 * 256 + a3 = t) := ht
  clear p2 ht
  go_enter Ybad.func12, Ybad.ntmps12
  go_upto_region 4 with fail
  go_cut [5] (fun v wx => v = .int .i64 (t : Int) ∧ Lies w fb o 20 1 X pz wx)
  case first =>
    go_region_with (go_at_call 11; refine (u _ ?hh ?hb).mono ?_; (case hh => exact c2 _); (case hb => exact c3 _); rintro e w' ⟨rfl, rfl⟩)
    all_goals (go_wp2_with fail; go_meet; case rel => exact ⟨wr.out, L7.step ⟨rfl, rfl, rfl, Nat.le_refl _, fun _ _ => rfl⟩⟩)
  case rest =>
    obtain ⟨rfl, Lc⟩ := hcut
    have r7 := Lc.row
    have p2 := P2.out
    clear r7' L7 u c2 c3 wr P2 HT
    have ar := arr54
    have r12 := Lc.row 12 (by omega)
    have r13 : wc.cell? ⟨fb, o + 12 + 1, none⟩ = _ := Lc.row 13 (by omega)
    have r14 : wc.cell? ⟨fb, o + 12 + 2, none⟩ = _ := Lc.row 14 (by omega)
    have r15 : wc.cell? ⟨fb, o + 12 + 3, none⟩ = _ := Lc.row 15 (by omega)
    have r16 := Lc.row 16 (by omega)
    have r17 : wc.cell? ⟨fb, o + 16 + 1, none⟩ = _ := Lc.row 17 (by omega)
    have r18 : wc.cell? ⟨fb, o + 16 + 2, none⟩ = _ := Lc.row 18 (by omega)
    have r19 : wc.cell? ⟨fb, o + 16 + 3, none⟩ = _ := Lc.row 19 (by omega)
    clear r7
    go_upto_region 7 with fail
    have z0 : ¬ cap = 0 := by omega
    have z1 : (16 : Int) ≤ (cap : Int) := by omega
    have z2 : (20 : Int) ≤ (cap : Int) := by omega
    have z3 : ¬ cap = 12 := by omega
    have z4 : ¬ cap = 16 := by omega
    have z5 : (12 : Int) ≤ (cap : Int) := by omega
    clear m0 q0 x0 x1 x2 x3 x4 x5 p1 p2 hx c0 q
    by_cases hm : t ≤ n
    · have hm1 : ¬ (n : Int) < (t : Int) := by omega
      have hm2 : (t : Int) ≤ (n : Int) := by omega
      have hm3 : min t n = t := by omega
      have hm5 : ¬ n < t := by omega
      have hm6 : t ≤ cap := by omega
      have hm7 : (if (n : Int) < (t : Int) then (n : Int) else (t : Int)) = (t : Int) := if_neg hm1
      have z7 : (t : Int) ≤ (cap : Int) := by omega
      go_region_held3 (fun W => W.cell? ⟨fb, o + 12, none⟩ = some (.int .u8 (X 12)) ∧ W.cell? ⟨fb, o + 12 + 1, none⟩ = some (.int .u8 (X 13)) ∧ W.cell? ⟨fb, o + 12 + 2, none⟩ = some (.int .u8 (X 14)) ∧ W.cell? ⟨fb, o + 12 + 3, none⟩ = some (.int .u8 (X 15)) ∧ W.cell? ⟨fb, o + 16, none⟩ = some (.int .u8 (X 16)) ∧ W.cell? ⟨fb, o + 16 + 1, none⟩ = some (.int .u8 (X 17)) ∧ W.cell? ⟨fb, o + 16 + 2, none⟩ = some (.int .u8 (X 18)) ∧ W.cell? ⟨fb, o + 16 + 3, none⟩ = some (.int .u8 (X 19))) (simp [*, World.cell?_setCell_far]) (first | (go_at_call_of 16 (Value.agg #[.int .u8 (X 12), .int .u8 (X 13), .int .u8 (X 14), .int .u8 (X 15)]); refine (g12 _ ?hh).mono ?_; (case hh => first | exact Lc.drew | assumption); rintro e w' ⟨rfl, Lw, ⟨s12, s13, s14, s15, s16, s17, s18, s19⟩, k0, k1, k2, k3, k4, k5, k6, kf⟩) | (go_at_call_of 16 (Value.agg #[.int .u8 (X 16), .int .u8 (X 17), .int .u8 (X 18), .int .u8 (X 19)]); refine (g16 _ ?hh).mono ?_; (case hh => first | exact Lc.drew | assumption); rintro e w' ⟨rfl, Lw, ⟨s12, s13, s14, s15, s16, s17, s18, s19⟩, k0, k1, k2, k3, k4, k5, k6, kf⟩))
      all_goals go_wp2
      all_goals refine bodyPost_ret (results_dg Ybad.results12 _ _ rfl rfl (dg_blk (Lies.res (by assumption)) _ _ _ _ _ _ _)) rfl ⟨by rw [Int.toNat_natCast, hm3], below_dg w _ (Lies.below (by assumption)) _ _ _ _ _ _ _⟩
    · have hm1 : (n : Int) < (t : Int) := by omega
      have hm2 : ¬ (t : Int) ≤ (n : Int) := by omega
      have hm3 : min t n = n := by omega
      have hm5 : n < t := by omega
      have hm6 : n ≤ cap := by omega
      have hm7 : (if (n : Int) < (t : Int) then (n : Int) else (t : Int)) = (n : Int) := if_pos hm1
      have hm4 : (n : Int) ≤ (t : Int) := by omega
      have z7 : (n : Int) ≤ (cap : Int) := by omega
      go_region_held3 (fun W => W.cell? ⟨fb, o + 12, none⟩ = some (.int .u8 (X 12)) ∧ W.cell? ⟨fb, o + 12 + 1, none⟩ = some (.int .u8 (X 13)) ∧ W.cell? ⟨fb, o + 12 + 2, none⟩ = some (.int .u8 (X 14)) ∧ W.cell? ⟨fb, o + 12 + 3, none⟩ = some (.int .u8 (X 15)) ∧ W.cell? ⟨fb, o + 16, none⟩ = some (.int .u8 (X 16)) ∧ W.cell? ⟨fb, o + 16 + 1, none⟩ = some (.int .u8 (X 17)) ∧ W.cell? ⟨fb, o + 16 + 2, none⟩ = some (.int .u8 (X 18)) ∧ W.cell? ⟨fb, o + 16 + 3, none⟩ = some (.int .u8 (X 19))) (simp [*, World.cell?_setCell_far]) (first | (go_at_call_of 16 (Value.agg #[.int .u8 (X 12), .int .u8 (X 13), .int .u8 (X 14), .int .u8 (X 15)]); refine (g12 _ ?hh).mono ?_; (case hh => first | exact Lc.drew | assumption); rintro e w' ⟨rfl, Lw, ⟨s12, s13, s14, s15, s16, s17, s18, s19⟩, k0, k1, k2, k3, k4, k5, k6, kf⟩) | (go_at_call_of 16 (Value.agg #[.int .u8 (X 16), .int .u8 (X 17), .int .u8 (X 18), .int .u8 (X 19)]); refine (g16 _ ?hh).mono ?_; (case hh => first | exact Lc.drew | assumption); rintro e w' ⟨rfl, Lw, ⟨s12, s13, s14, s15, s16, s17, s18, s19⟩, k0, k1, k2, k3, k4, k5, k6, kf⟩))
      all_goals go_wp2
      all_goals refine bodyPost_ret (results_dg Ybad.results12 _ _ rfl rfl (dg_blk (Lies.res (by assumption)) _ _ _ _ _ _ _)) rfl ⟨by rw [Int.toNat_natCast, hm3], below_dg w _ (Lies.below (by assumption)) _ _ _ _ _ _ _⟩
end Go.Proofs.YbulkweqDoor
