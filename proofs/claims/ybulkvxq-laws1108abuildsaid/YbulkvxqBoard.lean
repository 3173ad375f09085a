/-
  The walk over 'newBoard' (4).
-/
import Derived.Test.YbulkvxqMem
import Derived.BigRegion
import Derived.BigQuiet
import Derived.Deep.RegionHeld3
import Derived.Deep.RegionLaw
import Derived.Deep.AppendLies
import Derived.Deep.DrawnRows
import Derived.Deep.DeepCutAuto
import Derived.Deep.LoopGhost
import Derived.Deep.DeepMust
import Derived.Maps.RangeWalk
namespace Go.Proofs.Ybulkvxq
open Go.RowKit Go.Maps Go.Deep
attribute [local go_sem ↓] Go.wp_at_zero Go.wp_at_succ

theorem info38 : (Yba.prog.info? 38).map (fun i => (i.zero, i.size, i.bytes)) = some (some (.agg #[.int .i64 0, .int .i64 0]), 2, 16) := by kernel_rfl

set_option maxRecDepth 100000 in
set_option maxHeartbeats 4000000 in
theorem board (N : Nat → ByteArray) (hN : ∀ i, (N i).size ≤ maxLen) (K : Nat → ByteArray) (V : Nat → Int) (q : Nat) (E0 E1 : Nat → ByteArray) (hE0 : ∀ i, (E0 i).size ≤ maxLen) (hE1 : ∀ i, (E1 i).size ≤ maxLen)
    (name : ByteArray) (n cn m ce Bn Be By yq : Nat) (h0 h1 : ByteArray) (start : Int) (hn : n ≤ 1024) (hm : m ≤ 1024) (w : World)
    (hnodes : ∀ i, i < n → w.cell? ⟨Bn, i, none⟩ = some (.string (N i))) (hBn : Bn < w.heap.size) (hBy : By < w.heap.size) (hBe : Be < w.heap.size)
    (hy : w.ownsMap Yba.prog 9 (plainElem Yba.prog 3) By yq (fillD K V q))
    (hed : ∀ i, i < m → w.cell? ⟨Be, i * 2, none⟩ = some (.string (E0 i)) ∧ w.cell? ⟨Be, i * 2 + 1, none⟩ = some (.string (E1 i)) ∧ 0 ≤ lastTo N (E0 i) n ∧ 0 ≤ lastTo N (E1 i) n)
    (hh0 : h0.size ≤ maxLen) (hh1 : h1.size ≤ maxLen) (hl0 : 0 ≤ lastTo N h0 n) (hl1 : 0 ≤ lastTo N h1 n) (hK : ∀ i, i < q → 0 ≤ lastTo N (K i) n) :
    Calls Yba.prog 4 #[.string name, .agg #[.slice (some ⟨Bn, 0, none⟩) n cn, .slice (some ⟨Be, 0, none⟩) m ce, .map (some By), .string h0, .string h1, .int .i64 start]] w fun e w' => ∃ (bb bm byl : Nat) (L : Value), e = .returned (.pointer (some ⟨bb, 0, none⟩)) ∧ Below w.heap.size w w' ∧
      w'.heap[bb]? = some (.cells (brdOf name Bn n cn bm L byl (lastTo N h0 n) (lastTo N h1 n) start Be m ce) 40 (0, 0)) ∧ w.heap.size ≤ bb ∧
      w'.ownsMap Yba.prog 9 (plainElem Yba.prog 3) bm n (fillD N (fun i => (i : Int)) n) ∧ w'.heap[byl]? = some (.cells (yrow (fun i => lastVal K V (N i) q) n n) 3 (0, 0)) ∧
      w'.ownsRow w.heap.size 38 2 L (2 * m) (links (fun i => lastTo N (E0 i) n) (fun i => lastTo N (E1 i) n) m) := by
  have HN : Hid (∀ i, i < n → w.cell? ⟨Bn, i, none⟩ = some (.string (N i))) := hnodes
  have HE : Hid (∀ i, i < m → w.cell? ⟨Be, i * 2, none⟩ = some (.string (E0 i)) ∧ w.cell? ⟨Be, i * 2 + 1, none⟩ = some (.string (E1 i)) ∧ 0 ≤ lastTo N (E0 i) n ∧ 0 ≤ lastTo N (E1 i) n) := hed
  have HK : Hid (∀ i, i < q → 0 ≤ lastTo N (K i) n) := hK
  clear hnodes hed hK
  go_enter Yba.func4, Yba.ntmps4
  go_upto_region 1 with fail
  have s1 : ((w.alloc (.cells #[.string name] 9)).alloc (.cells #[.slice (some ⟨Bn, 0, none⟩) n cn, .slice (some ⟨Be, 0, none⟩) m ce, .map (some By), .string h0, .string h1, .int .i64 start] 33)).heap[w.heap.size]? = some (.cells #[.string name] 9 (0, 0)) := blk_alloc (blk_new _ _) _
  have s2 : ((w.alloc (.cells #[.string name] 9)).alloc (.cells #[.slice (some ⟨Bn, 0, none⟩) n cn, .slice (some ⟨Be, 0, none⟩) m ce, .map (some By), .string h0, .string h1, .int .i64 start] 33)).heap[w.heap.size + 1]? = some (.cells (scenOf Bn n cn Be m ce By h0 h1 start) 33 (0, 0)) := by
    have := blk_new (w.alloc (.cells #[.string name] 9)) (.cells #[.slice (some ⟨Bn, 0, none⟩) n cn, .slice (some ⟨Be, 0, none⟩) m ce, .map (some By), .string h0, .string h1, .int .i64 start] 33)
    rwa [World.size_alloc] at this
  have hB1 : Below w.heap.size w ((w.alloc (.cells #[.string name] 9)).alloc (.cells #[.slice (some ⟨Bn, 0, none⟩) n cn, .slice (some ⟨Be, 0, none⟩) m ce, .map (some By), .string h0, .string h1, .int .i64 start] 33)) := ((Below.refl _ _).alloc (Nat.le_refl _) _).alloc (by simp) _
  generalize ((w.alloc (.cells #[.string name] 9)).alloc (.cells #[.slice (some ⟨Bn, 0, none⟩) n cn, .slice (some ⟨Be, 0, none⟩) m ce, .map (some By), .string h0, .string h1, .int .i64 start] 33)) = W1 at s1 s2 hB1 ⊢
  have S1 : Hid (W1.heap[w.heap.size]? = some (.cells #[.string name] 9 (0, 0))) := s1
  have S2 : Hid (W1.heap[w.heap.size + 1]? = some (.cells (scenOf Bn n cn Be m ce By h0 h1 start) 33 (0, 0))) := s2
  clear s1 s2
  go_cut [5] (fun v5 wx => ∃ bv bb bm byl : Nat, v5 = .pointer (some ⟨bv, 0, none⟩) ∧ Sit w name (scenOf Bn n cn Be m ce By h0 h1 start) bv bb (brdOf name Bn n cn bm (.slice none 0 0) byl 0 0 start Be m ce) wx ∧ wx.ownsMap Yba.prog 9 (plainElem Yba.prog 3) bm 0 (fillD N (fun i => (i : Int)) 0) ∧ w.heap.size ≤ bm ∧ wx.heap[byl]? = some (.cells (yrow (fun i => lastVal K V (N i) q) n 0) 3 (0, 0)) ∧ w.heap.size ≤ byl)
  case first =>
    have hmm := made_map
    have hms := made_ints n hn
    have c0 := cell_row S1.out (i := 0) rfl
    have c1 : W1.cell? ⟨w.heap.size + 1, 0, none⟩ = some (.slice (some ⟨Bn, 0, none⟩) n cn) := cell_row S2.out (i := 0) rfl
    have c2 : W1.cell? ⟨w.heap.size + 1, 1, none⟩ = some (.slice (some ⟨Be, 0, none⟩) m ce) := cell_row S2.out (i := 1) rfl
    have c5 : W1.cell? ⟨w.heap.size + 1, 5, none⟩ = some (.int .i64 start) := cell_row S2.out (i := 5) rfl
    have n0 := World.new_ne W1 _ c0
    have n1 := World.new_ne W1 _ c1
    go_region_held3 (fun w' => w'.cell? ⟨w.heap.size, 0, none⟩ = some (.string name) ∧ w'.cell? ⟨w.heap.size + 1, 0, none⟩ = some (.slice (some ⟨Bn, 0, none⟩) n cn) ∧ w'.cell? ⟨w.heap.size + 1, 1, none⟩ = some (.slice (some ⟨Be, 0, none⟩) m ce) ∧ w'.cell? ⟨w.heap.size + 1, 5, none⟩ = some (.int .i64 start)) (simp (maxDischargeDepth := 9) [*, World.cell?_alloc_some]) (fail)
    all_goals clear n0 n1 c0 c1 c2 c5 hmm hms hy
    all_goals go_wp2_with fail
    all_goals go_meet
    all_goals
      apply start_rel N (fun i => lastVal K V (N i) q) S1.out S2.out hB1
      · exact (alloc4 W1 _ _ _ _).2.2.2.2
      · first | exact (alloc4 W1 _ _ _ _).1 | exact (alloc4 W1 _ _ _ _).2.1 | exact (alloc4 W1 _ _ _ _).2.2.1 | exact (alloc4 W1 _ _ _ _).2.2.2.1
      · first | exact (alloc4 W1 _ _ _ _).1 | exact (alloc4 W1 _ _ _ _).2.1 | exact (alloc4 W1 _ _ _ _).2.2.1 | exact (alloc4 W1 _ _ _ _).2.2.2.1
      · first | exact (alloc4 W1 _ _ _ _).1 | exact (alloc4 W1 _ _ _ _).2.1 | exact (alloc4 W1 _ _ _ _).2.2.1 | exact (alloc4 W1 _ _ _ _).2.2.2.1
      · first | exact (alloc4 W1 _ _ _ _).1 | exact (alloc4 W1 _ _ _ _).2.1 | exact (alloc4 W1 _ _ _ _).2.2.1 | exact (alloc4 W1 _ _ _ _).2.2.2.1
      all_goals omega
  case rest =>
    obtain ⟨bv, bb, bm, byl, rfl, hs, hown, hbm, hyl, hbyl⟩ := hcut
    have k0 : wc.cell? ⟨w.heap.size + 1, 0, none⟩ = some (.slice (some ⟨Bn, 0, none⟩) n cn) := cell_row hs.sc (i := 0) rfl
    have HY : Hid (wc.heap[byl]? = some (.cells (yrow (fun i => lastVal K V (N i) q) n 0) 3 (0, 0))) := hyl
    clear hyl S1 S2 hB1
    go_wp2_with fail
    go_loopw [36] (fun i wr => ∃ k : Nat, k ≤ n ∧ i = .int .i64 k ∧ Sit w name (scenOf Bn n cn Be m ce By h0 h1 start) bv bb (brdOf name Bn n cn bm (.slice none 0 0) byl 0 0 start Be m ce) wr ∧ wr.ownsMap Yba.prog 9 (plainElem Yba.prog 3) bm k (fillD N (fun i => (i : Int)) k) ∧ wr.heap[byl]? = some (.cells (yrow (fun i => lastVal K V (N i) q) n k) 3 (0, 0))) (fun i _ => n - (intOf i).toNat)
    case atStart => exact ⟨0, Nat.zero_le _, rfl, hs, hown, HY.out⟩
    case round =>
      clear HY hown k0 hs
      obtain ⟨k, hk, rfl, hs, hmap, hyl⟩ := hrel
      have HY : Hid (wr.heap[byl]? = some (.cells (yrow (fun i => lastVal K V (N i) q) n k) 3 (0, 0))) := hyl
      clear hyl
      by_cases hlt : k < n
      · have cv := cell_row hs.vb (i := 0) rfl
        have cm : wr.cell? ⟨bb, 2, none⟩ = some (.map (some bm)) := cell_row hs.bd (i := 2) rfl
        have cn' : wr.cell? ⟨Bn, k, none⟩ = some (.string (N k)) := (hs.below.cell (p := ⟨Bn, k, none⟩) hBn).trans (HN.out k hlt)
        have hkey := keyOf_str (N k) (hN k)
        go_wp2_with (first | (at_mapUpdate; refine wpList_mapUpdate_own _ rfl _ _ _ 29 rfl 9 3 keyed Yba.underlying29 _ bm k _ rfl hmap (by unfold maxLen; omega) _ _ _ rfl rfl hkey _ [] (plainElem_int Yba.underlying3 (WalkArith.wf_i64 (by omega))) ?_; intro w1 hmap1 hgrow1))
        have hap := hs.apart (own_obj hmap).choose_spec.choose_spec (fun cs t h => by simp at h)
        have hs1 := hs.grown hgrow1 hbm hap.1 hap.2.1 hap.2.2.1 hap.2.2.2
        have hmy : bm ≠ byl := fun e => by obtain ⟨es, c, h⟩ := own_obj hmap; rw [e, HY.out] at h; simp at h
        have hyl1 : w1.heap[byl]? = some (.cells (yrow (fun i => lastVal K V (N i) q) n k) 3 (0, 0)) := by
          rw [hgrow1.block byl (blk_lt HY.out) (fun e => hmy (Option.some.inj e).symm)]; exact HY.out
        have hyy : w1.ownsMap Yba.prog 9 (plainElem Yba.prog 3) By yq (fillD K V q) := own_block hy (hs1.below.block By hBy)
        have hlook := look_fill hyy.drew (N k) (hN k)
        have d0 := cell_row hs1.vb (i := 0) rfl
        have d1 : w1.cell? ⟨bb, 4, none⟩ = some (.slice (some ⟨byl, 0, none⟩) n n) := cell_row hs1.bd (i := 4) rfl
        have d2 : w1.cell? ⟨w.heap.size + 1, 2, none⟩ = some (.map (some By)) := cell_row hs1.sc (i := 2) rfl
        have d3 := cell_row hyl1 (yrow_at _ n k k hlt)
        have d4 := free_row hyl1 (i := k)
        have hki : (k : Int) < (n : Int) := by omega
        have hlook2 := look_fill (hyy.setCell (a := ⟨byl, k, none⟩) (by simp; omega) (.int .i64 (lastVal K V (N k) q))).drew (N k) (hN k)
        have hap2 := hs1.apart hyl1 (fun cs t h => by simp at h; obtain ⟨_, rfl⟩ := h; decide)
        have HSe := (hs1.set (i := k) (.int .i64 (lastVal K V (N k) q)) hbyl hap2.1 hap2.2.1 hap2.2.2.1 hap2.2.2.2).drew
        have HYe : Hid ((w1.setCell ⟨byl, k, none⟩ (.int .i64 (lastVal K V (N k) q))).heap[byl]? = some (.cells (yrow (fun i => lastVal K V (N i) q) n (k + 1)) 3 (0, 0))) := by
          show _ = _
          rw [heap_setCell_same w1 byl k _ 3 _ hyl1]
          exact congrArg (fun c => some (Obj.cells c 3 (0, 0))) (yrow_set (fun i => lastVal K V (N i) q) n k)
        have HMe := (hmap1.setCell (a := ⟨byl, k, none⟩) hmy (.int .i64 (lastVal K V (N k) q))).drew
        have a1 := hap2.2.1
        have a2 := hap2.2.2.1
        have a3 := hap2.2.2.2
        clear hap hap2 hs1 hyl1 hyy hs HY cv cm cn' hmap hgrow1 hkey
        go_region_held3 (fun w' => w'.cell? ⟨bv, 0, none⟩ = some (.pointer (some ⟨bb, 0, none⟩)) ∧ w'.cell? ⟨bb, 4, none⟩ = some (.slice (some ⟨byl, 0, none⟩) n n) ∧ w'.cell? ⟨w.heap.size + 1, 2, none⟩ = some (.map (some By)) ∧ (Instr.lookup 29 (.map (some By)) (.string (N k)) false).run Yba.prog w' = .ok (.int .i64 (lastVal K V (N k) q)) w') (simp [*, World.cell?_setCell_far]) (fail)
        all_goals clear d0 d1 d2 d3 d4 hlook hlook2 a1 a2 a3
        all_goals go_wp2
        go_roundw
        case rel => exact ⟨k + 1, by omega, by go_num, HSe, HMe, HYe.out⟩
        case measure => simp [intOf]; omega
      · obtain rfl : n = k := by omega
        have k1 : wr.cell? ⟨w.heap.size + 1, 1, none⟩ = some (.slice (some ⟨Be, 0, none⟩) m ce) := cell_row hs.sc (i := 1) rfl
        go_wp2_with fail
        clear k1
        obtain ⟨wa, rfl⟩ : ∃ wa : World, wa = wr := ⟨_, rfl⟩
        go_loopw [62] (fun i wr => ∃ (k : Nat) (L : Value), k ≤ m ∧ i = .int .i64 k ∧ Sit w name (scenOf Bn n cn Be m ce By h0 h1 start) bv bb (brdOf name Bn n cn bm L byl 0 0 start Be m ce) wr ∧ wr.ownsMap Yba.prog 9 (plainElem Yba.prog 3) bm n (fillD N (fun i => (i : Int)) n) ∧ wr.heap[byl]? = some (.cells (yrow (fun i => lastVal K V (N i) q) n n) 3 (0, 0)) ∧ wr.ownsRow w.heap.size 38 2 L (2 * k) (links (fun i => lastTo N (E0 i) n) (fun i => lastTo N (E1 i) n) k)) (fun i _ => m - (intOf i).toNat)
        case atStart => exact ⟨0, _, Nat.zero_le _, rfl, hs, hmap, HY.out, World.ownsRow_nil _ _ _ _⟩
        case round =>
          clear HY hmap hs
          obtain ⟨k, L, hk, rfl, hs, hmap, hyl, hown⟩ := hrel
          have HY : Hid (wr.heap[byl]? = some (.cells (yrow (fun i => lastVal K V (N i) q) n n) 3 (0, 0))) := hyl
          clear hyl
          by_cases hlt : k < m
          · have cv := cell_row hs.vb (i := 0) rfl
            have e0 : wr.cell? ⟨Be, k * 2, none⟩ = some (.string (E0 k)) := (hs.below.cell (p := ⟨Be, k * 2, none⟩) hBe).trans (HE.out k hlt).1
            have e1 : wr.cell? ⟨Be, k * 2 + 1, none⟩ = some (.string (E1 k)) := (hs.below.cell (p := ⟨Be, k * 2 + 1, none⟩) hBe).trans (HE.out k hlt).2.1
            go_upto_region 12 with fail
            have hq0 := at_quiet N n (E0 k) (hE0 k) (hs.alloc (.cells #[.string (E0 k), .string (E1 k)] 28)) (hmap.alloc _) (HE.out k hlt).2.2.1
            have hq1 := at_quiet N n (E1 k) (hE1 k) (hs.alloc (.cells #[.string (E0 k), .string (E1 k)] 28)) (hmap.alloc _) (HE.out k hlt).2.2.2
            go_quiet (first | (go_at_call_of 6 (Value.string (E0 k)); exact hq0 _) | (go_at_call_of 6 (Value.string (E1 k)); exact hq1 _))
            clear hq0 hq1 e0 e1 cv
            go_upto_region 13 with fail
            have hs2 := (hs.alloc (.cells #[.string (E0 k), .string (E1 k)] 28)).drewN nq
            have hmap2 := (hmap.alloc (.cells #[.string (E0 k), .string (E1 k)] 28)).kept (grown_drewN _ nq none) (by simp)
            have hy2 : ((wr.alloc (.cells #[.string (E0 k), .string (E1 k)] 28)).drewN nq).heap[byl]? = some (.cells (yrow (fun i => lastVal K V (N i) q) n n) 3 (0, 0)) := blk_alloc HY.out _
            have hown2 := (hown.alloc (.cells #[.string (E0 k), .string (E1 k)] 28)).kept (grown_drewN _ nq none) (by cases L.ownBlock <;> simp)
            clear hs hmap HY hown
            generalize (wr.alloc (.cells #[.string (E0 k), .string (E1 k)] 28)).drewN nq = wz at hs2 hmap2 hy2 hown2 ⊢
            have HY2 : Hid (wz.heap[byl]? = some (.cells (yrow (fun i => lastVal K V (N i) q) n n) 3 (0, 0))) := hy2
            clear hy2
            obtain ⟨i0, hi0, hz0, hz1, hz2⟩ := info_parts info38
            have c0 := cell_row hs2.vb (i := 0) rfl
            have c3 : wz.cell? ⟨bb, 3, none⟩ = some L := cell_row hs2.bd (i := 3) rfl
            have l0 := blk_lt hs2.vb
            have l1 := blk_lt hs2.bd
            have hll := links_len (fun i => lastTo N (E0 i) n) (fun i => lastTo N (E1 i) n) k
            go_region_law ((refine step_append_lies _ (by rfl) _ _ _ (by rfl) w.heap.size 38 i0 _ 2 16 Yba.underlying36 hi0 hz0 hz1 hz2 rfl (by omega) L (2 * k) _ (by rfl) ((hown2.alloc _).drew) ⟨wz.heap.size, 0, none⟩ 2 2 [.int .i64 (lastTo N (E0 k) n), .int .i64 (lastTo N (E1 k) n), .int .i64 (lastTo N (E1 k) n), .int .i64 (lastTo N (E0 k) n)] (by rfl) (by rfl) (World.news_of_block (cs := #[.int .i64 (lastTo N (E0 k) n), .int .i64 (lastTo N (E1 k) n), .int .i64 (lastTo N (E1 k) n), .int .i64 (lastTo N (E0 k) n)]) (t := 38) (fr := (0, 0)) (heap_alloc_new wz _)) (by simp [Value.oneCell']) (by omega) (by unfold maxLen; omega) (by omega) (by have := hs2.below.size; simp; omega) (wz.heap.size + 1) (by simp) ?_; intro gg cap w1 hown1 hgrow hat hlt1; have f3 : w1.cell? ⟨bb, 3, none⟩ = some L := cell_row (((hs2.alloc _).drew.append ((hown2.alloc _).drew) hgrow).bd) (i := 3) rfl; have f4 := free_row (((hs2.alloc _).drew.append ((hown2.alloc _).drew) hgrow).bd) (i := 3); have f0 := cell_row (((hs2.alloc _).drew.append ((hown2.alloc _).drew) hgrow).vb) (i := 0) rfl))
            all_goals
              have R := links_step N (fun i => lastVal K V (N i) q) (fun i => lastTo N (E0 i) n) (fun i => lastTo N (E1 i) n) hs2 hmap2 HY2.out hown2 hown1 hgrow
              clear hs2 hmap2 HY2 hown2 hown1 hgrow hat hlt1 f0 f3 f4 c0 c3 l0 l1 hll
              go_wp2
              go_roundw
              case rel => exact ⟨k + 1, _, by omega, by go_num, R⟩
              case measure => simp [intOf]; omega
          · obtain rfl : m = k := by omega
            have k3 : wr.cell? ⟨w.heap.size + 1, 3, none⟩ = some (.string h0) := cell_row hs.sc (i := 3) rfl
            have k4 : wr.cell? ⟨w.heap.size + 1, 4, none⟩ = some (.string h1) := cell_row hs.sc (i := 4) rfl
            go_wp2_with fail
            clear k3 k4
            obtain ⟨wb, rfl⟩ : ∃ wb : World, wb = wr := ⟨_, rfl⟩
            go_loopw [92] (fun i wr => ∃ (k : Nat), k ≤ 2 ∧ i = .int .i64 k ∧ Sit w name (scenOf Bn n cn Be m ce By h0 h1 start) bv bb (brdOf name Bn n cn bm L byl (if 0 < k then lastTo N h0 n else 0) (if 1 < k then lastTo N h1 n else 0) start Be m ce) wr ∧ wr.ownsMap Yba.prog 9 (plainElem Yba.prog 3) bm n (fillD N (fun i => (i : Int)) n) ∧ wr.heap[byl]? = some (.cells (yrow (fun i => lastVal K V (N i) q) n n) 3 (0, 0)) ∧ wr.ownsRow w.heap.size 38 2 L (2 * m) (links (fun i => lastTo N (E0 i) n) (fun i => lastTo N (E1 i) n) m)) (fun i _ => 2 - (intOf i).toNat)
            case atStart => exact ⟨0, by omega, rfl, hs, hmap, HY.out, hown⟩
            case round =>
              clear HY hmap hs hown
              obtain ⟨k, hk, rfl, hs, hmap, hyl, hown⟩ := hrel
              have HY : Hid (wr.heap[byl]? = some (.cells (yrow (fun i => lastVal K V (N i) q) n n) 3 (0, 0))) := hyl
              clear hyl
              have ix0 : ∀ w, (Instr.index 28 (.agg #[.string h0, .string h1]) (.int .i64 0)).run Yba.prog w = .ok (.string h0) w := fun _ => by kernel_rfl
              have ix1 : ∀ w, (Instr.index 28 (.agg #[.string h0, .string h1]) (.int .i64 1)).run Yba.prog w = .ok (.string h1) w := fun _ => by kernel_rfl
              by_cases hk2 : k < 2
              · have cv := cell_row hs.vb (i := 0) rfl
                have lv := blk_lt hs.vb
                have hne : bb ≠ bv := fun e => by have := hs.bd; rw [e, hs.vb] at this; simp at this
                rcases (show k = 0 ∨ k = 1 from by omega) with rfl | rfl
                · have R := field_step N (fun i => lastVal K V (N i) q) 5 (.int .i64 (lastTo N h0 n)) hs hmap HY.out hown
                  have hat := at_ok N n h0 hh0 bv bb bm w.heap.size n wr.drew (cell_row (by exact hs.vb) rfl) (cell_row (by exact hs.bd) rfl) hmap.drew hl0
                  have c5 : wr.cell? ⟨bb, 5, none⟩ = some (.int .i64 _) := cell_row hs.bd (i := 5) rfl
                  have f5 := free_row hs.bd (i := 5)
                  clear hs hmap HY hown
                  go_upto_region 18 with fail
                  go_region_held3 (fun w' => w'.cell? ⟨bv, 0, none⟩ = some (.pointer (some ⟨bb, 0, none⟩))) (simp [*, World.cell?_setCell_far]) ((go_at_call 6; refine hat.mono ?_; rintro e w' ⟨rfl, rfl⟩))
                  all_goals clear cv lv hne hat c5 f5 ix0 ix1
                  all_goals go_wp2
                  go_roundw
                  case rel => exact ⟨1, by omega, rfl, R⟩
                  case measure => simp [intOf]
                · have R := field_step N (fun i => lastVal K V (N i) q) 6 (.int .i64 (lastTo N h1 n)) hs hmap HY.out hown
                  have hat := at_ok N n h1 hh1 bv bb bm w.heap.size n wr.drew (cell_row (by exact hs.vb) rfl) (cell_row (by exact hs.bd) rfl) hmap.drew hl1
                  have c5 : wr.cell? ⟨bb, 6, none⟩ = some (.int .i64 _) := cell_row hs.bd (i := 6) rfl
                  have f5 := free_row hs.bd (i := 6)
                  clear hs hmap HY hown
                  go_upto_region 18 with fail
                  go_region_held3 (fun w' => w'.cell? ⟨bv, 0, none⟩ = some (.pointer (some ⟨bb, 0, none⟩))) (simp [*, World.cell?_setCell_far]) ((go_at_call 6; refine hat.mono ?_; rintro e w' ⟨rfl, rfl⟩))
                  all_goals clear cv lv hne hat c5 f5 ix0 ix1
                  all_goals go_wp2
                  go_roundw
                  case rel => exact ⟨2, by omega, rfl, R⟩
                  case measure => simp [intOf]
              · obtain rfl : k = 2 := by omega
                clear ix0 ix1
                have k2 : wr.cell? ⟨w.heap.size + 1, 2, none⟩ = some (.map (some By)) := cell_row hs.sc (i := 2) rfl
                have hyr : wr.ownsMap Yba.prog 9 (plainElem Yba.prog 3) By yq (fillD K V q) := own_block hy (hs.below.block By hBy)
                go_wp2_with (first | (at_range; refine wpList_range_own _ rfl _ 29 rfl 9 3 keyed Yba.underlying29 _ By yq (fillD K V q) rfl hyr ?_; intro w2 hrg0 hg0 hs0))
                go_frame
                have hr : w.heap.size ≤ wr.heap.size := hs.below.size
                have hs2 := hs.kept hg0
                have hmap2 := hmap.kept hg0 (by simp)
                have hy2 : w2.heap[byl]? = some (.cells (yrow (fun i => lastVal K V (N i) q) n n) 3 (0, 0)) := by rw [hg0.block byl (blk_lt HY.out) (by simp)]; exact HY.out
                have hown2 := hown.kept hg0 (by cases L.ownBlock <;> simp)
                have HY2 : Hid (w2.heap[byl]? = some (.cells (yrow (fun i => lastVal K V (N i) q) n n) 3 (0, 0))) := hy2
                clear k2 hyr hs hmap HY hown hg0 hs0 hy2
                generalize wr.heap.size = r at hrg0 hr ⊢
                go_loopw [15] (fun _ wr => ∃ (left : Lit → Bool) (cnt : Nat), wr.ranges Yba.prog 9 (plainElem Yba.prog 3) By r yq (fillD K V q) left cnt ∧ Sit w name (scenOf Bn n cn Be m ce By h0 h1 start) bv bb (brdOf name Bn n cn bm L byl (lastTo N h0 n) (lastTo N h1 n) start Be m ce) wr ∧ wr.ownsMap Yba.prog 9 (plainElem Yba.prog 3) bm n (fillD N (fun i => (i : Int)) n) ∧ wr.heap[byl]? = some (.cells (yrow (fun i => lastVal K V (N i) q) n n) 3 (0, 0)) ∧ wr.ownsRow w.heap.size 38 2 L (2 * m) (links (fun i => lastTo N (E0 i) n) (fun i => lastTo N (E1 i) n) m) ∧ ∀ kl, left kl = true → Maps.has (fillD K V q) kl = true) (fun _ wr => wr.rangeLeft By r)
                case atStart => exact ⟨_, _, hrg0, hs2, hmap2, HY2.out, hown2, fun _ h => h⟩
                case round =>
                  clear HY2 hmap2 hs2 hown2 hrg0
                  obtain ⟨left, cnt, hrg, hs, hmap, hyl, hown, hleft⟩ := hrel
                  have HY : Hid (wr.heap[byl]? = some (.cells (yrow (fun i => lastVal K V (N i) q) n n) 3 (0, 0))) := hyl
                  have HL : Hid (∀ kl, left kl = true → Maps.has (fillD K V q) kl = true) := hleft
                  clear hyl hleft
                  have cv := cell_row hs.vb (i := 0) rfl
                  go_wp2_with (first | (at_next; refine wpList_next_ranges _ rfl _ rfl 9 keyed (plainElem Yba.prog 3) Value.string (Value.int .i64) inv_key inv_elem By r yq _ _ _ rfl hrg ?_ ?_))
                  · intro _ _
                    go_wp2
                    go_ret
                    exact ⟨bb, bm, byl, L, rfl, hs.below, hs.bd, hs.hb, hmap, HY.out, hown⟩
                  · intro x c kl ya yb w1 cnt1 hkx hlx _ _ hrg1 hlt hg1 _ hen
                    obtain ⟨hxs, rfl⟩ := inv_key2 x kl hkx
                    have hh := HL.out _ hlx
                    rw [fillD_has, decide_eq_true_iff] at hh
                    have hit := lastTo_hit K x q hh
                    have hltq := lastTo_lt K x q
                    have hlN := HK.out (lastTo K x q).toNat (by omega)
                    rw [hit] at hlN
                    have R := range_step N (fun i => lastVal K V (N i) q) hrg hr hg1 hs hmap HY.out hown
                    have hat6 := at_ok N n x hxs bv bb bm w.heap.size n w1 (cell_row R.1.vb rfl) (cell_row R.1.bd rfl) R.2.1 hlN
                    have HM : Hid (w1.rangeLeft By r < wr.rangeLeft By r) := by show _ < _; rw [hrg1.left_eq, hrg.left_eq]; exact hlt
                    have HR : Hid (w1.ranges Yba.prog 9 (plainElem Yba.prog 3) By r yq (fillD K V q) (fun z => left z && !z.sameKey (key x)) cnt1) := hrg1
                    clear hh hit hltq hlN hrg hg1 hs hmap HY hown cv hkx hlx hrg1 hlt
                    go_wp2_with (first | (go_at_call 6; refine hat6.mono ?_; rintro e w' ⟨rfl, rfl⟩))
                    go_roundw
                    case rel => (repeat apply Exists.intro); exact ⟨⟨_, _, HR.out, R.1, R.2.1, R.2.2.1, R.2.2.2, fun kl h => HL.out kl (by simp at h; exact h.1)⟩, rfl⟩
                    case measure => exact HM.out

end Go.Proofs.Ybulkvxq
