/-
  The walk over 'LawS1108ABuild' (3).
-/
import Derived.Test.YbulkvxqLook
namespace Go.Proofs.Ybulkvxq
open Go.RowKit Go.Maps Go.Deep
attribute [local go_sem ↓] Go.wp_at_zero Go.wp_at_succ

set_option maxRecDepth 100000 in
set_option maxHeartbeats 4000000 in
theorem law_walk (name : ByteArray) (ss : Nat → ByteArray) (hss : ∀ i, (ss i).size ≤ maxLen) (na : Option Addr) (n0 c0 : Nat) 
    (ea : Option Addr) (m ce eb eo : Nat) (EA EB : Nat → Int) (ya : Option Addr) (q cy yb yo : Nat) (YN YV : Nat → Int) (hq0 hq1 start : Int) (w : World)
    (hna : 0 < n0 → ∃ ad, na = some ad ∧ ∀ j, j < n0 → w.cell? (ad.add j) = some (.string (ss j)))
    (hEA : ∀ i, 0 ≤ EA i ∧ EA i ≤ 255) (hEB : ∀ i, 0 ≤ EB i ∧ EB i ≤ 255) (hYN : ∀ i, 0 ≤ YN i ∧ YN i ≤ 255) (hYV : ∀ i, (Lit.int .i64 (YV i)).wf = true)
    (hea : 0 < m → ea = some ⟨eb, eo, none⟩) (hec : ∀ i, i < m → w.cell? ⟨eb, eo + i * 2, none⟩ = some (.int .u8 (EA i)) ∧ w.cell? ⟨eb, eo + i * 2 + 1, none⟩ = some (.int .u8 (EB i)))
    (hya : 0 < q → ya = some ⟨yb, yo, none⟩) (hyc : ∀ i, i < q → w.cell? ⟨yb, yo + i * 2, none⟩ = some (.int .u8 (YN i)) ∧ w.cell? ⟨yb, yo + i * 2 + 1, none⟩ = some (.int .i64 (YV i)))
    (hh0 : 0 ≤ hq0 ∧ hq0 ≤ 255) (hh1 : 0 ≤ hq1 ∧ hq1 ≤ 255)
    (hn0 : n0 ≤ 1024) (hm : m ≤ 1024) (hq : q ≤ 1024) :
    Calls Yba.prog 3 #[.string name, .slice na n0 c0, .slice ea m ce, .slice ya q cy, .int .u8 hq0, .int .u8 hq1, .int .i64 start] w fun e w' => e = .returned (.bool true) ∧ Below w.heap.size w w' := by
  have HNA : Hid (0 < n0 → ∃ ad, na = some ad ∧ ∀ j, j < n0 → w.cell? (ad.add j) = some (.string (ss j))) := hna
  have HEA : Hid (0 < m → ea = some ⟨eb, eo, none⟩) := hea
  have HEC : Hid (∀ i, i < m → w.cell? ⟨eb, eo + i * 2, none⟩ = some (.int .u8 (EA i)) ∧ w.cell? ⟨eb, eo + i * 2 + 1, none⟩ = some (.int .u8 (EB i))) := hec
  have HYA : Hid (0 < q → ya = some ⟨yb, yo, none⟩) := hya
  have HYC : Hid (∀ i, i < q → w.cell? ⟨yb, yo + i * 2, none⟩ = some (.int .u8 (YN i)) ∧ w.cell? ⟨yb, yo + i * 2 + 1, none⟩ = some (.int .i64 (YV i))) := hyc
  have HE0 : Hid (∀ i, 0 ≤ EA i ∧ EA i ≤ 255) := hEA
  have HE1 : Hid (∀ i, 0 ≤ EB i ∧ EB i ≤ 255) := hEB
  have HY0 : Hid (∀ i, 0 ≤ YN i ∧ YN i ≤ 255) := hYN
  have HY1 : Hid (∀ i, (Lit.int .i64 (YV i)).wf = true) := hYV
  have HSS : Hid (∀ i, (ss i).size ≤ maxLen) := hss
  clear hna hea hec hya hyc hEA hEB hYN hYV hss
  have hms := made_strs n0 hn0
  go_enter Yba.func3, Yba.ntmps3
  go_upto_region 4 with fail
  clear hms
  have tok : True := trivial
  go_upto_if 58 with (first | (have _t := tok; refine wpList_copy_splice rfl (.tmp 53) (.tmp 54) 22 22 rfl 9 Yba.underlying22 size9 _ _ n0 n0 n0 c0 rfl rfl w.heap.size 0 (madeCells #[.string ⟨#[]⟩] n0).toList 9 (copy_dst w n0) ((List.range n0).map fun j => .string (ss j)) (by simp) (fun h => ⟨rfl, copy_src HNA.out (by simpa using h)⟩) (by simp [size_madeCells]) (by simp [Value.oneCell']) w.heap.size w ((Below.refl _ _).alloc (Nat.le_refl _) _) (Nat.le_refl _) ?_; intro w2 HG2 hB2; clear tok))
  go_cut [15] (fun v wx => ∃ (N : Nat → ByteArray) (n Bn cn : Nat), v = .slice (some ⟨Bn, 0, none⟩) n cn ∧ Nodes w N n Bn wx)
  case first =>
    as_aux_lemma =>
      by_cases h0 : n0 = 0
      · subst h0
        go_wp2
        go_meet
        case rel => exact nodes_one hB2
      · have hb : ((n0 : Int) == 0) = false := by rw [beq_eq_false_iff_ne]; omega
        go_wp2
        go_meet
        case rel => exact nodes_all HSS.out h0 hn0 hB2 HG2.out
  case rest =>
    clear HG2 hB2 HSS HNA
    obtain ⟨N, n, Bn, cn, rfl, hn1, hn, hN, hnodes, hB, hBn⟩ := hcut
    have HN : Hid (∀ i, i < n → wc.cell? ⟨Bn, i, none⟩ = some (.string (N i))) := hnodes
    clear hnodes
    have hme := made_pairs m hm
    go_wp2_with fail
    clear hme
    have hB0 : Below wc.heap.size wc (wc.alloc (.cells (madeCells #[.string ⟨#[]⟩, .string ⟨#[]⟩] (m * 2)) 28)) := (Below.refl _ _).alloc (Nat.le_refl _) _
    have hr0 : (wc.alloc (.cells (madeCells #[.string ⟨#[]⟩, .string ⟨#[]⟩] (m * 2)) 28)).heap[wc.heap.size]? = some (.cells (erow (fun k => N (EA k % (n : Int)).toNat) (fun k => N (EB k % (n : Int)).toNat) m 0) 28 (0, 0)) := by rw [erow_zero]; exact blk_new _ _
    generalize wc.alloc (.cells (madeCells #[.string ⟨#[]⟩, .string ⟨#[]⟩] (m * 2)) 28) = wd at hB0 hr0 ⊢
    have HR0 : Hid (wd.heap[wc.heap.size]? = some (.cells (erow (fun k => N (EA k % (n : Int)).toNat) (fun k => N (EB k % (n : Int)).toNat) m 0) 28 (0, 0))) := hr0
    clear hr0
    go_loopw [67] (fun i wr => ∃ k : Nat, k ≤ m ∧ i = .int .i64 k ∧ Below wc.heap.size wc wr ∧ wr.heap[wc.heap.size]? = some (.cells (erow (fun k => N (EA k % (n : Int)).toNat) (fun k => N (EB k % (n : Int)).toNat) m k) 28 (0, 0))) (fun i _ => m - (intOf i).toNat)
    case atStart => exact ⟨0, Nat.zero_le _, rfl, hB0, HR0.out⟩
    case round =>
      clear HR0 hB0
      obtain ⟨k, hk, rfl, hbl, hrow⟩ := hrel
      have HR : Hid (wr.heap[wc.heap.size]? = some (.cells (erow (fun k => N (EA k % (n : Int)).toNat) (fun k => N (EB k % (n : Int)).toNat) m k) 28 (0, 0))) := hrow
      clear hrow
      by_cases hlt : k < m
      · as_aux_lemma =>
          have hae := HEA.out (by omega)
          subst hae
          have e0 : wr.cell? ⟨eb, eo + k * 2, none⟩ = some (.int .u8 (EA k)) := cell_down hB hbl (HEC.out k hlt).1
          have e1 : wr.cell? ⟨eb, eo + k * 2 + 1, none⟩ = some (.int .u8 (EB k)) := cell_down hB hbl (HEC.out k hlt).2
          obtain ⟨a0, a1⟩ := HE0.out k
          obtain ⟨b0, b1⟩ := HE1.out k
          go_upto_region 12 with fail
          clear e0 e1
          have hz1 : Below wc.heap.size wc (wr.alloc (.cells #[.int .u8 (EA k), .int .u8 (EB k)] 27)) := hbl.alloc hbl.size _
          have hz2 := blk_alloc HR.out (.cells #[.int .u8 (EA k), .int .u8 (EB k)] 27)
          have hz3 := blk_new wr (.cells #[.int .u8 (EA k), .int .u8 (EB k)] 27)
          have hz4 := blk_lt HR.out
          clear hbl HR
          generalize wr.alloc (.cells #[.int .u8 (EA k), .int .u8 (EB k)] 27) = wz at hz1 hz2 hz3 ⊢
          generalize wr.heap.size = Hh at hz3 hz4 ⊢
          have hnz : ¬ (n : Int) = 0 := by omega
          have hnz2 : ¬ n = 0 := by omega
          have i0 : 0 ≤ EA k % (n : Int) := Int.emod_nonneg _ hnz
          have i1 : EA k % (n : Int) < (n : Int) := Int.emod_lt_of_pos _ (by omega)
          have j0 : 0 ≤ EB k % (n : Int) := Int.emod_nonneg _ hnz
          have j1 : EB k % (n : Int) < (n : Int) := Int.emod_lt_of_pos _ (by omega)
          have ta : (EA k).tmod (n : Int) = EA k % (n : Int) := Int.tmod_eq_emod_of_nonneg a0
          have tb : (EB k).tmod (n : Int) = EB k % (n : Int) := Int.tmod_eq_emod_of_nonneg b0
          have wa : IntKind.i64.wrap (EA k) = EA k := wrap_byte a0 a1
          have wb : IntKind.i64.wrap (EB k) = EB k := wrap_byte b0 b1
          have c0 : wz.cell? ⟨Hh, 0, none⟩ = some (.int .u8 (EA k)) := cell_row hz3 (i := 0) rfl
          have c1 : wz.cell? ⟨Hh, 1, none⟩ = some (.int .u8 (EB k)) := cell_row hz3 (i := 1) rfl
          have c2 : wz.cell? ⟨Bn, (EA k % (n : Int)).toNat, none⟩ = some (.string (N (EA k % (n : Int)).toNat)) := (hz1.cell (p := ⟨Bn, _, none⟩) hBn).trans (HN.out _ (by omega))
          have c3 : wz.cell? ⟨Bn, (EB k % (n : Int)).toNat, none⟩ = some (.string (N (EB k % (n : Int)).toNat)) := (hz1.cell (p := ⟨Bn, _, none⟩) hBn).trans (HN.out _ (by omega))
          have d0 := cell_row hz2 (erow_at _ _ m k (k * 2) (by omega))
          have d1 := cell_row hz2 (erow_at _ _ m k (k * 2 + 1) (by omega))
          have f0 := free_row hz2 (i := k * 2)
          have f1 := free_row hz2 (i := k * 2 + 1)
          have R := edge_step hz1 hz2
          have ne1 : wc.heap.size ≠ Hh := by omega
          have ne2 : wc.heap.size ≠ Bn := by omega
          have hkm : (k : Int) < (m : Int) := by omega
          clear hz1 hz2 hz3 hz4
          go_region_held3 (fun w' => w'.cell? ⟨Hh, 0, none⟩ = some (.int .u8 (EA k)) ∧ w'.cell? ⟨Hh, 1, none⟩ = some (.int .u8 (EB k)) ∧ w'.cell? ⟨Bn, (EA k % (n : Int)).toNat, none⟩ = some (.string (N (EA k % (n : Int)).toNat)) ∧ w'.cell? ⟨Bn, (EB k % (n : Int)).toNat, none⟩ = some (.string (N (EB k % (n : Int)).toNat))) (simp [*, World.cell?_setCell_far]) (fail)
          all_goals clear c0 c1 c2 c3 d0 d1 f0 f1 ne1 ne2 hkm ta tb wa wb i0 i1 j0 j1
          all_goals go_wp2
          all_goals
            go_roundw
            case rel => exact ⟨k + 1, by omega, by go_num, R⟩
            case measure => simp [intOf]; omega
      · obtain rfl : m = k := by omega
        have hmm := made_map
        go_wp2_with fail
        clear hmm
        have hm0 := World.ownsMap_made (H := Unit) wr Yba.prog 9 (plainElem Yba.prog 3)
        have hB1 : Below wr.heap.size wr (wr.alloc (.map #[] 0)) := (Below.refl _ _).alloc (Nat.le_refl _) _
        obtain ⟨wf, rfl⟩ : ∃ wf : World, wf = wr := ⟨_, rfl⟩
        generalize wf.alloc (.map #[] 0) = wg at hm0 hB1 ⊢
        go_loopw [98] (fun i wr => ∃ k : Nat, k ≤ q ∧ i = .int .i64 k ∧ Below wf.heap.size wf wr ∧ wr.ownsMap Yba.prog 9 (plainElem Yba.prog 3) wf.heap.size k (fillD (fun k => N (YN k % (n : Int)).toNat) YV k)) (fun i _ => q - (intOf i).toNat)
        case atStart => exact ⟨0, Nat.zero_le _, rfl, hB1, hm0⟩
        case round =>
          clear hm0 hB1
          obtain ⟨k, hk, rfl, hb2, hown⟩ := hrel
          by_cases hlt : k < q
          · as_aux_lemma =>
              have hae := HYA.out (by omega)
              subst hae
              have hbf : Below wc.heap.size wc wr := hbl.trans (hb2.mono hbl.size)
              have e0 : wr.cell? ⟨yb, yo + k * 2, none⟩ = some (.int .u8 (YN k)) := cell_down hB hbf (HYC.out k hlt).1
              have e1 : wr.cell? ⟨yb, yo + k * 2 + 1, none⟩ = some (.int .i64 (YV k)) := cell_down hB hbf (HYC.out k hlt).2
              obtain ⟨a0, a1⟩ := HY0.out k
              go_upto_region 18 with fail
              clear e0 e1
              have hnz : ¬ (n : Int) = 0 := by omega
              have hnz2 : ¬ n = 0 := by omega
              have i0 : 0 ≤ YN k % (n : Int) := Int.emod_nonneg _ hnz
              have i1 : YN k % (n : Int) < (n : Int) := Int.emod_lt_of_pos _ (by omega)
              have hz1 : Below wc.heap.size wc (wr.alloc (.cells #[.int .u8 (YN k), .int .i64 (YV k)] 31)) := hbf.alloc hbf.size _
              have hz3 := blk_new wr (.cells #[.int .u8 (YN k), .int .i64 (YV k)] 31)
              have hz4 : Below wf.heap.size wf (wr.alloc (.cells #[.int .u8 (YN k), .int .i64 (YV k)] 31)) := hb2.alloc hb2.size _
              have hz5 := hown.alloc (.cells #[.int .u8 (YN k), .int .i64 (YV k)] 31)
              clear hbf hb2 hown
              generalize wr.alloc (.cells #[.int .u8 (YN k), .int .i64 (YV k)] 31) = wz at hz1 hz3 hz4 hz5 ⊢
              generalize wr.heap.size = Hh at hz3 ⊢
              have c0 : wz.cell? ⟨Hh, 0, none⟩ = some (.int .u8 (YN k)) := cell_row hz3 (i := 0) rfl
              have c1 : wz.cell? ⟨Hh, 1, none⟩ = some (.int .i64 (YV k)) := cell_row hz3 (i := 1) rfl
              have c2 : wz.cell? ⟨Bn, (YN k % (n : Int)).toNat, none⟩ = some (.string (N (YN k % (n : Int)).toNat)) := (hz1.cell (p := ⟨Bn, _, none⟩) hBn).trans (HN.out _ (by omega))
              obtain ⟨w3, hrun, hown3, hg3⟩ := hz5.drew.update keyed Yba.underlying29 (by unfold maxLen; omega) (keyOf_str (N (YN k % (n : Int)).toNat) (hN _)) (plainElem_int Yba.underlying3 (HY1.out k))
              have ne1 : Hh ≠ wf.heap.size := fun e => by obtain ⟨es, c, h⟩ := own_obj hz5; rw [← e, hz3] at h; simp at h
              have ne2 : Bn ≠ wf.heap.size := by have := hbl.size; omega
              have k0 : w3.cell? ⟨Hh, 0, none⟩ = some (.int .u8 (YN k)) := hg3.cell c0 (fun e => ne1 (Option.some.inj e))
              have k1 : w3.cell? ⟨Hh, 1, none⟩ = some (.int .i64 (YV k)) := hg3.cell c1 (fun e => ne1 (Option.some.inj e))
              have k2 : w3.cell? ⟨Bn, (YN k % (n : Int)).toNat, none⟩ = some (.string (N (YN k % (n : Int)).toNat)) := hg3.cell c2 (fun e => ne2 (Option.some.inj e))
              have hbe : Below wf.heap.size wf w3 := hz4.drew.grown hg3 hz4.size (fun j e => by cases e; exact Nat.le_refl _)
              have ta : (YN k).tmod (n : Int) = YN k % (n : Int) := Int.tmod_eq_emod_of_nonneg a0
              have wa : IntKind.i64.wrap (YN k) = YN k := wrap_byte a0 a1
              clear hz1 hz3 hz4 hz5 hg3 ne1 ne2
              go_region_held3 (fun w' => w'.cell? ⟨Hh, 0, none⟩ = some (.int .u8 (YN k)) ∧ w'.cell? ⟨Hh, 1, none⟩ = some (.int .i64 (YV k)) ∧ w'.cell? ⟨Bn, (YN k % (n : Int)).toNat, none⟩ = some (.string (N (YN k % (n : Int)).toNat))) (simp [*]) (fail)
              all_goals clear c0 c1 c2 k0 k1 k2 ta wa i0 i1 hrun
              all_goals go_wp2
              all_goals
                go_roundw
                case rel => exact ⟨k + 1, by omega, by go_num, hbe, hown3⟩
                case measure => simp [intOf]; omega
          · obtain rfl : q = k := by omega
            have hbf : Below wc.heap.size wc wr := hbl.trans (hb2.mono hbl.size)
            have hnz : ¬ (n : Int) = 0 := by omega
            have hnz2 : ¬ n = 0 := by omega
            obtain ⟨a0, a1⟩ := hh0
            obtain ⟨b0, b1⟩ := hh1
            have i0 : 0 ≤ hq0 % (n : Int) := Int.emod_nonneg _ hnz
            have i1 : hq0 % (n : Int) < (n : Int) := Int.emod_lt_of_pos _ (by omega)
            have j0 : 0 ≤ hq1 % (n : Int) := Int.emod_nonneg _ hnz
            have j1 : hq1 % (n : Int) < (n : Int) := Int.emod_lt_of_pos _ (by omega)
            have c0 : wr.cell? ⟨Bn, (hq0 % (n : Int)).toNat, none⟩ = some (.string (N (hq0 % (n : Int)).toNat)) := (hbf.cell (p := ⟨Bn, _, none⟩) hBn).trans (HN.out _ (by omega))
            have c1 : wr.cell? ⟨Bn, (hq1 % (n : Int)).toNat, none⟩ = some (.string (N (hq1 % (n : Int)).toNat)) := (hbf.cell (p := ⟨Bn, _, none⟩) hBn).trans (HN.out _ (by omega))
            go_wp2_with fail
            refine (board_fin name N hN n cn Bn m q yb yo hn1 hn hm EA EB YN YV hq0 hq1 start hB hBn HN.out hbl HR.out hb2 hown HYC.out _).mono ?_
            rintro e wq ⟨bb, bm, byl, la, lc, lg, rfl, F⟩
            clear c0 c1 i0 i1 j0 j1 a0 a1 b0 b1 hbf hb2 hown hbl HR HN hBn hB HEC HEA HYC HY1 HE0 HE1 hnz hnz2
            have cb0 : wq.cell? ⟨bb, 0, none⟩ = some (.string name) := cell_row F.bd (i := 0) rfl
            have cb1 : wq.cell? ⟨bb, 1, none⟩ = some (.slice (some ⟨Bn, 0, none⟩) n cn) := cell_row F.bd (i := 1) rfl
            have cb4 : wq.cell? ⟨bb, 4, none⟩ = some (.slice (some ⟨byl, 0, none⟩) n n) := cell_row F.bd (i := 4) rfl
            have cb7 : wq.cell? ⟨bb, 7, none⟩ = some (.int .i64 start) := cell_row F.bd (i := 7) rfl
            go_wp2_with fail
            clear cb0 cb7
            generalize hE0' : (fun k => N (EA k % (n : Int)).toNat) = E0 at F
            generalize hE1' : (fun k => N (EB k % (n : Int)).toNat) = E1 at F
            clear hE0' hE1'
            go_loopw [27, 28] (fun c i wr => ∃ (k j : Nat), k ≤ n ∧ i = .int .i64 k ∧ c = .int .i64 (cnt N n k) ∧ wr = wq.drewN j) (fun _ i _ => n - (intOf i).toNat)
            case atStart => exact ⟨0, 0, Nat.zero_le _, rfl, rfl, rfl⟩
            case round =>
              obtain ⟨k, j, hk, rfl, rfl, rfl⟩ := hrel
              by_cases hlt : k < n
              · as_aux_lemma =>
                  have hki : (k : Int) < (n : Int) := by omega
                  have cN : wq.cell? ⟨Bn, k, none⟩ = some (.string (N k)) := F.nodes k hlt
                  have hcle := cnt_le N n k
                  have cb2 : wq.cell? ⟨bb, 2, none⟩ = some (.map (some bm)) := cell_row F.bd (i := 2) rfl
                  have hge : 0 ≤ lastTo N (N k) n := by have := lastTo_there N (N k) n k hlt rfl; omega
                  have hlook : ∀ jj, (Instr.lookup 29 (.map (some bm)) (.string (N k)) true).run Yba.prog (wq.drewN jj) = .ok (.tuple #[.int .i64 (lastTo N (N k) n), .bool true]) (wq.drewN jj) := fun jj => look_ok_fill (w := wq.drewN jj) (own_block F.ix rfl) (N k) (hN k) hge
                  have cy0 : wq.cell? ⟨byl, k, none⟩ = some (.int .i64 (lastVal (fun k => N (YN k % (n : Int)).toNat) YV (N k) q)) := by
                    have := cell_row F.yl (yrow_at _ n n k hlt)
                    rwa [if_pos hlt] at this
                  go_upto_region 32 with fail
                  go_quiet (fail)
                  rw [World.drewN_drewN]
                  generalize j + nq = j1
                  have hlast := last_any N n hn Bn cn (N k) (wq.drewN j1) (fun i hi => by simpa using F.nodes i hi)
                  by_cases hl : lastTo N (N k) n = (k : Int)
                  · have hb : (lastTo N (N k) n == (k : Int)) = true := by rw [beq_iff_eq]; exact hl
                    have HC : Hid (cnt N n (k + 1) = cnt N n k + 1) := by show _ = _; rw [cnt_step, if_pos hl]
                    clear hl
                    go_wp2_with (first | (go_at_call 5; refine hlast.mono ?_; rintro e w' ⟨rfl, rfl⟩))
                    clear hb hlast
                    go_quiet (fail)
                    rw [World.drewN_drewN]
                    generalize j1 + nq = j2
                    go_wp2_with fail
                    clear hlook cb2
                    as_aux_lemma =>
                    generalize hS : lastVal (fun k => N (YN k % (n : Int)).toNat) YV (N k) q = S at cy0
                    have HS : Hid (lastVal (fun k => N (YN k % (n : Int)).toNat) YV (N k) q = S) := hS
                    clear hS
                    go_loopw [32, 33] (fun v i wr => v = .int .i64 0 ∧ (∃ jj, wr = wq.drewN jj) ∧ ((i = .int .i64 (-1) ∧ S = 0) ∨ ∃ kk : Nat, kk < q ∧ i = .int .i64 kk ∧ S = lastVal (fun k => N (YN k % (n : Int)).toNat) YV (N k) (kk + 1))) (fun _ i _ => (intOf i + 1).toNat)
                    case atStart =>
                      refine ⟨rfl, ⟨_, rfl⟩, ?_⟩
                      by_cases h0 : q = 0
                      · subst h0; exact Or.inl ⟨rfl, HS.out.symm⟩
                      · exact Or.inr ⟨q - 1, by omega, by go_num, by rw [show q - 1 + 1 = q from by omega]; exact HS.out.symm⟩
                    case round =>
                      clear HS
                      obtain ⟨rfl, ⟨jj, rfl⟩, hrel | ⟨kk, hkk, rfl, hS⟩⟩ := hrel
                      · obtain ⟨rfl, hS0⟩ := hrel
                        have hbs : (S != 0) = false := by rw [hS0]; rfl
                        clear hS0
                        go_wp2
                        go_roundw
                        case rel => exact ⟨k + 1, _, by omega, by go_num, by rw [HC.out]; go_num, rfl⟩
                        case measure => simp [intOf]; omega
                      · have hae := HYA.out (by omega)
                        subst hae
                        obtain ⟨ey0, ey1⟩ := F.ys kk hkk
                        obtain ⟨a0, a1⟩ := HY0.out kk
                        have hnz : ¬ (n : Int) = 0 := by omega
                        have hnz2 : ¬ n = 0 := by omega
                        have i0 : 0 ≤ YN kk % (n : Int) := Int.emod_nonneg _ hnz
                        have i1 : YN kk % (n : Int) < (n : Int) := Int.emod_lt_of_pos _ (by omega)
                        have cK : wq.cell? ⟨Bn, (YN kk % (n : Int)).toNat, none⟩ = some (.string (N (YN kk % (n : Int)).toNat)) := F.nodes _ (by omega)
                        have hkq : (kk : Int) < (q : Int) := by omega
                        have ta : (YN kk).tmod (n : Int) = YN kk % (n : Int) := Int.tmod_eq_emod_of_nonneg a0
                        have wa : IntKind.i64.wrap (YN kk) = YN kk := wrap_byte a0 a1
                        have HSK : Hid (S = lastVal (fun k => N (YN k % (n : Int)).toNat) YV (N k) (kk + 1)) := hS
                        clear hS
                        by_cases hsm : same (N (YN kk % (n : Int)).toNat) (N k) = true
                        · have hb1 : ((N (YN kk % (n : Int)).toNat).toList == (N k).toList) = true := hsm
                          have hSv : S = YV kk := HSK.out.trans (if_pos hsm)
                          have hbs : (S != YV kk) = false := by rw [hSv]; simp
                          clear hSv hsm
                          go_upto_region 44 with fail
                          go_quiet (fail)
                          rw [World.drewN_drewN]
                          generalize jj + nq = j3
                          go_wp2
                          go_roundw
                          case rel => exact ⟨k + 1, _, by omega, by go_num, by rw [HC.out]; go_num, rfl⟩
                          case measure => simp [intOf]; omega
                        · have hb1 : ((N (YN kk % (n : Int)).toNat).toList == (N k).toList) = false := by simpa [same] using hsm
                          have HSn : Hid (S = lastVal (fun k => N (YN k % (n : Int)).toNat) YV (N k) kk) := HSK.out.trans (if_neg hsm)
                          clear hsm HSK
                          go_upto_region 44 with fail
                          go_quiet (fail)
                          rw [World.drewN_drewN]
                          generalize jj + nq = j3
                          go_wp2
                          go_roundw
                          case rel =>
                            refine ⟨rfl, ⟨_, rfl⟩, ?_⟩
                            match kk, HSn with
                            | 0, H => exact Or.inl ⟨rfl, H.out⟩
                            | kk + 1, H => exact Or.inr ⟨kk, by omega, by go_num, H.out⟩
                          case measure => simp [intOf]
                  · have hb : (lastTo N (N k) n == (k : Int)) = false := by rw [beq_eq_false_iff_ne]; exact hl
                    have HC : Hid (cnt N n (k + 1) = cnt N n k) := by show _ = _; rw [cnt_step, if_neg hl, Nat.add_zero]
                    clear hl
                    go_wp2_with (first | (go_at_call 5; refine hlast.mono ?_; rintro e w' ⟨rfl, rfl⟩))
                    clear hb hlast
                    go_quiet (fail)
                    rw [World.drewN_drewN]
                    generalize j1 + nq = j2
                    go_wp2_with fail
                    clear hlook cb2
                    as_aux_lemma =>
                    generalize hS : lastVal (fun k => N (YN k % (n : Int)).toNat) YV (N k) q = S at cy0
                    have HS : Hid (lastVal (fun k => N (YN k % (n : Int)).toNat) YV (N k) q = S) := hS
                    clear hS
                    go_loopw [32, 33] (fun v i wr => v = .int .i64 0 ∧ (∃ jj, wr = wq.drewN jj) ∧ ((i = .int .i64 (-1) ∧ S = 0) ∨ ∃ kk : Nat, kk < q ∧ i = .int .i64 kk ∧ S = lastVal (fun k => N (YN k % (n : Int)).toNat) YV (N k) (kk + 1))) (fun _ i _ => (intOf i + 1).toNat)
                    case atStart =>
                      refine ⟨rfl, ⟨_, rfl⟩, ?_⟩
                      by_cases h0 : q = 0
                      · subst h0; exact Or.inl ⟨rfl, HS.out.symm⟩
                      · exact Or.inr ⟨q - 1, by omega, by go_num, by rw [show q - 1 + 1 = q from by omega]; exact HS.out.symm⟩
                    case round =>
                      clear HS
                      obtain ⟨rfl, ⟨jj, rfl⟩, hrel | ⟨kk, hkk, rfl, hS⟩⟩ := hrel
                      · obtain ⟨rfl, hS0⟩ := hrel
                        have hbs : (S != 0) = false := by rw [hS0]; rfl
                        clear hS0
                        go_wp2
                        go_roundw
                        case rel => exact ⟨k + 1, _, by omega, by go_num, by rw [HC.out], rfl⟩
                        case measure => simp [intOf]; omega
                      · have hae := HYA.out (by omega)
                        subst hae
                        obtain ⟨ey0, ey1⟩ := F.ys kk hkk
                        obtain ⟨a0, a1⟩ := HY0.out kk
                        have hnz : ¬ (n : Int) = 0 := by omega
                        have hnz2 : ¬ n = 0 := by omega
                        have i0 : 0 ≤ YN kk % (n : Int) := Int.emod_nonneg _ hnz
                        have i1 : YN kk % (n : Int) < (n : Int) := Int.emod_lt_of_pos _ (by omega)
                        have cK : wq.cell? ⟨Bn, (YN kk % (n : Int)).toNat, none⟩ = some (.string (N (YN kk % (n : Int)).toNat)) := F.nodes _ (by omega)
                        have hkq : (kk : Int) < (q : Int) := by omega
                        have ta : (YN kk).tmod (n : Int) = YN kk % (n : Int) := Int.tmod_eq_emod_of_nonneg a0
                        have wa : IntKind.i64.wrap (YN kk) = YN kk := wrap_byte a0 a1
                        have HSK : Hid (S = lastVal (fun k => N (YN k % (n : Int)).toNat) YV (N k) (kk + 1)) := hS
                        clear hS
                        by_cases hsm : same (N (YN kk % (n : Int)).toNat) (N k) = true
                        · have hb1 : ((N (YN kk % (n : Int)).toNat).toList == (N k).toList) = true := hsm
                          have hSv : S = YV kk := HSK.out.trans (if_pos hsm)
                          have hbs : (S != YV kk) = false := by rw [hSv]; simp
                          clear hSv hsm
                          go_upto_region 44 with fail
                          go_quiet (fail)
                          rw [World.drewN_drewN]
                          generalize jj + nq = j3
                          go_wp2
                          go_roundw
                          case rel => exact ⟨k + 1, _, by omega, by go_num, by rw [HC.out], rfl⟩
                          case measure => simp [intOf]; omega
                        · have hb1 : ((N (YN kk % (n : Int)).toNat).toList == (N k).toList) = false := by simpa [same] using hsm
                          have HSn : Hid (S = lastVal (fun k => N (YN k % (n : Int)).toNat) YV (N k) kk) := HSK.out.trans (if_neg hsm)
                          clear hsm HSK
                          go_upto_region 44 with fail
                          go_quiet (fail)
                          rw [World.drewN_drewN]
                          generalize jj + nq = j3
                          go_wp2
                          go_roundw
                          case rel =>
                            refine ⟨rfl, ⟨_, rfl⟩, ?_⟩
                            match kk, HSn with
                            | 0, H => exact Or.inl ⟨rfl, H.out⟩
                            | kk + 1, H => exact Or.inr ⟨kk, by omega, by go_num, H.out⟩
                          case measure => simp [intOf]
              · obtain rfl : n = k := by omega
                have cb2 : wq.cell? ⟨bb, 2, none⟩ = some (.map (some bm)) := cell_row F.bd (i := 2) rfl
                have hsize : Maps.size (fillD N (fun i => (i : Int)) n) = cnt N n n := fillD_size N _ n
                have tok : True := trivial
                go_upto_region 50 with (first | (at_len; have _t := tok; refine wpList_len_own _ rfl _ 29 rfl 9 3 Yba.underlying29 _ bm n (fillD N (fun i => (i : Int)) n) rfl (own_block F.ix rfl) ?_; clear tok))
                clear hsize cb2
                have cb5 : wq.cell? ⟨bb, 5, none⟩ = some (.int .i64 (lastTo N (N (hq0 % (n : Int)).toNat) n)) := cell_row F.bd (i := 5) rfl
                have cb6 : wq.cell? ⟨bb, 6, none⟩ = some (.int .i64 (lastTo N (N (hq1 % (n : Int)).toNat) n)) := cell_row F.bd (i := 6) rfl
                have hc0 : ∀ a, Calls Yba.prog 5 #[.slice (some ⟨Bn, 0, none⟩) n cn, .string (N (hq0 % (n : Int)).toNat)] (wq.drewN (j + a)) (fun e w'' => e = .returned (.int .i64 (lastTo N (N (hq0 % (n : Int)).toNat) n)) ∧ ∃ m, w'' = wq.drewN (j + m)) := fun a => (last_any N n hn Bn cn (N (hq0 % (n : Int)).toNat) (wq.drewN (j + a)) (fun i hi => by simpa using F.nodes i hi)).mono fun e w' ⟨he, hw⟩ => ⟨he, a, hw⟩
                have hc1 : ∀ a, Calls Yba.prog 5 #[.slice (some ⟨Bn, 0, none⟩) n cn, .string (N (hq1 % (n : Int)).toNat)] (wq.drewN (j + a)) (fun e w'' => e = .returned (.int .i64 (lastTo N (N (hq1 % (n : Int)).toNat) n)) ∧ ∃ m, w'' = wq.drewN (j + m)) := fun a => (last_any N n hn Bn cn (N (hq1 % (n : Int)).toNat) (wq.drewN (j + a)) (fun i hi => by simpa using F.nodes i hi)).mono fun e w' ⟨he, hw⟩ => ⟨he, a, hw⟩
                go_quiet (first | (go_at_call_of 5 (Value.string (N (hq0 % (n : Int)).toNat)); exact hc0 _) | (go_at_call_of 5 (Value.string (N (hq1 % (n : Int)).toNat)); exact hc1 _))
                clear hc0 hc1
                rw [World.drewN_drewN]
                generalize j + nq = j4
                clear cb5 cb6
                have cb8 : wq.cell? ⟨bb, 8, none⟩ = some (.slice (some ⟨wc.heap.size, 0, none⟩) m m) := cell_row F.bd (i := 8) rfl
                have cb3 : wq.cell? ⟨bb, 3, none⟩ = some (.slice la (2 * m) lc) := cell_row F.bd (i := 3) rfl
                go_wp2_with fail
                go_loopw [34] (fun i wr => ∃ (k jj : Nat), k ≤ m ∧ i = .int .i64 k ∧ wr = wq.drewN jj) (fun i _ => m - (intOf i).toNat)
                case atStart => exact ⟨0, _, Nat.zero_le _, rfl, rfl⟩
                case round =>
                  obtain ⟨k, jj, hk, rfl, rfl⟩ := hrel
                  by_cases hlt : k < m
                  · as_aux_lemma =>
                      have hla := F.ad (by omega)
                      subst hla
                      have hkm : (k : Int) < (m : Int) := by omega
                      have ce0 : wq.cell? ⟨wc.heap.size, k * 2, none⟩ = some (.string (E0 k)) := cell_row F.es (erow_first E0 E1 m k hlt)
                      have ce1 : wq.cell? ⟨wc.heap.size, k * 2 + 1, none⟩ = some (.string (E1 k)) := cell_row F.es (erow_second E0 E1 m k hlt)
                      have hneq := neq28 (E0 k) (E1 k)
                      obtain ⟨l0, l1, l2, l3⟩ := F.lk k hlt
                      rw [show k * 4 = 2 * k * 2 from by omega] at l0
                      rw [show k * 4 + 1 = 2 * k * 2 + 1 from by omega] at l1
                      rw [show k * 4 + 2 = (2 * k + 1) * 2 from by omega] at l2
                      rw [show k * 4 + 3 = (2 * k + 1) * 2 + 1 from by omega] at l3
                      have hn1' := neq38 (lastTo N (E0 k) n) (lastTo N (E1 k) n)
                      have hn2' := neq38 (lastTo N (E1 k) n) (lastTo N (E0 k) n)
                      go_upto_region 57 with fail
                      go_quiet (fail)
                      rw [World.drewN_drewN]
                      generalize jj + nq = j5
                      go_wp2_with (first | (go_at_call 5; refine (last_any N n hn Bn cn _ _ (fun i hi => by simpa using F.nodes i hi)).mono ?_; rintro e w' ⟨rfl, rfl⟩))
                      go_roundw
                      case rel => exact ⟨k + 1, _, by omega, by go_num, rfl⟩
                      case measure => simp [intOf]; omega
                  · obtain rfl : m = k := by omega
                    go_wp2
                    go_ret
                    exact ⟨rfl, F.below.trans ⟨rfl, rfl, rfl, Nat.le_refl _, fun _ _ => rfl⟩⟩

end Go.Proofs.Ybulkvxq
