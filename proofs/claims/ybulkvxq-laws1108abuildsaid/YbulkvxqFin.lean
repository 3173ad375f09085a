/-
  What 'LawS1108ABuild' lays, and 'newBoard' as she calls it.
-/
import Derived.Test.YbulkvxqBoard
import Derived.BigRegion
import Derived.BigQuiet
import Derived.Deep.RegionHeld3
import Derived.Deep.RegionLaw
import Derived.Deep.AppendLies
import Derived.Deep.DrawnRows
import Derived.Deep.DeepCutAuto
import Derived.Deep.LoopGhost
import Derived.Deep.DeepMust
import Derived.Laws.CopyOwn
namespace Go.Proofs.Ybulkvxq
open Go.RowKit Go.Maps Go.Deep
attribute [local go_sem ↓] Go.wp_at_zero Go.wp_at_succ

theorem info9 : (Yba.prog.info? 9).map (fun i => (i.zero, i.size, i.bytes)) = some (some (.string ⟨#[]⟩), 1, 16) := by kernel_rfl
theorem size9 : (Yba.prog.info? 9).map (·.size) = some 1 := by kernel_rfl
theorem made_strs (n : Nat) (hn : n ≤ 1024) (w : World) : (Instr.makeSlice 22 (.int .i64 (n : Int)) (.int .i64 (n : Int))).run Yba.prog w = .ok (.slice (some ⟨w.heap.size, 0, none⟩) n n) (w.alloc (.cells (madeCells #[.string ⟨#[]⟩] n) 9)) :=
  run_make_row' 22 9 (.string ⟨#[]⟩) 16 Yba.underlying22 info9 rfl .i64 .i64 n (by omega) (by omega) w
theorem copy_dst (w : World) (n : Nat) : (w.alloc (.cells (madeCells #[.string ⟨#[]⟩] n) 9)).heap[w.heap.size]? = some (.cells (madeCells #[.string ⟨#[]⟩] n).toList.toArray 9 (0, 0)) := by
  rw [Array.toArray_toList]; exact blk_new _ _
theorem copy_src {w : World} {n0 : Nat} {na : Option Addr} {ss : Nat → ByteArray} {o : Obj} (h : 0 < n0 → ∃ ad, na = some ad ∧ ∀ j, j < n0 → w.cell? (ad.add j) = some (.string (ss j))) (hn : 0 < n0) :
    ∃ ad, na = some ad ∧ ∀ j v, ((List.range n0).map fun j => Value.string (ss j))[j]? = some v → (w.alloc o).cell? (ad.add j) = some v := by
  obtain ⟨ad, rfl, hc⟩ := h hn
  refine ⟨ad, rfl, fun j v hv => ?_⟩
  have hj : j < n0 := by
    have := (List.getElem?_eq_some_iff.1 hv).1
    simpa using this
  simp [hj] at hv
  have := hc j hj
  rw [World.cell?_alloc_lt _ _ _ (World.block_lt_of_cell? w _ this), this, hv]
theorem copied_at (ss : Nat → ByteArray) (n i : Nat) (hi : i < n) : (splice (madeCells #[.string ⟨#[]⟩] n).toList 0 ((List.range n).map fun j => Value.string (ss j))).toArray[i]? = some (.string (ss i)) := by
  have hd : (madeCells #[.string ⟨#[]⟩] n).toList.drop n = [] := List.drop_eq_nil_of_le (by simp [size_madeCells])
  simp [splice, hd, hi]

/-- What the nodes are, wherever they lie. -/
def Nodes (w : World) (N : Nat → ByteArray) (n Bn : Nat) (wx : World) : Prop :=
  1 ≤ n ∧ n ≤ 1024 ∧ (∀ i, (N i).size ≤ maxLen) ∧ (∀ i, i < n → wx.cell? ⟨Bn, i, none⟩ = some (.string (N i))) ∧ Below w.heap.size w wx ∧ Bn < wx.heap.size

theorem nodes_one {w w2 : World} (hB2 : Below w.heap.size w w2) : ∃ (N : Nat → ByteArray) (n Bn cn : Nat), Value.slice (some ⟨w2.heap.size, 0, none⟩) 1 1 = .slice (some ⟨Bn, 0, none⟩) n cn ∧ Nodes w N n Bn (w2.alloc (.cells #[.string ⟨#[110]⟩] 9)) := by
  refine ⟨fun _ => ⟨#[110]⟩, 1, w2.heap.size, 1, rfl, Nat.le_refl _, by omega, fun _ => ?_, fun i hi => ?_, hB2.alloc hB2.size _, by simp⟩
  · show 1 ≤ maxLen
    unfold maxLen; omega
  · obtain rfl : i = 0 := by omega
    exact cell_row (blk_new w2 _) rfl
theorem nodes_all {w w2 : World} {ss : Nat → ByteArray} {n0 : Nat} (hss : ∀ i, (ss i).size ≤ maxLen) (h0 : ¬ n0 = 0) (hn0 : n0 ≤ 1024) (hB2 : Below w.heap.size w w2)
    (HG2 : w2.heap[w.heap.size]? = some (.cells (splice (madeCells #[.string ⟨#[]⟩] n0).toList 0 ((List.range n0).map fun j => Value.string (ss j))).toArray 9 (0, 0))) :
    ∃ (N : Nat → ByteArray) (n Bn cn : Nat), Value.slice (some ⟨w.heap.size, 0, none⟩) n0 n0 = .slice (some ⟨Bn, 0, none⟩) n cn ∧ Nodes w N n Bn w2 :=
  ⟨ss, n0, w.heap.size, n0, rfl, by omega, hn0, hss, fun i hi => cell_row HG2 (copied_at ss n0 i hi), hB2, blk_lt HG2⟩
theorem info28 : (Yba.prog.info? 28).map (fun i => (i.zero, i.size, i.bytes)) = some (some (.agg #[.string ⟨#[]⟩, .string ⟨#[]⟩]), 2, 32) := by kernel_rfl
theorem made_pairs (n : Nat) (hn : n ≤ 1024) (w : World) : (Instr.makeSlice 25 (.int .i64 (n : Int)) (.int .i64 (n : Int))).run Yba.prog w = .ok (.slice (some ⟨w.heap.size, 0, none⟩) n n) (w.alloc (.cells (madeCells #[.string ⟨#[]⟩, .string ⟨#[]⟩] (n * 2)) 28)) := by
  obtain ⟨i, hi, h0, h1, h2⟩ := info_parts info28
  have h := run_make (P := Yba.prog) w 25 28 i _ Yba.underlying25 hi h0 .i64 .i64 n n (by omega) (by omega) (by rw [h2]; omega) (by omega)
  rw [h1] at h
  simpa [Value.cells] using h

/-- The row of the edges' names behind k rounds. -/
def erow (E0 E1 : Nat → ByteArray) (m k : Nat) : Array Value := ((List.range (m * 2)).map fun j => Value.string (if j / 2 < k then (if j % 2 = 0 then E0 (j / 2) else E1 (j / 2)) else ⟨#[]⟩)).toArray
theorem erow_zero (E0 E1 : Nat → ByteArray) (m : Nat) : erow E0 E1 m 0 = madeCells #[.string ⟨#[]⟩, .string ⟨#[]⟩] (m * 2) := by
  apply Array.ext
  · simp [erow, madeCells]
  · intro i h1 h2
    have : i % 2 = 0 ∨ i % 2 = 1 := by omega
    rcases this with h | h <;> simp [erow, madeCells, h]
theorem erow_at (E0 E1 : Nat → ByteArray) (m k j : Nat) (hj : j < m * 2) : (erow E0 E1 m k)[j]? = some (Value.string (if j / 2 < k then (if j % 2 = 0 then E0 (j / 2) else E1 (j / 2)) else ⟨#[]⟩)) := by
  simp [erow, hj]
theorem erow_set (E0 E1 : Nat → ByteArray) (m k : Nat) : ((erow E0 E1 m k).setIfInBounds (k * 2) (.string (E0 k))).setIfInBounds (k * 2 + 1) (.string (E1 k)) = erow E0 E1 m (k + 1) := by
  apply Array.ext
  · simp [erow]
  · intro i h1 h2
    simp only [erow, List.setIfInBounds_toArray, List.getElem_toArray, List.getElem_set, List.getElem_map, List.getElem_range]
    by_cases e1 : k * 2 + 1 = i
    · subst e1
      rw [if_pos rfl, show (k * 2 + 1) / 2 = k from by omega, show (k * 2 + 1) % 2 = 1 from by omega, if_pos (by omega), if_neg (by omega)]
    · rw [if_neg e1]
      by_cases e0 : k * 2 = i
      · subst e0
        rw [if_pos rfl, show (k * 2) / 2 = k from by omega, show (k * 2) % 2 = 0 from by omega, if_pos (by omega), if_pos rfl]
      · rw [if_neg e0]
        by_cases h : i / 2 < k
        · rw [if_pos h, if_pos (show i / 2 < k + 1 by omega)]
        · rw [if_neg h, if_neg (show ¬ i / 2 < k + 1 by omega)]
theorem erow_first (E0 E1 : Nat → ByteArray) (m i : Nat) (hi : i < m) : (erow E0 E1 m m)[i * 2]? = some (.string (E0 i)) := by
  rw [erow_at _ _ _ _ _ (by omega), show i * 2 / 2 = i from by omega, show i * 2 % 2 = 0 from by omega, if_pos hi, if_pos rfl]
theorem erow_second (E0 E1 : Nat → ByteArray) (m i : Nat) (hi : i < m) : (erow E0 E1 m m)[i * 2 + 1]? = some (.string (E1 i)) := by
  rw [erow_at _ _ _ _ _ (by omega), show (i * 2 + 1) / 2 = i from by omega, show (i * 2 + 1) % 2 = 1 from by omega, if_pos hi, if_neg (by omega)]

theorem cell_down {w wc wr : World} {a : Addr} {v : Value} (hB : Below w.heap.size w wc) (hbl : Below wc.heap.size wc wr) (h : w.cell? a = some v) : wr.cell? a = some v := by
  have hlt := World.block_lt_of_cell? w a h
  rw [hbl.cell (Nat.lt_of_lt_of_le hlt hB.size), hB.cell hlt]; exact h

/-- One round of the loop that fills the edges. -/
theorem edge_step {wc wz : World} {E0 E1 : Nat → ByteArray} {m k : Nat} (hbl : Below wc.heap.size wc wz) (hrow : wz.heap[wc.heap.size]? = some (.cells (erow E0 E1 m k) 28 (0, 0))) :
    Below wc.heap.size wc ((wz.setCell ⟨wc.heap.size, k * 2, none⟩ (.string (E0 k))).setCell ⟨wc.heap.size, k * 2 + 1, none⟩ (.string (E1 k))).drew ∧
    ((wz.setCell ⟨wc.heap.size, k * 2, none⟩ (.string (E0 k))).setCell ⟨wc.heap.size, k * 2 + 1, none⟩ (.string (E1 k))).drew.heap[wc.heap.size]? = some (.cells (erow E0 E1 m (k + 1)) 28 (0, 0)) := by
  refine ⟨((hbl.setCell (Nat.le_refl _) _).setCell (Nat.le_refl _) _).drew, ?_⟩
  show ((wz.setCell ⟨wc.heap.size, k * 2, none⟩ (.string (E0 k))).setCell ⟨wc.heap.size, k * 2 + 1, none⟩ (.string (E1 k))).heap[wc.heap.size]? = _
  rw [heap_setCell_same _ _ _ _ 28 _ (heap_setCell_same _ _ _ _ 28 _ hrow), erow_set E0 E1 m k]

theorem wrap_byte {a : Int} (h0 : 0 ≤ a) (h1 : a ≤ 255) : IntKind.i64.wrap a = a := by rw [IntKind.wrap_i64]; omega

/-- What lies there behind 'newBoard'. -/
structure Fin (w : World) (name : ByteArray) (N : Nat → ByteArray) (n cn Bn m Be q yb yo : Nat) (YN YV : Nat → Int) (E0 E1 : Nat → ByteArray) (h0 h1 : ByteArray) (start : Int) (bb bm byl : Nat) (la : Option Addr) (lc lg : Nat) (Y : Nat → Int) (wq : World) : Prop where
  below : Below w.heap.size w wq
  nodes : ∀ i, i < n → wq.cell? ⟨Bn, i, none⟩ = some (.string (N i))
  es : wq.heap[Be]? = some (.cells (erow E0 E1 m m) 28 (0, 0))
  ys : ∀ i, i < q → wq.cell? ⟨yb, yo + i * 2, none⟩ = some (.int .u8 (YN i)) ∧ wq.cell? ⟨yb, yo + i * 2 + 1, none⟩ = some (.int .i64 (YV i))
  bd : wq.heap[bb]? = some (.cells (brdOf name Bn n cn bm (.slice la (2 * m) lc) byl (lastTo N h0 n) (lastTo N h1 n) start Be m m) 40 (0, 0))
  ix : wq.ownsMap Yba.prog 9 (plainElem Yba.prog 3) bm n (fillD N (fun i => (i : Int)) n)
  yl : wq.heap[byl]? = some (.cells (yrow Y n n) 3 (0, 0))
  ad : 0 < m → la = some ⟨lg, 0, none⟩
  lk : ∀ k, k < m → wq.cell? ⟨lg, k * 4, none⟩ = some (.int .i64 (lastTo N (E0 k) n)) ∧ wq.cell? ⟨lg, k * 4 + 1, none⟩ = some (.int .i64 (lastTo N (E1 k) n)) ∧ wq.cell? ⟨lg, k * 4 + 2, none⟩ = some (.int .i64 (lastTo N (E1 k) n)) ∧ wq.cell? ⟨lg, k * 4 + 3, none⟩ = some (.int .i64 (lastTo N (E0 k) n))

theorem links_at (F T : Nat → Int) (m k : Nat) (hk : k < m) : (links F T m)[k * 4]? = some (.int .i64 (F k)) ∧ (links F T m)[k * 4 + 1]? = some (.int .i64 (T k)) ∧ (links F T m)[k * 4 + 2]? = some (.int .i64 (T k)) ∧ (links F T m)[k * 4 + 3]? = some (.int .i64 (F k)) := by
  induction m with
  | zero => omega
  | succ m ih =>
    have hl := links_len F T m
    simp only [links]
    by_cases h : k < m
    · obtain ⟨i0, i1, i2, i3⟩ := ih h
      exact ⟨by rw [List.getElem?_append_left (by omega)]; exact i0, by rw [List.getElem?_append_left (by omega)]; exact i1, by rw [List.getElem?_append_left (by omega)]; exact i2, by rw [List.getElem?_append_left (by omega)]; exact i3⟩
    · obtain rfl : k = m := by omega
      refine ⟨?_, ?_, ?_, ?_⟩
      · rw [List.getElem?_append_right (by omega), hl, show k * 4 - 4 * k = 0 from by omega]; rfl
      · rw [List.getElem?_append_right (by omega), hl, show k * 4 + 1 - 4 * k = 1 from by omega]; rfl
      · rw [List.getElem?_append_right (by omega), hl, show k * 4 + 2 - 4 * k = 2 from by omega]; rfl
      · rw [List.getElem?_append_right (by omega), hl, show k * 4 + 3 - 4 * k = 3 from by omega]; rfl

/-- The links that a value owns: its shape, and its cells. -/
theorem links_form {wq : World} {base : Nat} {L : Value} {m : Nat} {F T : Nat → Int} (h : wq.ownsRow base 38 2 L (2 * m) (links F T m)) :
    ∃ (la : Option Addr) (lc lg : Nat), L = .slice la (2 * m) lc ∧ (0 < m → la = some ⟨lg, 0, none⟩) ∧
      ∀ k, k < m → wq.cell? ⟨lg, k * 4, none⟩ = some (.int .i64 (F k)) ∧ wq.cell? ⟨lg, k * 4 + 1, none⟩ = some (.int .i64 (T k)) ∧ wq.cell? ⟨lg, k * 4 + 2, none⟩ = some (.int .i64 (T k)) ∧ wq.cell? ⟨lg, k * 4 + 3, none⟩ = some (.int .i64 (F k)) := by
  rcases h.2 with ⟨hv, h0⟩ | ⟨g, cap, cur, hv, _⟩
  · refine ⟨none, 0, 0, ?_, fun hp => by omega, fun k hk => by omega⟩
    rw [hv, show 2 * m = 0 from h0]
  · refine ⟨some ⟨g, 0, none⟩, cap, g, hv, fun _ => rfl, fun k hk => ?_⟩
    obtain ⟨i0, i1, i2, i3⟩ := links_at F T m k hk
    have hc := h.cells (g := g) (by rw [hv]; rfl)
    have e : ∀ j, (⟨g, 0, none⟩ : Addr).add j = ⟨g, j, none⟩ := fun j => by unfold Addr.add; split <;> simp_all
    exact ⟨by rw [← e]; exact hc _ _ i0, by rw [← e]; exact hc _ _ i1, by rw [← e]; exact hc _ _ i2, by rw [← e]; exact hc _ _ i3⟩

/-- 'newBoard' as the law calls it. -/
theorem board_fin (name : ByteArray) (N : Nat → ByteArray) (hN : ∀ i, (N i).size ≤ maxLen) (n cn Bn m q yb yo : Nat) (hn1 : 1 ≤ n) (hn : n ≤ 1024) (hm : m ≤ 1024) (EA EB YN YV : Nat → Int) (hq0 hq1 start : Int) {w wc wf wr : World}
    (hB : Below w.heap.size w wc) (hBn : Bn < wc.heap.size) (hnodes : ∀ i, i < n → wc.cell? ⟨Bn, i, none⟩ = some (.string (N i)))
    (hbl : Below wc.heap.size wc wf) (hrow : wf.heap[wc.heap.size]? = some (.cells (erow (fun k => N (EA k % (n : Int)).toNat) (fun k => N (EB k % (n : Int)).toNat) m m) 28 (0, 0)))
    (hb2 : Below wf.heap.size wf wr) (hown : wr.ownsMap Yba.prog 9 (plainElem Yba.prog 3) wf.heap.size q (fillD (fun k => N (YN k % (n : Int)).toNat) YV q))
    (hyc : ∀ i, i < q → w.cell? ⟨yb, yo + i * 2, none⟩ = some (.int .u8 (YN i)) ∧ w.cell? ⟨yb, yo + i * 2 + 1, none⟩ = some (.int .i64 (YV i))) (o : Obj) :
    Calls Yba.prog 4 #[.string name, .agg #[.slice (some ⟨Bn, 0, none⟩) n cn, .slice (some ⟨wc.heap.size, 0, none⟩) m m, .map (some wf.heap.size), .string (N (hq0 % (n : Int)).toNat), .string (N (hq1 % (n : Int)).toNat), .int .i64 start]] (wr.alloc o)
      fun e wq => ∃ (bb bm byl : Nat) (la : Option Addr) (lc lg : Nat), e = .returned (.pointer (some ⟨bb, 0, none⟩)) ∧
        Fin w name N n cn Bn m wc.heap.size q yb yo YN YV (fun k => N (EA k % (n : Int)).toNat) (fun k => N (EB k % (n : Int)).toNat) (N (hq0 % (n : Int)).toNat) (N (hq1 % (n : Int)).toNat) start bb bm byl la lc lg (fun i => lastVal (fun k => N (YN k % (n : Int)).toNat) YV (N i) q) wq := by
  have hlt : ∀ a : Int, (a % (n : Int)).toNat < n := fun a => by
    have := Int.emod_nonneg a (show (n : Int) ≠ 0 by omega)
    have := Int.emod_lt_of_pos a (show (0 : Int) < n by omega)
    omega
  have hthere : ∀ a : Int, 0 ≤ lastTo N (N (a % (n : Int)).toNat) n := fun a => by
    have := lastTo_there N (N (a % (n : Int)).toNat) n _ (hlt a) rfl
    omega
  have hcf : Below wc.heap.size wc (wr.alloc o) := (hbl.trans (hb2.mono hbl.size)).alloc (Nat.le_trans hbl.size hb2.size) o
  have hrow' : (wr.alloc o).heap[wc.heap.size]? = some (.cells (erow (fun k => N (EA k % (n : Int)).toNat) (fun k => N (EB k % (n : Int)).toNat) m m) 28 (0, 0)) := by
    have h := hb2.block wc.heap.size (blk_lt hrow)
    exact blk_alloc (h.trans hrow) o
  have hnd : ∀ i, i < n → (wr.alloc o).cell? ⟨Bn, i, none⟩ = some (.string (N i)) := fun i hi => (hcf.cell (p := ⟨Bn, i, none⟩) hBn).trans (hnodes i hi)
  have hsz := hcf.size
  refine (board N hN (fun k => N (YN k % (n : Int)).toNat) YV q (fun k => N (EA k % (n : Int)).toNat) (fun k => N (EB k % (n : Int)).toNat) (fun i => hN _) (fun i => hN _) name n cn m m Bn wc.heap.size wf.heap.size q
    (N (hq0 % (n : Int)).toNat) (N (hq1 % (n : Int)).toNat) start hn hm (wr.alloc o) hnd (Nat.lt_of_lt_of_le hBn hsz) (hown.alloc o).lt (blk_lt hrow') (hown.alloc o)
    (fun i hi => ⟨cell_row hrow' (erow_first _ _ m i hi), cell_row hrow' (erow_second _ _ m i hi), hthere _, hthere _⟩) (hN _) (hN _) (hthere _) (hthere _) (fun i _ => hthere _)).mono ?_
  rintro e wq ⟨bb, bm, byl, L, rfl, hBw, hbd, _, hix, hyl, hlk⟩
  obtain ⟨la, lc, lg, rfl, had, hlks⟩ := links_form hlk
  have hbq : Below wc.heap.size wc wq := hcf.trans (hBw.mono hsz)
  refine ⟨bb, bm, byl, la, lc, lg, rfl, hB.trans (hbq.mono hB.size), fun i hi => (hbq.cell (p := ⟨Bn, i, none⟩) hBn).trans (hnodes i hi), ?_, fun i hi => ⟨cell_down hB hbq (hyc i hi).1, cell_down hB hbq (hyc i hi).2⟩, hbd, hix, hyl, had, hlks⟩
  rw [hBw.block _ (blk_lt hrow')]; exact hrow'
end Go.Proofs.Ybulkvxq
