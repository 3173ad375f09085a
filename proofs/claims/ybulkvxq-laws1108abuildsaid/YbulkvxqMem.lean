/-
  'newBoard' (4): the memory that the call makes, told by blocks.
-/
import Derived.Test.YbulkvxqLast
import Derived.Deep.OwnRows
import Derived.Deep.QuietTactic
namespace Go.Proofs.Ybulkvxq
open Go.RowKit Go.Maps Go.Deep

theorem made_map (x : Int) (w : World) : (Instr.makeMap 29 (some (.int .i64 x))).run Yba.prog w = .ok (.map (some w.heap.size)) (w.alloc (.map #[] 0)) := by kernel_rfl
theorem info3 : (Yba.prog.info? 3).map (fun i => (i.zero, i.size, i.bytes)) = some (some (.int .i64 0), 1, 8) := by kernel_rfl
theorem made_ints (n : Nat) (hn : n ≤ 1024) (w : World) : (Instr.makeSlice 37 (.int .i64 (n : Int)) (.int .i64 (n : Int))).run Yba.prog w = .ok (.slice (some ⟨w.heap.size, 0, none⟩) n n) (w.alloc (.cells (madeCells #[.int .i64 0] n) 3)) :=
  run_make_row' 37 3 (.int .i64 0) 8 Yba.underlying37 info3 rfl .i64 .i64 n (by omega) (by omega) w

/-- A cell, and that it may be written, out of a block that is known whole. -/
theorem cell_row {w : World} {b i : Nat} {cs : Array Value} {t : TypeId} {v : Value} (h : w.heap[b]? = some (.cells cs t (0, 0))) (hv : cs[i]? = some v) : w.cell? ⟨b, i, none⟩ = some v := by
  simp [World.cell?, h, hv]
theorem free_row {w : World} {b i : Nat} {cs : Array Value} {t : TypeId} (h : w.heap[b]? = some (.cells cs t (0, 0))) : w.frozen? ⟨b, i, none⟩ = false := frozen_of_row w b i cs t h
theorem blk_lt {w : World} {b : Nat} {o : Obj} (h : w.heap[b]? = some o) : b < w.heap.size := lt_of_block h
theorem blk_alloc {w : World} {b : Nat} {o : Obj} (h : w.heap[b]? = some o) (o' : Obj) : (w.alloc o').heap[b]? = some o := by
  rw [Below.heap_alloc w o' b (blk_lt h)]; exact h
theorem blk_new (w : World) (o : Obj) : (w.alloc o).heap[w.heap.size]? = some o := by
  show (w.heap.push o)[w.heap.size]? = _
  simp

theorem alloc4 (W : World) (o1 o2 o3 o4 : Obj) : ((((W.alloc o1).alloc o2).alloc o3).alloc o4).drew.heap[W.heap.size]? = some o1 ∧ ((((W.alloc o1).alloc o2).alloc o3).alloc o4).drew.heap[W.heap.size + 1]? = some o2 ∧
    ((((W.alloc o1).alloc o2).alloc o3).alloc o4).drew.heap[W.heap.size + 1 + 1]? = some o3 ∧ ((((W.alloc o1).alloc o2).alloc o3).alloc o4).drew.heap[W.heap.size + 1 + 1 + 1]? = some o4 ∧ Below W.heap.size W ((((W.alloc o1).alloc o2).alloc o3).alloc o4).drew := by
  have e1 := blk_new W o1
  have e2 := blk_new (W.alloc o1) o2
  have e3 := blk_new ((W.alloc o1).alloc o2) o3
  have e4 := blk_new (((W.alloc o1).alloc o2).alloc o3) o4
  simp only [World.size_alloc] at e2 e3 e4
  exact ⟨blk_alloc (blk_alloc (blk_alloc e1 _) _) _, blk_alloc (blk_alloc e2 _) _, blk_alloc e3 _, e4,
    (((((Below.refl _ _).alloc (Nat.le_refl _) _).alloc (by simp) _).alloc (by simp; omega) _).alloc (by simp; omega) _).drew⟩

/-- What 'newBoard' has laid: the boxes of its two parameters, the variable b, the board. -/
structure Sit (w : World) (name : ByteArray) (scen : Array Value) (bv bb : Nat) (brd : Array Value) (wx : World) : Prop where
  below : Below w.heap.size w wx
  nm : wx.heap[w.heap.size]? = some (.cells #[.string name] 9 (0, 0))
  sc : wx.heap[w.heap.size + 1]? = some (.cells scen 33 (0, 0))
  vb : wx.heap[bv]? = some (.cells #[.pointer (some ⟨bb, 0, none⟩)] 34 (0, 0))
  bd : wx.heap[bb]? = some (.cells brd 40 (0, 0))
  hv : w.heap.size ≤ bv
  hb : w.heap.size ≤ bb

section
variable {w wx w1 : World} {name : ByteArray} {scen brd : Array Value} {bv bb : Nat}

theorem Sit.drew (s : Sit w name scen bv bb brd wx) : Sit w name scen bv bb brd wx.drew := ⟨s.below.drew, s.nm, s.sc, s.vb, s.bd, s.hv, s.hb⟩
theorem Sit.alloc (s : Sit w name scen bv bb brd wx) (o : Obj) : Sit w name scen bv bb brd (wx.alloc o) :=
  ⟨s.below.alloc s.below.size _, blk_alloc s.nm o, blk_alloc s.sc o, blk_alloc s.vb o, blk_alloc s.bd o, s.hv, s.hb⟩
/-- Nothing but one block has turned, which is none of those. -/
theorem Sit.grown (s : Sit w name scen bv bb brd wx) {r : Nat} (hg : wx.grownBy w1 (some r)) (hr : w.heap.size ≤ r) (h0 : r ≠ w.heap.size) (h1 : r ≠ w.heap.size + 1) (h2 : r ≠ bv) (h3 : r ≠ bb) : Sit w name scen bv bb brd w1 := by
  have blk : ∀ {b : Nat} {o : Obj}, wx.heap[b]? = some o → r ≠ b → w1.heap[b]? = some o := fun {b o} h hne => by
    rw [hg.block b (blk_lt h) (fun e => hne (Option.some.inj e).symm)]; exact h
  exact ⟨s.below.grown hg s.below.size (fun k e => by cases e; exact hr), blk s.nm h0, blk s.sc h1, blk s.vb h2, blk s.bd h3, s.hv, s.hb⟩
theorem Sit.set (s : Sit w name scen bv bb brd wx) {r i : Nat} (v : Value) (hr : w.heap.size ≤ r) (h0 : r ≠ w.heap.size) (h1 : r ≠ w.heap.size + 1) (h2 : r ≠ bv) (h3 : r ≠ bb) : Sit w name scen bv bb brd (wx.setCell ⟨r, i, none⟩ v) := by
  have blk : ∀ {b : Nat} {o : Obj}, wx.heap[b]? = some o → r ≠ b → (wx.setCell ⟨r, i, none⟩ v).heap[b]? = some o := fun {b o} h hne => by
    rw [heap_setCell_other wx _ b v (fun e => hne e.symm)]; exact h
  exact ⟨s.below.setCell hr v, blk s.nm h0, blk s.sc h1, blk s.vb h2, blk s.bd h3, s.hv, s.hb⟩
/-- A field of the board is written. -/
theorem Sit.field (s : Sit w name scen bv bb brd wx) (i : Nat) (v : Value) : Sit w name scen bv bb (brd.setIfInBounds i v) (wx.setCell ⟨bb, i, none⟩ v) := by
  have hne : ∀ {b : Nat} {cs : Array Value} {t : TypeId}, wx.heap[b]? = some (.cells cs t (0, 0)) → t ≠ 40 → b ≠ bb := fun {b cs t} h ht e => by
    subst e; rw [s.bd] at h; simp at h; exact ht h.2.symm
  have blk : ∀ {b : Nat} {o : Obj}, wx.heap[b]? = some o → b ≠ bb → (wx.setCell ⟨bb, i, none⟩ v).heap[b]? = some o := fun {b o} h hne => by
    rw [heap_setCell_other wx _ b v hne]; exact h
  exact ⟨s.below.setCell s.hb v, blk s.nm (hne s.nm (by decide)), blk s.sc (hne s.sc (by decide)), blk s.vb (hne s.vb (by decide)), heap_setCell_same wx bb i brd 40 v s.bd, s.hv, s.hb⟩
/-- A block of another make is none of those. -/
theorem Sit.apart (s : Sit w name scen bv bb brd wx) {r : Nat} {o : Obj} (h : wx.heap[r]? = some o) (ho : ∀ cs t, o = .cells cs t (0, 0) → t ≠ 9 ∧ t ≠ 33 ∧ t ≠ 34 ∧ t ≠ 40) : r ≠ w.heap.size ∧ r ≠ w.heap.size + 1 ∧ r ≠ bv ∧ r ≠ bb := by
  refine ⟨fun e => ?_, fun e => ?_, fun e => ?_, fun e => ?_⟩
  · rw [e, s.nm] at h; have := ho _ _ (Option.some.inj h).symm; simp at this
  · rw [e, s.sc] at h; have := ho _ _ (Option.some.inj h).symm; simp at this
  · rw [e, s.vb] at h; have := ho _ _ (Option.some.inj h).symm; simp at this
  · rw [e, s.bd] at h; have := ho _ _ (Option.some.inj h).symm; simp at this
end

theorem own_block {H : Type} {w w1 : World} {R : Value → Option (DataW H × List MemPlace)} {b n : Nat} {D : DataW H} (h : w.ownsMap Yba.prog 9 R b n D) (hb : w1.heap[b]? = w.heap[b]?) : w1.ownsMap Yba.prog 9 R b n D := by
  obtain ⟨es, c, h1, h2⟩ := h
  exact ⟨es, c, hb.trans h1, h2⟩
theorem own_obj {H : Type} {w : World} {R : Value → Option (DataW H × List MemPlace)} {b n : Nat} {D : DataW H} (h : w.ownsMap Yba.prog 9 R b n D) : ∃ es c, w.heap[b]? = some (.map es c) := by
  obtain ⟨es, c, h1, _⟩ := h
  exact ⟨es, c, h1⟩

/-- 'm[k]' in a map that was filled by pairs. -/
theorem look_fill {w : World} {b q : Nat} {K : Nat → ByteArray} {V : Nat → Int} {k : Nat} (h : w.ownsMap Yba.prog 9 (plainElem Yba.prog 3) b q (fillD K V k)) (s : ByteArray) (hs : s.size ≤ maxLen) :
    (Instr.lookup 29 (.map (some b)) (.string s) false).run Yba.prog w = .ok (.int .i64 (lastVal K V s k)) w := by
  obtain ⟨c, hrun, hat, _⟩ := h.lookup_int keyed Yba.underlying29 Yba.underlying3 (zero3 _) (keyOf_str s hs)
  rw [fillD_at] at hat
  rw [hrun]
  injection hat with hat
  injection hat with _ hat
  rw [hat]

/-- The row of the yields behind k rounds. -/
def yrow (V : Nat → Int) (n k : Nat) : Array Value := ((List.range n).map fun i => Value.int .i64 (if i < k then V i else 0)).toArray
theorem yrow_size (V : Nat → Int) (n k : Nat) : (yrow V n k).size = n := by simp [yrow]
theorem yrow_zero (V : Nat → Int) (n : Nat) : yrow V n 0 = madeCells #[.int .i64 0] n := by
  apply Array.ext
  · simp [yrow, madeCells]
  · intro i h1 h2
    simp [yrow, madeCells, Nat.mod_one]
theorem yrow_set (V : Nat → Int) (n k : Nat) : (yrow V n k).setIfInBounds k (.int .i64 (V k)) = yrow V n (k + 1) := by
  apply Array.ext
  · simp [yrow]
  · intro i h1 h2
    simp only [yrow, List.setIfInBounds_toArray, List.getElem_toArray, List.getElem_set, List.getElem_map, List.getElem_range]
    by_cases e : k = i
    · subst e; simp
    · rw [if_neg e]
      by_cases h : i < k
      · rw [if_pos h, if_pos (by omega)]
      · rw [if_neg h, if_neg (by omega)]
theorem yrow_at (V : Nat → Int) (n k i : Nat) (hi : i < n) : (yrow V n k)[i]? = some (.int .i64 (if i < k then V i else 0)) := by
  simp [yrow, hi]

/-- The scenario's six cells. -/
def scenOf (Bn n cn Be m ce By : Nat) (h0 h1 : ByteArray) (start : Int) : Array Value :=
  #[.slice (some ⟨Bn, 0, none⟩) n cn, .slice (some ⟨Be, 0, none⟩) m ce, .map (some By), .string h0, .string h1, .int .i64 start]
/-- The board's nine cells. -/
def brdOf (name : ByteArray) (Bn n cn bm : Nat) (L : Value) (byl : Nat) (q0 q1 start : Int) (Be m ce : Nat) : Array Value :=
  #[.string name, .slice (some ⟨Bn, 0, none⟩) n cn, .map (some bm), L, .slice (some ⟨byl, 0, none⟩) n n, .int .i64 q0, .int .i64 q1, .int .i64 start, .slice (some ⟨Be, 0, none⟩) m ce]

theorem start_rel (N : Nat → ByteArray) (Y : Nat → Int) {w W1 W : World} {name : ByteArray} {scen : Array Value} {Bn n cn bm byl Be m ce : Nat} {start : Int} {bv bb : Nat}
    (s1 : W1.heap[w.heap.size]? = some (.cells #[.string name] 9 (0, 0))) (s2 : W1.heap[w.heap.size + 1]? = some (.cells scen 33 (0, 0))) (hB1 : Below w.heap.size w W1) (hB : Below W1.heap.size W1 W)
    (hv : W.heap[bv]? = some (.cells #[.pointer (some ⟨bb, 0, none⟩)] 34 (0, 0)))
    (hb : W.heap[bb]? = some (.cells #[.string name, .slice (some ⟨Bn, 0, none⟩) n cn, .map (some bm), .slice none 0 0, .slice (some ⟨byl, 0, none⟩) n n, .int .i64 0, .int .i64 0, .int .i64 start, .slice (some ⟨Be, 0, none⟩) m ce] 40 (0, 0)))
    (hm : W.heap[bm]? = some (.map #[] 0)) (hy : W.heap[byl]? = some (.cells (madeCells #[.int .i64 0] n) 3 (0, 0)))
    (g1 : W1.heap.size ≤ bv) (g2 : W1.heap.size ≤ bb) (g3 : W1.heap.size ≤ bm) (g4 : W1.heap.size ≤ byl) :
    ∃ bv' bb bm byl : Nat, Value.pointer (some ⟨bv, 0, none⟩) = .pointer (some ⟨bv', 0, none⟩) ∧ Sit w name scen bv' bb (brdOf name Bn n cn bm (.slice none 0 0) byl 0 0 start Be m ce) W ∧
      W.ownsMap Yba.prog 9 (plainElem Yba.prog 3) bm 0 (fillD N (fun i => (i : Int)) 0) ∧ w.heap.size ≤ bm ∧ W.heap[byl]? = some (.cells (yrow Y n 0) 3 (0, 0)) ∧ w.heap.size ≤ byl := by
  have hsz := hB1.size
  refine ⟨bv, bb, bm, byl, rfl, ⟨hB1.trans (hB.mono hsz), ?_, ?_, hv, hb, by omega, by omega⟩, ?_, by omega, ?_, by omega⟩
  · rw [hB.block _ (blk_lt s1)]; exact s1
  · rw [hB.block _ (blk_lt s2)]; exact s2
  · obtain ⟨es, c, h1, h2⟩ := World.ownsMap_made (H := Unit) W Yba.prog 9 (plainElem Yba.prog 3)
    have e : W.heap[bm]? = (W.alloc (.map #[] 0)).heap[W.heap.size]? := hm.trans (blk_new W _).symm
    exact ⟨es, c, e.trans h1, h2⟩
  · rw [yrow_zero]; exact hy

/-- The closure 'at' inside a region that only reads. -/
theorem at_quiet (N : Nat → ByteArray) (n : Nat) (s : ByteArray) (hs : s.size ≤ maxLen) {w wx : World} {name : ByteArray} {scen : Array Value} {bv bb : Nat} {Bn cn bm : Nat} {L : Value} {byl : Nat} {q0 q1 start : Int} {Be m ce q : Nat}
    (hsit : Sit w name scen bv bb (brdOf name Bn n cn bm L byl q0 q1 start Be m ce) wx)
    (hown : wx.ownsMap Yba.prog 9 (plainElem Yba.prog 3) bm q (fillD N (fun i => (i : Int)) n)) (hl : 0 ≤ lastTo N s n) (j : Nat) :
    Calls Yba.prog 6 #[.string s, .pointer (some ⟨bv, 0, none⟩), .pointer (some ⟨w.heap.size, 0, none⟩)] (wx.drewN j) fun e w' => e = .returned (.int .i64 (lastTo N s n)) ∧ ∃ m, w' = wx.drewN m := by
  have hh : (wx.drewN j).heap = wx.heap := rfl
  refine (at_ok N n s hs bv bb bm w.heap.size q (wx.drewN j) (cell_row (by rw [hh]; exact hsit.vb) rfl) (cell_row (by rw [hh]; exact hsit.bd) rfl) (own_block hown (by rw [hh])) hl).mono ?_
  rintro e w' ⟨rfl, rfl⟩
  exact ⟨rfl, j, rfl⟩

theorem grown_drewN (w : World) (j : Nat) (r : Option Nat) : w.grownBy (w.drewN j) r := ⟨rfl, rfl, rfl, Nat.le_refl _, fun _ _ _ => rfl⟩

section
variable {w wx w1 : World} {name : ByteArray} {scen brd : Array Value} {bv bb : Nat}
theorem Sit.drewN (s : Sit w name scen bv bb brd wx) (j : Nat) : Sit w name scen bv bb brd (wx.drewN j) :=
  ⟨s.below.trans ⟨rfl, rfl, rfl, Nat.le_refl _, fun _ _ => rfl⟩, s.nm, s.sc, s.vb, s.bd, s.hv, s.hb⟩

/-- The block that a slice of links owns is of a make of its own. -/
theorem row_obj {base : Nat} {L : Value} {a : Nat} {xs : List Value} (h : wx.ownsRow base 38 2 L a xs) {r : Nat} (hr : L.ownBlock = some r) : base ≤ r ∧ ∃ cs, wx.heap[r]? = some (.cells cs 38 (0, 0)) := by
  rcases h.2 with ⟨rfl, _⟩ | ⟨g, cap, cur, rfl, hb, hg, _⟩
  · simp [Value.ownBlock] at hr
  · have : g = r := by simpa [Value.ownBlock] using hr
    subst this
    exact ⟨hb, cur, hg⟩

/-- Behind an append onto the links all else is as it was. -/
theorem links_far {base : Nat} {L : Value} {a : Nat} {xs : List Value} (h : wx.ownsRow base 38 2 L a xs) (hg : wx.grownBy w1 L.ownBlock) {b : Nat} {o : Obj} (hb : wx.heap[b]? = some o) (ho : ∀ cs, o ≠ .cells cs 38 (0, 0)) : w1.heap[b]? = some o := by
  rw [hg.block b (blk_lt hb) (fun e => ?_)]
  · exact hb
  · obtain ⟨_, cs, hcs⟩ := row_obj h e.symm
    rw [hcs] at hb
    exact ho cs (Option.some.inj hb).symm

theorem Sit.append (s : Sit w name scen bv bb brd wx) {L : Value} {a : Nat} {xs : List Value} (h : wx.ownsRow w.heap.size 38 2 L a xs) (hg : wx.grownBy w1 L.ownBlock) : Sit w name scen bv bb brd w1 := by
  refine ⟨s.below.grown hg s.below.size (fun k e => (row_obj h e).1), links_far h hg s.nm ?_, links_far h hg s.sc ?_, links_far h hg s.vb ?_, links_far h hg s.bd ?_, s.hv, s.hb⟩
  all_goals (intro cs e; simp at e)
end

/-- The cells of the links behind k edges. -/
def links (F T : Nat → Int) : Nat → List Value
  | 0 => []
  | k + 1 => links F T k ++ [.int .i64 (F k), .int .i64 (T k), .int .i64 (T k), .int .i64 (F k)]
theorem links_len (F T : Nat → Int) (k : Nat) : (links F T k).length = 4 * k := by
  induction k with
  | zero => rfl
  | succ k ih => simp [links, ih]; omega

/-- One round of the loop over the edges, behind its append and its store. -/
theorem links_step (N : Nat → ByteArray) (Y F T : Nat → Int) {w wz w1 : World} {name : ByteArray} {scen : Array Value} {bv bb : Nat} {Bn n cn bm : Nat} {L : Value} {byl : Nat} {q0 q1 start : Int} {Be m ce k gg cap : Nat} {o : Obj}
    (hs2 : Sit w name scen bv bb (brdOf name Bn n cn bm L byl q0 q1 start Be m ce) wz) (hmap2 : wz.ownsMap Yba.prog 9 (plainElem Yba.prog 3) bm n (fillD N (fun i => (i : Int)) n))
    (hy2 : wz.heap[byl]? = some (.cells (yrow Y n n) 3 (0, 0))) (hown2 : wz.ownsRow w.heap.size 38 2 L (2 * k) (links F T k))
    (hown1 : w1.ownsRow w.heap.size 38 2 (.slice (some ⟨gg, 0, none⟩) (2 * k + 2) cap) (2 * k + 2) (links F T k ++ [.int .i64 (F k), .int .i64 (T k), .int .i64 (T k), .int .i64 (F k)]))
    (hgrow : (wz.alloc o).drew.grownBy w1 L.ownBlock) :
    Sit w name scen bv bb (brdOf name Bn n cn bm (.slice (some ⟨gg, 0, none⟩) (2 * k + 2) cap) byl q0 q1 start Be m ce) (w1.setCell ⟨bb, 3, none⟩ (.slice (some ⟨gg, 0, none⟩) (2 * k + 2) cap)) ∧
    (w1.setCell ⟨bb, 3, none⟩ (.slice (some ⟨gg, 0, none⟩) (2 * k + 2) cap)).ownsMap Yba.prog 9 (plainElem Yba.prog 3) bm n (fillD N (fun i => (i : Int)) n) ∧
    (w1.setCell ⟨bb, 3, none⟩ (.slice (some ⟨gg, 0, none⟩) (2 * k + 2) cap)).heap[byl]? = some (.cells (yrow Y n n) 3 (0, 0)) ∧
    (w1.setCell ⟨bb, 3, none⟩ (.slice (some ⟨gg, 0, none⟩) (2 * k + 2) cap)).ownsRow w.heap.size 38 2 (.slice (some ⟨gg, 0, none⟩) (2 * k + 2) cap) (2 * (k + 1)) (links F T (k + 1)) := by
  have hoa : (wz.alloc o).drew.ownsRow w.heap.size 38 2 L (2 * k) (links F T k) := (hown2.alloc o).drew
  have hsA := (hs2.alloc o).drew.append hoa hgrow
  obtain ⟨es, c, hm⟩ := own_obj hmap2
  have hmA : w1.heap[bm]? = some (.map es c) := links_far hoa hgrow (b := bm) (blk_alloc hm o) (fun cs e => by simp at e)
  have hyA : w1.heap[byl]? = some (.cells (yrow Y n n) 3 (0, 0)) := links_far hoa hgrow (b := byl) (blk_alloc hy2 o) (fun cs e => by simp at e)
  have nem : bm ≠ bb := fun e => by rw [e, hsA.bd] at hmA; simp at hmA
  have ney : byl ≠ bb := fun e => by rw [e, hsA.bd] at hyA; simp at hyA
  have neg : gg ≠ bb := fun e => by
    obtain ⟨_, cs, hcs⟩ := row_obj hown1 (r := gg) rfl
    rw [e, hsA.bd] at hcs; simp at hcs
  refine ⟨hsA.field 3 _, ?_, ?_, ?_⟩
  · refine own_block hmap2 ?_
    rw [heap_setCell_other _ _ _ _ nem, hmA, hm]
  · rw [heap_setCell_other _ _ _ _ ney]; exact hyA
  · exact ownsRow_setCell_other hown1 (by simp [Value.ownBlock]; exact neg) _

/-- A store into a field of the board. -/
theorem field_step (N : Nat → ByteArray) (Y : Nat → Int) {w wr : World} {name : ByteArray} {scen brd : Array Value} {bv bb : Nat} {n bm : Nat} {L : Value} {byl a : Nat} {xs : List Value} (i : Nat) (v : Value)
    (hs : Sit w name scen bv bb brd wr) (hmap : wr.ownsMap Yba.prog 9 (plainElem Yba.prog 3) bm n (fillD N (fun i => (i : Int)) n))
    (hy : wr.heap[byl]? = some (.cells (yrow Y n n) 3 (0, 0))) (hown : wr.ownsRow w.heap.size 38 2 L a xs) :
    Sit w name scen bv bb (brd.setIfInBounds i v) (wr.setCell ⟨bb, i, none⟩ v).drew ∧ (wr.setCell ⟨bb, i, none⟩ v).drew.ownsMap Yba.prog 9 (plainElem Yba.prog 3) bm n (fillD N (fun i => (i : Int)) n) ∧
    (wr.setCell ⟨bb, i, none⟩ v).drew.heap[byl]? = some (.cells (yrow Y n n) 3 (0, 0)) ∧ (wr.setCell ⟨bb, i, none⟩ v).drew.ownsRow w.heap.size 38 2 L a xs := by
  obtain ⟨es, c, hm⟩ := own_obj hmap
  have nem : bm ≠ bb := fun e => by rw [e, hs.bd] at hm; simp at hm
  have ney : byl ≠ bb := fun e => by rw [e, hs.bd] at hy; simp at hy
  have neg : L.ownBlock ≠ some bb := fun e => by
    obtain ⟨_, cs, hcs⟩ := row_obj hown e
    rw [hs.bd] at hcs; simp at hcs
  refine ⟨(hs.field i v).drew, (hmap.setCell (a := ⟨bb, i, none⟩) nem v).drew, ?_, (ownsRow_setCell_other hown (a := ⟨bb, i, none⟩) neg v).drew⟩
  show (wr.setCell ⟨bb, i, none⟩ v).heap[byl]? = _
  rw [heap_setCell_other _ _ _ _ ney]; exact hy

theorem Sit.kept {w wx w1 : World} {name : ByteArray} {scen brd : Array Value} {bv bb : Nat} (s : Sit w name scen bv bb brd wx) (hg : wx.grownBy w1 none) : Sit w name scen bv bb brd w1 := by
  have blk : ∀ {b : Nat} {o : Obj}, wx.heap[b]? = some o → w1.heap[b]? = some o := fun {b o} h => by
    rw [hg.block b (blk_lt h) (by simp)]; exact h
  exact ⟨s.below.grown hg s.below.size (fun k e => by cases e), blk s.nm, blk s.sc, blk s.vb, blk s.bd, s.hv, s.hb⟩

theorem inv_key (key : Value) (kl : Lit) (h : keyOf Yba.prog 9 key = some kl) : ∃ x, key = Value.string x := by
  cases key <;> simp [keyOf, Yba.underlying9, mapKey] at h
  exact ⟨_, rfl⟩
theorem inv_key2 (x : ByteArray) (kl : Lit) (h : keyOf Yba.prog 9 (.string x) = some kl) : x.size ≤ maxLen ∧ kl = key x := by
  simp [keyOf, Yba.underlying9, mapKey] at h
  exact ⟨h.1, h.2.symm⟩
theorem inv_elem (v : Value) (y : DataW Unit × List MemPlace) (h : plainElem Yba.prog 3 v = some y) : ∃ c : Int, v = Value.int .i64 c := by
  obtain ⟨a, rfl, _⟩ := plainElem_int_inv Yba.underlying3 h
  exact ⟨a, rfl⟩

/-- The steps of the range over the yields turn nothing else. -/
theorem range_step (N : Nat → ByteArray) (Y : Nat → Int) {w wr w1 : World} {name : ByteArray} {scen brd : Array Value} {bv bb : Nat} {n bm : Nat} {L : Value} {byl a : Nat} {xs : List Value} {By r yq cnt : Nat} {D : DataW Unit} {left : Lit → Bool}
    (hrg : wr.ranges Yba.prog 9 (plainElem Yba.prog 3) By r yq D left cnt) (hr : w.heap.size ≤ r) (hg : wr.grownBy w1 (some r))
    (hs : Sit w name scen bv bb brd wr) (hmap : wr.ownsMap Yba.prog 9 (plainElem Yba.prog 3) bm n (fillD N (fun i => (i : Int)) n))
    (hy : wr.heap[byl]? = some (.cells (yrow Y n n) 3 (0, 0))) (hown : wr.ownsRow w.heap.size 38 2 L a xs) :
    Sit w name scen bv bb brd w1 ∧ w1.ownsMap Yba.prog 9 (plainElem Yba.prog 3) bm n (fillD N (fun i => (i : Int)) n) ∧
    w1.heap[byl]? = some (.cells (yrow Y n n) 3 (0, 0)) ∧ w1.ownsRow w.heap.size 38 2 L a xs := by
  obtain ⟨es, clock, since, seen, c0, _, _, _, _, hit, _⟩ := hrg
  have hap := hs.apart hit (fun cs t e => by simp at e)
  obtain ⟨es', c', hm⟩ := own_obj hmap
  have nem : bm ≠ r := fun e => by rw [e, hit] at hm; simp at hm
  have ney : byl ≠ r := fun e => by rw [e, hit] at hy; simp at hy
  have neg : L.ownBlock ≠ some r := fun e => by
    obtain ⟨_, cs, hcs⟩ := row_obj hown e
    rw [hit] at hcs; simp at hcs
  refine ⟨hs.grown hg hr hap.1 hap.2.1 hap.2.2.1 hap.2.2.2, hmap.kept hg (fun e => nem (Option.some.inj e)), ?_, hown.kept hg (Or.inr neg)⟩
  rw [hg.block byl (blk_lt hy) (fun e => ney (Option.some.inj e))]; exact hy
end Go.Proofs.Ybulkvxq
