/-
  The memory of 'zzs1121cbuild': rows of bytes of its own; append and make on them.
-/
import Derived.Test.YbulkweqDoorAs
import Derived.OwnWalk
import Derived.Deep.OwnRows
namespace Go.Proofs.YbulkweqDoor
open Go.RowKit Go.Deep

/-- A byte. -/
def IsB (v : Value) : Prop := ∃ z : Int, v = .int .u8 z ∧ 0 ≤ z ∧ z < 256
theorem isB_mk {z : Int} (h0 : 0 ≤ z) (h1 : z < 256) : IsB (.int .u8 z) := ⟨z, rfl, h0, h1⟩
theorem isB_wrap (z : Int) : IsB (.int .u8 (IntKind.u8.wrap z)) := ⟨_, rfl, by rw [IntKind.wrap_u8]; omega, by rw [IntKind.wrap_u8]; omega⟩
theorem isB_bits (op : BinOp) (a b : Int) : IsB (.int .u8 (bits op .u8 a b)) := isB_wrap _
theorem isB_one {v : Value} (h : IsB v) : v.oneCell' = true := by obtain ⟨z, rfl, _, _⟩ := h; rfl

/-- A block of C bytes. -/
def Row (W : World) (g C : Nat) : Prop := ∃ cur : Array Value, W.heap[g]? = some (.cells cur 5 (0, 0)) ∧ cur.size = C ∧ ∀ u ∈ cur.toList, IsB u
theorem Row.of_block {W W' : World} {g C : Nat} (h : Row W g C) (e : W'.heap[g]? = W.heap[g]?) : Row W' g C := by
  obtain ⟨cur, h1, h2, h3⟩ := h
  exact ⟨cur, by rw [e]; exact h1, h2, h3⟩
theorem Row.lt {W : World} {g C : Nat} (h : Row W g C) : g < W.heap.size := by obtain ⟨cur, h1, _, _⟩ := h; exact blk_lt h1
theorem Row.cell {W : World} {g C : Nat} (h : Row W g C) (i : Nat) (hi : i < C) : ∃ z : Int, W.cell? ⟨g, i, none⟩ = some (.int .u8 z) ∧ 0 ≤ z ∧ z < 256 := by
  obtain ⟨cur, h1, h2, h3⟩ := h
  have hi' : i < cur.size := by omega
  obtain ⟨z, hz, z0, z1⟩ := h3 cur[i] (by simp)
  exact ⟨z, cell_row h1 (by rw [Array.getElem?_eq_getElem hi', hz]), z0, z1⟩
theorem Row.free {W : World} {g C : Nat} (h : Row W g C) (i : Nat) : W.frozen? ⟨g, i, none⟩ = false := by
  obtain ⟨cur, h1, _, _⟩ := h
  exact free_row h1
theorem Row.set {W : World} {g C : Nat} (h : Row W g C) (i : Nat) {v : Value} (hv : IsB v) : Row (W.setCell ⟨g, i, none⟩ v) g C := by
  obtain ⟨cur, h1, h2, h3⟩ := h
  refine ⟨_, heap_setCell_same W g i cur 5 _ h1, by simpa using h2, fun u hu => ?_⟩
  rw [Array.toList_setIfInBounds] at hu
  rcases List.mem_or_eq_of_mem_set hu with h | h
  · exact h3 u h
  · exact h ▸ hv
theorem Row.alloc {W : World} {g C : Nat} (h : Row W g C) (o : Obj) : Row (W.alloc o) g C := h.of_block (Below.heap_alloc W o g h.lt)
theorem Row.made (W : World) (C : Nat) : Row (W.alloc (.cells (madeCells #[.int .u8 0] C) 5)) W.heap.size C := by
  refine ⟨_, blk_new W _, by simp [size_madeCells], fun u hu => ?_⟩
  have : u = .int .u8 0 := by
    simp [madeCells] at hu
    obtain ⟨i, _, rfl⟩ := hu
    rw [Nat.mod_one]; rfl
  rw [this]; exact isB_mk (by decide) (by decide)

theorem info5 : (Ybad.prog.info? 5).map (fun i => (i.zero, i.size, i.bytes)) = some (some (.int .u8 0), 1, 1) := by kernel_rfl

theorem run_append_row (W : World) (ty : TypeId) (g k C : Nat) (hR : Row W g C) (ao : Option Addr) (m c : Nat) (news : List Value) (hn : news.length = m) (hnone : ao = none → m = 0 ∧ c = 0)
    (hc : ∀ ad, ao = some ad → ∀ j u, news[j]? = some u → W.cell? (ad.add j) = some u) (hB : ∀ u ∈ news, IsB u) (b1 : k + m ≤ C) :
    ∃ W', (Builtin.append_ #[23, 23] ty #[.slice (some ⟨g, 0, none⟩) k C, .slice ao m c]).run Ybad.prog W = .ok (.slice (some ⟨g, 0, none⟩) (k + m) C) W' ∧ Row W' g C ∧ W.grownBy W' (some g) ∧ W'.heap.size = W.heap.size := by
  obtain ⟨i, hi, hzz⟩ := Option.map_eq_some_iff.1 info5
  simp only [Prod.mk.injEq] at hzz
  obtain ⟨hz, hs, hb⟩ := hzz
  obtain ⟨cur, h1, h2, h3⟩ := hR
  cases ao with
  | none =>
    obtain ⟨rfl, rfl⟩ := hnone rfl
    refine ⟨W, ?_, ⟨cur, h1, h2, h3⟩, World.grownBy.refl _ _, rfl⟩
    simp [Builtin.append_, run_underlying Ybad.underlying23, sizeOf, typeInfo, hi, Builtin.lenOf, Builtin.firstCells, storeCells]
    omega
  | some ad =>
    have hr := run_append_room (P := Ybad.prog) W 23 ty 5 i Ybad.underlying23 hi g k C cur h1 ad m c news (by rw [hs]; omega) (hc ad rfl) (fun u hu => isB_one (hB u hu)) b1 (by rw [hs]; omega)
    refine ⟨_, hr, ⟨_, setRow_heap W g cur _ 5 _ h1, ?_, fun u hu => ?_⟩, ⟨rfl, rfl, rfl, by simp, fun q _ hq => setRow_other W g q _ (fun e => hq (by rw [e]))⟩, by simp⟩
    · simp only [List.size_toArray, List.length_append, List.length_take, List.length_drop, Array.length_toList, hs]
      omega
    · simp only [List.mem_append] at hu
      rcases hu with (hu | hu) | hu
      · exact h3 u (List.mem_of_mem_take hu)
      · exact hB u hu
      · exact h3 u (List.mem_of_mem_drop hu)

/-- What lies while the frame is built: the argument's box, the frame's row. -/
structure Sit (w W : World) (X : Array Value) (C : Nat) : Prop where
  below : Below w.heap.size w W
  arg : W.heap[w.heap.size]? = some (.cells X 25 (0, 0))
  row : Row W (w.heap.size + 1) C
theorem Sit.step {w W W' : World} {X : Array Value} {C : Nat} (h : Sit w W X C) (hB : Below W.heap.size W W') : Sit w W' X C :=
  ⟨h.below.trans (hB.mono h.below.size), by rw [hB.block _ (blk_lt h.arg)]; exact h.arg, h.row.of_block (hB.block _ h.row.lt)⟩
theorem Sit.alloc {w W : World} {X : Array Value} {C : Nat} (h : Sit w W X C) (o : Obj) : Sit w (W.alloc o) X C := h.step ((Below.refl _ _).alloc (Nat.le_refl _) _)
theorem Sit.drew {w W : World} {X : Array Value} {C : Nat} (h : Sit w W X C) : Sit w W.drew X C := h.step (Below.refl _ _).drew
theorem Sit.grown {w W W' : World} {X : Array Value} {C : Nat} (h : Sit w W X C) (hR : Row W' (w.heap.size + 1) C) (hg : W.grownBy W' (some (w.heap.size + 1))) : Sit w W' X C :=
  ⟨⟨hg.os.trans h.below.os, hg.tape.trans h.below.tape, hg.output.trans h.below.output, Nat.le_trans h.below.size hg.size, fun k hk => (hg.block k (Nat.lt_of_lt_of_le hk h.below.size) (by simp; omega)).trans (h.below.block k hk)⟩,
    by rw [hg.block _ (blk_lt h.arg) (by simp)]; exact h.arg, hR⟩

theorem wpList_append_sit {w W : World} {X : Array Value} {C : Nat} {ops : Array Oper} {rest : List Oper} {o : Oper} {a : Act} {Q : Exit → Act → World → Prop} (hgd : o.guard = none) (s x : Operand)
    (hop : o.op = Op.call { callee := Callee.builtin Builtin.append, args := #[s, x], argTypes := #[23, 23] }) (S : Sit w W X C) (k : Nat) (hs : a.eval s = .slice (some ⟨w.heap.size + 1, 0, none⟩) k C)
    (ao : Option Addr) (m c : Nat) (news : List Value) (hx : a.eval x = .slice ao m c) (hn : news.length = m) (hnone : ao = none → m = 0 ∧ c = 0)
    (hc : ∀ ad, ao = some ad → ∀ j u, news[j]? = some u → W.cell? (ad.add j) = some u) (hB : ∀ u ∈ news, IsB u) (b1 : k + m ≤ C)
    (hK : ∀ W', Sit w W' X C → W.grownBy W' (some (w.heap.size + 1)) → W'.heap.size = W.heap.size → wpList Ybad.prog ops Q rest (a.put o.dst (.slice (some ⟨w.heap.size + 1, 0, none⟩) (k + m) C)) W') :
    wpList Ybad.prog ops Q (o :: rest) a W := by
  refine wpList_plain hgd fun K hK' => ?_
  obtain ⟨W', hrun, r1, r2, r3⟩ := run_append_row W o.type (w.heap.size + 1) k C S.row ao m c news hn hnone hc hB b1
  unfold Oper.wp
  simp [execOp, hop, resolve, invoke, builtin, hs, hx, hrun, Result.andThen]
  exact hK' _ _ (hK W' (S.grown r1 r2) r2 r3)

/-- .. and the header's row. -/
structure Sit2 (w W : World) (X : Array Value) (C gh hl : Nat) : Prop where
  sit : Sit w W X C
  head : Row W gh hl
  far : w.heap.size + 1 < gh
theorem Sit2.step {w W W' : World} {X : Array Value} {C gh hl : Nat} (h : Sit2 w W X C gh hl) (hB : Below W.heap.size W W') : Sit2 w W' X C gh hl :=
  ⟨h.sit.step hB, h.head.of_block (hB.block _ h.head.lt), h.far⟩
theorem Sit2.drew {w W : World} {X : Array Value} {C gh hl : Nat} (h : Sit2 w W X C gh hl) : Sit2 w W.drew X C gh hl := h.step (Below.refl _ _).drew
theorem Sit2.set {w W : World} {X : Array Value} {C gh hl : Nat} (h : Sit2 w W X C gh hl) (i : Nat) {v : Value} (hv : IsB v) : Sit2 w (W.setCell ⟨gh, i, none⟩ v) X C gh hl := by
  have hf := h.far
  refine ⟨⟨h.sit.below.setCell (by show w.heap.size ≤ gh; omega) v, ?_, ?_⟩, h.head.set i hv, hf⟩
  · rw [heap_setCell_other _ _ _ _ (by show w.heap.size ≠ gh; omega)]; exact h.sit.arg
  · exact h.sit.row.of_block (heap_setCell_other _ _ _ _ (by show w.heap.size + 1 ≠ gh; omega))
theorem Sit2.made {w W : World} {X : Array Value} {C : Nat} (h : Sit w W X C) (hl : Nat) : Sit2 w (W.alloc (.cells (madeCells #[.int .u8 0] hl) 5)) X C W.heap.size hl :=
  ⟨h.alloc _, Row.made W hl, h.row.lt⟩
/-- The cells of a row, all of them. -/
theorem Row.news {W : World} {g C : Nat} (h : Row W g C) : ∃ news : List Value, news.length = C ∧ (∀ ad, some (⟨g, 0, none⟩ : Addr) = some ad → ∀ j u, news[j]? = some u → W.cell? (ad.add j) = some u) ∧ ∀ u ∈ news, IsB u := by
  obtain ⟨cur, h1, h2, h3⟩ := h
  refine ⟨cur.toList, by simpa using h2, ?_, h3⟩
  rintro ad e j u hu
  obtain rfl := (Option.some.inj e).symm
  rw [Addr.add_lit, Nat.zero_add]
  exact cell_row h1 (by simpa using hu)
/-- The bytes of a row as numbers. -/
theorem Row.nums {W : World} {g C : Nat} (h : Row W g C) : ∃ Z : Nat → Int, (∀ i, 0 ≤ Z i ∧ Z i < 256) ∧ ∀ i, i < C → W.cell? ⟨g, i, none⟩ = some (.int .u8 (Z i)) := by
  have hh : ∀ i, ∃ z : Int, (0 ≤ z ∧ z < 256) ∧ (i < C → W.cell? ⟨g, i, none⟩ = some (.int .u8 z)) := fun i => by
    by_cases hi : i < C
    · obtain ⟨z, hz, z0, z1⟩ := h.cell i hi
      exact ⟨z, ⟨z0, z1⟩, fun _ => hz⟩
    · exact ⟨0, ⟨by decide, by decide⟩, fun h' => absurd h' hi⟩
  exact ⟨fun i => Classical.choose (hh i), fun i => (Classical.choose_spec (hh i)).1, fun i => (Classical.choose_spec (hh i)).2⟩
/-- The cells of a body. -/
theorem body_news {w W : World} {ba : Option Addr} {bb bo n : Nat} {B : Nat → Int} (hB : ∀ i, 0 ≤ B i ∧ B i < 256) (hba : 0 < n → ba = some ⟨bb, bo, none⟩) (hc : ∀ i, i < n → w.cell? ⟨bb, bo + i, none⟩ = some (.int .u8 (B i))) (hW : Below w.heap.size w W) :
    ∃ news : List Value, news.length = n ∧ (∀ ad, ba = some ad → ∀ j u, news[j]? = some u → W.cell? (ad.add j) = some u) ∧ ∀ u ∈ news, IsB u := by
  refine ⟨(List.range n).map fun i => .int .u8 (B i), by simp, ?_, ?_⟩
  · rintro ad e j u hu
    by_cases hj : j < n
    · obtain rfl := (Option.some.inj ((hba (by omega)).symm.trans e)).symm
      simp [hj] at hu
      rw [Addr.add_lit, hW.cell (World.block_lt_of_cell? w _ (hc j hj)), hc j hj, hu]
    · simp [hj] at hu
  · intro u hu
    simp at hu
    obtain ⟨i, _, rfl⟩ := hu
    exact isB_mk (hB i).1 (hB i).2
/-- The cells of a slice that has just been laid. -/
theorem new_cells (W : World) (cs : List Value) (t : TypeId) : ∀ ad, some (⟨W.heap.size, 0, none⟩ : Addr) = some ad → ∀ j u, cs[j]? = some u → (W.alloc (.cells cs.toArray t)).cell? (ad.add j) = some u := by
  rintro ad h j u hu
  obtain rfl := (Option.some.inj h).symm
  rw [Addr.add_lit, Nat.zero_add]
  exact cell_row (blk_new W _) (by simpa using hu)
end Go.Proofs.YbulkweqDoor
