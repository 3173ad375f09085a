/-
  'ipv6Datagram' (13).
-/
import Derived.Test.YbulkweqDoorIp4
import Derived.Test.YbulkweqDoorPlain
import Derived.Deep.MidRow
namespace Go.Proofs.YbulkweqDoor
open Go.RowKit Go.Deep

def rowL (X : Nat → Int) (z : Nat) : List Value := (row16 X z).toList
theorem rowL_arr (X : Nat → Int) (z : Nat) : (rowL X z).toArray = row16 X z := rfl
theorem rangeAt_far (W : World) (b o : Nat) (cs : List Value) (p : Addr) (v : Value) (h : p.block ≠ b) : (W.setCell p v).rangeAt b o cs ↔ W.rangeAt b o cs := by
  unfold World.rangeAt
  constructor <;> intro hh j u hj
  · rw [← World.cell?_setCell_far W p ⟨b, o + j, none⟩ v h]; exact hh j u hj
  · rw [World.cell?_setCell_far W p ⟨b, o + j, none⟩ v h]; exact hh j u hj
theorem range_row {W : World} {fb o N : Nat} {X : Nat → Int} (h : ∀ i, i < N → W.cell? ⟨fb, o + i, none⟩ = some (.int .u8 (X i))) (z : Nat) (hz : z + 16 ≤ N) : W.rangeAt fb (o + z) (rowL X z) := by
  intro j v hj
  have hj16 : j < 16 := by
    have := (List.getElem?_eq_some_iff.mp hj).1
    simpa [rowL] using this
  have e := row16_at X z j hj16
  have e2 : (rowL X z)[j]? = (row16 X z)[j]? := by simp [rowL]
  rw [e2, e] at hj
  cases hj
  rw [Nat.add_assoc]
  exact h (z + j) (by omega)
theorem info45L (X : Nat → Int) (z : Nat) : (Ybad.prog.info? 45).map (·.size) = some (rowL X z).length := by kernel_rfl

set_option maxHeartbeats 1000000 in
theorem ip6_bada (X : Nat → Int) (hX : ∀ i, 0 ≤ X i ∧ X i < 256) (fb o n cap : Nat) (w : World) (hc : ∀ i, i < n → w.cell? ⟨fb, o + i, none⟩ = some (.int .u8 (X i))) (hbad : bad6a X n) (hn : n ≤ 4096) :
    Calls Ybad.prog 13 #[.slice (some ⟨fb, o, none⟩) n cap] w fun e w' => e = .returned (.tuple #[.agg dg0, .bool false]) ∧ Below w.heap.size w w' := by
  by_cases h20 : n < 40
  · have q : decide ((n : Int) < 40) = true := by simp; omega
    clear hbad hc
    go_enter Ybad.func13, Ybad.ntmps13
    go_wp2
    all_goals refine bodyPost_ret (v := .tuple #[.agg dg0, .bool false]) (by simp [results, Ybad.results13, go_sem]) rfl ⟨rfl, (Below.refl _ _).alloc (Nat.le_refl _) _⟩
  · have q : decide ((n : Int) < 40) = false := by simp; omega
    have q0 : 0 < n := by omega
    have c0 : ∀ v, (w.alloc v).cell? ⟨fb, o, none⟩ = some (.int .u8 (X 0)) := fun v => cell?_alloc_old v (hc 0 (by omega))
    have hx : ¬ X 0 / 16 = 6 := hbad.resolve_left h20
    obtain ⟨x0, x1⟩ := hX 0
    clear hbad hc hX
    generalize X 0 = x at *
    go_enter Ybad.func13, Ybad.ntmps13
    go_wp2
    all_goals refine bodyPost_ret (v := .tuple #[.agg dg0, .bool false]) (by simp [results, Ybad.results13, go_sem]) rfl ⟨rfl, (Below.refl _ _).alloc (Nat.le_refl _) _⟩

set_option maxHeartbeats 4000000 in
theorem ip6_good (X : Nat → Int) (hX : ∀ i, 0 ≤ X i ∧ X i < 256) (fb o n cap : Nat) (pz : Option Addr) (w : World) (hc : ∀ i, i < n → w.cell? ⟨fb, o + i, none⟩ = some (.int .u8 (X i))) (hz : w.cell? ⟨2, 0, none⟩ = some (.pointer pz)) (hok : ¬ bad6a X n) (hn : n ≤ cap) (hcap : cap ≤ 4096) :
    Calls Ybad.prog 13 #[.slice (some ⟨fb, o, none⟩) n cap] w fun e w' => e = .returned (.tuple #[.agg (dgOf (.slice (some ⟨fb, o, none⟩) (min (40 + (X 4 * 256 + X 5)).toNat n) cap) X X 8 24 pz), .bool true]) ∧ Below w.heap.size w w' := by
  have h20 : ¬ n < 40 := fun h => hok (Or.inl h)
  have q : decide ((n : Int) < 40) = false := by simp; omega
  have q0 : 0 < n := by omega
  have c0 : ∀ v, (w.alloc v).cell? ⟨fb, o, none⟩ = some (.int .u8 (X 0)) := fun v => cell?_alloc_old v (hc 0 (by omega))
  have hx : X 0 / 16 = 6 := Decidable.of_not_not fun h => hok (Or.inr h)
  obtain ⟨x0, x1⟩ := hX 0
  have c2 : ∀ v, (w.alloc v).cell? ⟨fb, o + 4, none⟩ = some (.int .u8 (X 4)) := fun v => cell?_alloc_old v (hc 4 (by omega))
  have c3 : ∀ v, (w.alloc v).cell? ⟨fb, o + 4 + 1, none⟩ = some (.int .u8 (X 5)) := fun v => cell?_alloc_old v (hc 5 (by omega))
  have u : ∀ W : World, W.cell? ⟨fb, o + 4, none⟩ = some (.int .u8 (X 4)) → W.cell? ⟨fb, o + 4 + 1, none⟩ = some (.int .u8 (X 5)) → Calls Ybad.prog 11 #[.agg #[], .slice (some ⟨fb, o + 4, none⟩) (n - 4) (cap - 4)] W fun e w' => e = .returned (.int .u16 (X 4 * 256 + X 5)) ∧ w' = (W.alloc (.cells #[] 49)).drew :=
    fun W h2 h3 => uint16_any fb (o + 4) (n - 4) (cap - 4) (X 4) (X 5) W (by omega) h2 h3 (hX 4).1 (hX 4).2 (hX 5).1 (hX 5).2
  obtain ⟨x2, x3⟩ := hX 4
  obtain ⟨x4, x5⟩ := hX 5
  have L : ∀ W : World, Below w.heap.size w W → W.heap[w.heap.size]? = some (.cells dg0 38 (0, 0)) → Lies w fb o 40 2 X pz W := fun W hB h =>
    ⟨hB, fun i hi => by rw [hB.cell (World.block_lt_of_cell? w _ (hc i (by omega)))]; exact hc i (by omega), by rw [hB.cell (World.block_lt_of_cell? w _ hz)]; exact hz, h⟩
  have L7 : Lies w fb o 40 2 X pz (((w.alloc (.cells dg0 38)).alloc (.cells #[] 49))) :=
    L _ (((Below.refl _ _).alloc (Nat.le_refl _) _).alloc (by simp) _) (blk_alloc (blk_new w _) _)
  have f16 : ∀ (k : Nat) (W : World), Lies w fb o 40 2 X pz W → Calls Ybad.prog 17 #[.agg (rowL X k).toArray] W fun e w' => e = .returned (.agg #[.int .u64 (be8 X k), .int .u64 (be8 X (k + 8)), .pointer pz]) ∧ Lies w fb o 40 2 X pz w' ∧ w'.rangeAt fb (o + 8) (rowL X 8) ∧ w'.rangeAt fb (o + 24) (rowL X 24) ∧ (w'.cell? ⟨w.heap.size, 0, none⟩ = some (.slice none 0 0) ∧ w'.cell? ⟨w.heap.size, 1, none⟩ = some (.int .u64 0) ∧ w'.cell? ⟨w.heap.size, 2, none⟩ = some (.int .u64 0) ∧ w'.cell? ⟨w.heap.size, 3, none⟩ = some (.pointer none) ∧ w'.cell? ⟨w.heap.size, 4, none⟩ = some (.int .u64 0) ∧ w'.cell? ⟨w.heap.size, 5, none⟩ = some (.int .u64 0) ∧ w'.cell? ⟨w.heap.size, 6, none⟩ = some (.pointer none) ∧ (∀ i, w'.frozen? ⟨w.heap.size, i, none⟩ = false)) := fun k W h =>
    (from16_any X hX k pz W h.var).mono (by
      rintro e w' ⟨rfl, hB⟩
      have h' := h.step hB
      exact ⟨rfl, h', range_row h'.row 8 (by omega), range_row h'.row 24 (by omega), h'.cells⟩)
  have g8 := f16 8
  have g24 := f16 24
  clear f16
  have hne' : ¬ w.heap.size = fb := Nat.ne_of_gt (World.block_lt_of_cell? w _ (hc 0 (by omega)))
  have hne : ¬ fb = w.heap.size := Nat.ne_of_lt (World.block_lt_of_cell? w _ (hc 0 (by omega)))
  clear hok hc hX hz L
  generalize hXX : X 0 = a0 at *
  generalize hXX2 : X 4 = a2 at *
  generalize hXX3 : X 5 = a3 at *
  obtain ⟨t, ht⟩ := Int.eq_ofNat_of_zero_le (show 0 ≤ 40 + (a2 * 256 + a3) by omega)
  have we : IntKind.i64.wrap (a2 * 256 + a3) = a2 * 256 + a3 := by rw [IntKind.wrap_i64]; omega
  have we2 : IntKind.i64.wrap (40 + (a2 * 256 + a3)) = (t : Int) := by rw [IntKind.wrap_i64]; omega
  have wr : Hid (Value.int .i64 (IntKind.i64.wrap (40 + IntKind.i64.wrap (a2 * 256 + a3))) = .int .i64 (t : Int)) := congrArg (Value.int .i64) (by rw [we]; exact we2)
  clear we we2
  rw [ht]
  clear ht
  go_enter Ybad.func13, Ybad.ntmps13
  go_upto_region 3 with fail
  go_cut [4] (fun v wx => v = .int .i64 (t : Int) ∧ Lies w fb o 40 2 X pz wx)
  case first =>
    go_region_with (go_at_call 11; refine (u _ ?hh ?hb).mono ?_; (case hh => exact c2 _); (case hb => exact c3 _); rintro e w' ⟨rfl, rfl⟩)
    all_goals (go_wp2_with fail; go_meet; case rel => exact ⟨wr.out, L7.step ⟨rfl, rfl, rfl, Nat.le_refl _, fun _ _ => rfl⟩⟩)
  case rest =>
    obtain ⟨rfl, Lc⟩ := hcut
    have s8 := range_row Lc.row 8 (by omega)
    have s24 := range_row Lc.row 24 (by omega)
    have ar := arr45
    have un := Ybad.underlying45
    have in8 := info45L X 8
    have in24 := info45L X 24
    clear L7 u c2 c3 wr
    have z0 : ¬ cap = 0 := by omega
    have z1 : (24 : Int) ≤ (cap : Int) := by omega
    have z2 : (40 : Int) ≤ (cap : Int) := by omega
    have z3 : ¬ cap = 8 := by omega
    have z4 : ¬ cap = 24 := by omega
    have z5 : (8 : Int) ≤ (cap : Int) := by omega
    go_upto_region 4 with fail
    clear q0 x0 x1 x2 x3 x4 x5 hx c0 q
    by_cases hm : t ≤ n
    · have hm1 : ¬ (n : Int) < (t : Int) := by omega
      have hm2 : (t : Int) ≤ (n : Int) := by omega
      have hm3 : min t n = t := by omega
      have hm5 : ¬ n < t := by omega
      have hm6 : t ≤ cap := by omega
      have hm7 : (if (n : Int) < (t : Int) then (n : Int) else (t : Int)) = (t : Int) := if_neg hm1
      have z7 : (t : Int) ≤ (cap : Int) := by omega
      refine wp_region_held_drew (S := fun W => W.rangeAt fb (o + 8) (rowL X 8) ∧ W.rangeAt fb (o + 24) (rowL X 24)) (by kernel_rfl) (by simp [*]) (fun hH => ?_)
      refine wpAnyH_take (i := 0) (oi := ?o1) (v := ?v1) ?h1 (by kernel_rfl) (by kernel_rfl) (by kernel_rfl) ?q1 ?y1 hH ?r1
      case h1 => (simp only [List.getElem?_toArray, List.getElem?_cons_zero]; rfl)
      case q1 => exact fun _ _ _ h => h
      case y1 => (refine Or.inl ⟨by rfl, ?_⟩; intro W hSw; go_simp; try with_reducible rfl)
      simp only [Act.put, List.setIfInBounds_toArray, List.set_cons_zero, List.set_cons_succ]
      refine wpAnyH_take (i := 1) (oi := ?o2) (v := ?v2) ?h2 (by kernel_rfl) (by kernel_rfl) (by kernel_rfl) ?q2 ?y2 hH ?r2
      case h2 => (simp only [List.getElem?_toArray, List.getElem?_cons_zero, List.getElem?_cons_succ]; rfl)
      case q2 => exact fun _ _ _ h => h
      case y2 => (refine Or.inl ⟨by rfl, ?_⟩; intro W hSw; go_simp; try with_reducible rfl)
      simp only [Act.put, List.setIfInBounds_toArray, List.set_cons_zero, List.set_cons_succ]
      refine wpAnyH_take (i := 2) (oi := ?o3) (v := ?v3) ?h3 (by kernel_rfl) (by kernel_rfl) (by kernel_rfl) ?q3 ?y3 hH ?r3
      case h3 => (simp only [List.getElem?_toArray, List.getElem?_cons_zero, List.getElem?_cons_succ]; rfl)
      case q3 => exact fun _ _ _ h => h
      case y3 => (refine Or.inl ⟨by rfl, ?_⟩; intro W hSw; go_simp; try with_reducible rfl)
      simp only [Act.put, List.setIfInBounds_toArray, List.set_cons_zero, List.set_cons_succ]
      refine wpAnyH_take (i := 3) (oi := ?o4) (v := ?v4) ?h4 (by kernel_rfl) (by kernel_rfl) (by kernel_rfl) ?q4 ?y4 hH ?r4
      case h4 => (simp only [List.getElem?_toArray, List.getElem?_cons_zero, List.getElem?_cons_succ]; rfl)
      case q4 => exact fun _ _ _ h => h
      case y4 => (refine Or.inl ⟨by rfl, ?_⟩; intro W hSw; go_simp; try with_reducible rfl)
      simp only [Act.put, List.setIfInBounds_toArray, List.set_cons_zero, List.set_cons_succ]
      refine wpAnyH_take (i := 6) (oi := ?o5) (v := ?v5) ?h5 (by kernel_rfl) (by kernel_rfl) (by kernel_rfl) ?q5 ?y5 hH ?r5
      case h5 => (simp only [List.getElem?_toArray, List.getElem?_cons_zero, List.getElem?_cons_succ]; rfl)
      case q5 => exact fun _ _ _ h => h
      case y5 => (refine Or.inl ⟨by rfl, ?_⟩; intro W hSw; go_simp; try with_reducible rfl)
      simp only [Act.put, List.setIfInBounds_toArray, List.set_cons_zero, List.set_cons_succ]
      refine wpAnyH_take (i := 7) (oi := ?o6) (v := ?v6) ?h6 (by kernel_rfl) (by kernel_rfl) (by kernel_rfl) ?q6 ?y6 hH ?r6
      case h6 => (simp only [List.getElem?_toArray, List.getElem?_cons_zero, List.getElem?_cons_succ]; rfl)
      case q6 => exact fun _ _ _ h => h
      case y6 => (refine Or.inl ⟨by rfl, ?_⟩; intro W hSw; go_simp; try with_reducible rfl)
      simp only [Act.put, List.setIfInBounds_toArray, List.set_cons_zero, List.set_cons_succ]
      refine wpAnyH_take (i := 8) (oi := ?o7) (v := ?v7) ?h7 (by kernel_rfl) (by kernel_rfl) (by kernel_rfl) ?q7 ?y7 hH ?r7
      case h7 => (simp only [List.getElem?_toArray, List.getElem?_cons_zero, List.getElem?_cons_succ]; rfl)
      case q7 => exact fun _ _ _ h => h
      case y7 => (refine Or.inl ⟨by rfl, ?_⟩; intro W hSw; go_simp; try with_reducible rfl)
      simp only [Act.put, List.setIfInBounds_toArray, List.set_cons_zero, List.set_cons_succ]
      refine wpAnyH_take (i := 9) (oi := ?o8) (v := .agg (rowL X 8).toArray) ?h8 (by kernel_rfl) (by kernel_rfl) (by kernel_rfl) ?q8 ?y8 hH ?r8
      case h8 => (simp only [List.getElem?_toArray, List.getElem?_cons_zero, List.getElem?_cons_succ]; rfl)
      case q8 => exact fun _ _ _ h => h
      case y8 => exact yieldsIf_load_mid (by rfl) _ _ rfl fb (o + 8) rfl (rowL X 8) _ (fun W hW => hW.1) un rfl in8
      simp only [Act.put, List.setIfInBounds_toArray, List.set_cons_zero, List.set_cons_succ]
      refine wpAnyH_take (i := 11) (oi := ?o9) (v := ?v9) ?h9 (by kernel_rfl) (by kernel_rfl) (by kernel_rfl) ?q9 ?y9 hH ?r9
      case h9 => (simp only [List.getElem?_toArray, List.getElem?_cons_zero, List.getElem?_cons_succ]; rfl)
      case q9 => exact fun _ _ _ h => h
      case y9 => (refine Or.inl ⟨by rfl, ?_⟩; intro W hSw; go_simp; try with_reducible rfl)
      simp only [Act.put, List.setIfInBounds_toArray, List.set_cons_zero, List.set_cons_succ]
      refine wpAnyH_take (i := 12) (oi := ?o10) (v := ?v10) ?h10 (by kernel_rfl) (by kernel_rfl) (by kernel_rfl) ?q10 ?y10 hH ?r10
      case h10 => (simp only [List.getElem?_toArray, List.getElem?_cons_zero, List.getElem?_cons_succ]; rfl)
      case q10 => exact fun _ _ _ h => h
      case y10 => (refine Or.inl ⟨by rfl, ?_⟩; intro W hSw; go_simp; try with_reducible rfl)
      simp only [Act.put, List.setIfInBounds_toArray, List.set_cons_zero, List.set_cons_succ]
      refine wpAnyH_take (i := 13) (oi := ?o11) (v := ?v11) ?h11 (by kernel_rfl) (by kernel_rfl) (by kernel_rfl) ?q11 ?y11 hH ?r11
      case h11 => (simp only [List.getElem?_toArray, List.getElem?_cons_zero, List.getElem?_cons_succ]; rfl)
      case q11 => exact fun _ _ _ h => h
      case y11 => (refine Or.inl ⟨by rfl, ?_⟩; intro W hSw; go_simp; try with_reducible rfl)
      simp only [Act.put, List.setIfInBounds_toArray, List.set_cons_zero, List.set_cons_succ]
      refine wpAnyH_take (i := 14) (oi := ?o12) (v := .agg (rowL X 24).toArray) ?h12 (by kernel_rfl) (by kernel_rfl) (by kernel_rfl) ?q12 ?y12 hH ?r12
      case h12 => (simp only [List.getElem?_toArray, List.getElem?_cons_zero, List.getElem?_cons_succ]; rfl)
      case q12 => exact fun _ _ _ h => h
      case y12 => exact yieldsIf_load_mid (by rfl) _ _ rfl fb (o + 24) rfl (rowL X 24) _ (fun W hW => hW.2) un rfl in24
      simp only [Act.put, List.setIfInBounds_toArray, List.set_cons_zero, List.set_cons_succ]
      refine wpAnyH_ready (rs := [4, 10]) (by kernel_rfl) (by simp) ?_
      refine AllReadyH.cons (o := ?o13x4) ?h13x4 (fun K hK => ?b13x4) ?c13x4
      case h13x4 => (simp only [List.getElem?_toArray, List.getElem?_cons_zero, List.getElem?_cons_succ]; rfl)
      case b13x4 =>
        go_simp
        refine hK.out _ _ hH (fun hH => ?_)
        clear hK K
        try simp only [Act.put, List.setIfInBounds_toArray, List.set_cons_zero, List.set_cons_succ]
        refine wpAnyH_take (i := 5) (oi := ?o14) (v := ?v14) ?h14 (by kernel_rfl) (by kernel_rfl) (by kernel_rfl) ?q14 ?y14 hH ?r14
        case h14 => (simp only [List.getElem?_toArray, List.getElem?_cons_zero, List.getElem?_cons_succ]; rfl)
        case q14 => exact fun _ _ _ h => h
        case y14 => (refine Or.inl ⟨by rfl, ?_⟩; intro W hSw; go_simp; try with_reducible rfl)
        simp only [Act.put, List.setIfInBounds_toArray, List.set_cons_zero, List.set_cons_succ]
        refine wpAnyH_ready (rs := [10]) (by kernel_rfl) (by simp) ?_
        refine AllReadyH.cons (o := ?o15x10) ?h15x10 (fun K hK => ?b15x10) ?c15x10
        case h15x10 => (simp only [List.getElem?_toArray, List.getElem?_cons_zero, List.getElem?_cons_succ]; rfl)
        case b15x10 =>
          go_simp
          refine (g8 _ Lc.drew).mono ?_
          rintro e w' ⟨rfl, Lw, s8, s24, k0, k1, k2, k3, k4, k5, k6, kf⟩
          go_wp2_with fail
          refine hK.out _ _ ⟨s8, s24⟩ (fun hH => ?_)
          clear hK K
          try simp only [Act.put, List.setIfInBounds_toArray, List.set_cons_zero, List.set_cons_succ]
          refine wpAnyH_ready (rs := [15]) (by kernel_rfl) (by simp) ?_
          refine AllReadyH.cons (o := ?o16x15) ?h16x15 (fun K hK => ?b16x15) ?c16x15
          case h16x15 => (simp only [List.getElem?_toArray, List.getElem?_cons_zero, List.getElem?_cons_succ]; rfl)
          case b16x15 =>
            go_simp
            refine (g24 _ Lw).mono ?_
            rintro e w' ⟨rfl, Lw, s8, s24, k0, k1, k2, k3, k4, k5, k6, kf⟩
            go_wp2_with fail
            refine hK.out _ _ ⟨s8, s24⟩ (fun hH => ?_)
            clear hK K
            try simp only [Act.put, List.setIfInBounds_toArray, List.set_cons_zero, List.set_cons_succ]
            refine wpAnyH_take (i := 16) (oi := ?o17) (v := ?v17) ?h17 (by kernel_rfl) (by kernel_rfl) (by kernel_rfl) ?q17 ?y17 hH ?r17
            case h17 => (simp only [List.getElem?_toArray, List.getElem?_cons_zero, List.getElem?_cons_succ]; rfl)
            case q17 => exact fun _ _ _ h => h
            case y17 => (refine Or.inl ⟨by rfl, ?_⟩; intro W hSw; go_simp; try with_reducible rfl)
            simp only [Act.put, List.setIfInBounds_toArray, List.set_cons_zero, List.set_cons_succ]
            refine wpAnyH_ready (rs := [17]) (by kernel_rfl) (by simp) ?_
            refine AllReadyH.cons (o := ?o18x17) ?h18x17 (fun K hK => ?b18x17) ?c18x17
            case h18x17 => (simp only [List.getElem?_toArray, List.getElem?_cons_zero, List.getElem?_cons_succ]; rfl)
            case b18x17 =>
              go_simp
              refine hK.out _ _ (by simp [*, rangeAt_far]) (fun hH => ?_)
              clear hK K
              try simp only [Act.put, List.setIfInBounds_toArray, List.set_cons_zero, List.set_cons_succ]
              refine wpAnyH_take (i := 18) (oi := ?o19) (v := ?v19) ?h19 (by kernel_rfl) (by kernel_rfl) (by kernel_rfl) ?q19 ?y19 hH ?r19
              case h19 => (simp only [List.getElem?_toArray, List.getElem?_cons_zero, List.getElem?_cons_succ]; rfl)
              case q19 => exact fun _ _ _ h => h
              case y19 => (refine Or.inl ⟨by rfl, ?_⟩; intro W hSw; go_simp; try with_reducible rfl)
              simp only [Act.put, List.setIfInBounds_toArray, List.set_cons_zero, List.set_cons_succ]
              refine wpAnyH_done (by kernel_rfl) ?_ _
              go_wp2
              refine bodyPost_ret (results_dg Ybad.results13 _ _ rfl rfl (dg_blk (Lies.res (by assumption)) _ _ _ _ _ _ _)) rfl ⟨by rw [Int.toNat_natCast, hm3], below_dg w _ (Lies.below (by assumption)) _ _ _ _ _ _ _⟩
            exact AllReadyH.nil
          exact AllReadyH.nil
        exact AllReadyH.nil
      refine AllReadyH.cons (o := ?o13x10) ?h13x10 (fun K hK => ?b13x10) ?c13x10
      case h13x10 => (simp only [List.getElem?_toArray, List.getElem?_cons_zero, List.getElem?_cons_succ]; rfl)
      case b13x10 =>
        go_simp
        refine (g8 _ Lc.drew).mono ?_
        rintro e w' ⟨rfl, Lw, s8, s24, k0, k1, k2, k3, k4, k5, k6, kf⟩
        go_wp2_with fail
        refine hK.out _ _ ⟨s8, s24⟩ (fun hH => ?_)
        clear hK K
        try simp only [Act.put, List.setIfInBounds_toArray, List.set_cons_zero, List.set_cons_succ]
        refine wpAnyH_ready (rs := [4, 15]) (by kernel_rfl) (by simp) ?_
        refine AllReadyH.cons (o := ?o21x4) ?h21x4 (fun K hK => ?b21x4) ?c21x4
        case h21x4 => (simp only [List.getElem?_toArray, List.getElem?_cons_zero, List.getElem?_cons_succ]; rfl)
        case b21x4 =>
          go_simp
          refine hK.out _ _ hH (fun hH => ?_)
          clear hK K
          try simp only [Act.put, List.setIfInBounds_toArray, List.set_cons_zero, List.set_cons_succ]
          refine wpAnyH_take (i := 5) (oi := ?o22) (v := ?v22) ?h22 (by kernel_rfl) (by kernel_rfl) (by kernel_rfl) ?q22 ?y22 hH ?r22
          case h22 => (simp only [List.getElem?_toArray, List.getElem?_cons_zero, List.getElem?_cons_succ]; rfl)
          case q22 => exact fun _ _ _ h => h
          case y22 => (refine Or.inl ⟨by rfl, ?_⟩; intro W hSw; go_simp; try with_reducible rfl)
          simp only [Act.put, List.setIfInBounds_toArray, List.set_cons_zero, List.set_cons_succ]
          refine wpAnyH_ready (rs := [15]) (by kernel_rfl) (by simp) ?_
          refine AllReadyH.cons (o := ?o23x15) ?h23x15 (fun K hK => ?b23x15) ?c23x15
          case h23x15 => (simp only [List.getElem?_toArray, List.getElem?_cons_zero, List.getElem?_cons_succ]; rfl)
          case b23x15 =>
            go_simp
            refine (g24 _ Lw).mono ?_
            rintro e w' ⟨rfl, Lw, s8, s24, k0, k1, k2, k3, k4, k5, k6, kf⟩
            go_wp2_with fail
            refine hK.out _ _ ⟨s8, s24⟩ (fun hH => ?_)
            clear hK K
            try simp only [Act.put, List.setIfInBounds_toArray, List.set_cons_zero, List.set_cons_succ]
            refine wpAnyH_take (i := 16) (oi := ?o24) (v := ?v24) ?h24 (by kernel_rfl) (by kernel_rfl) (by kernel_rfl) ?q24 ?y24 hH ?r24
            case h24 => (simp only [List.getElem?_toArray, List.getElem?_cons_zero, List.getElem?_cons_succ]; rfl)
            case q24 => exact fun _ _ _ h => h
            case y24 => (refine Or.inl ⟨by rfl, ?_⟩; intro W hSw; go_simp; try with_reducible rfl)
            simp only [Act.put, List.setIfInBounds_toArray, List.set_cons_zero, List.set_cons_succ]
            refine wpAnyH_ready (rs := [17]) (by kernel_rfl) (by simp) ?_
            refine AllReadyH.cons (o := ?o25x17) ?h25x17 (fun K hK => ?b25x17) ?c25x17
            case h25x17 => (simp only [List.getElem?_toArray, List.getElem?_cons_zero, List.getElem?_cons_succ]; rfl)
            case b25x17 =>
              go_simp
              refine hK.out _ _ (by simp [*, rangeAt_far]) (fun hH => ?_)
              clear hK K
              try simp only [Act.put, List.setIfInBounds_toArray, List.set_cons_zero, List.set_cons_succ]
              refine wpAnyH_take (i := 18) (oi := ?o26) (v := ?v26) ?h26 (by kernel_rfl) (by kernel_rfl) (by kernel_rfl) ?q26 ?y26 hH ?r26
              case h26 => (simp only [List.getElem?_toArray, List.getElem?_cons_zero, List.getElem?_cons_succ]; rfl)
              case q26 => exact fun _ _ _ h => h
              case y26 => (refine Or.inl ⟨by rfl, ?_⟩; intro W hSw; go_simp; try with_reducible rfl)
              simp only [Act.put, List.setIfInBounds_toArray, List.set_cons_zero, List.set_cons_succ]
              refine wpAnyH_done (by kernel_rfl) ?_ _
              go_wp2
              refine bodyPost_ret (results_dg Ybad.results13 _ _ rfl rfl (dg_blk (Lies.res (by assumption)) _ _ _ _ _ _ _)) rfl ⟨by rw [Int.toNat_natCast, hm3], below_dg w _ (Lies.below (by assumption)) _ _ _ _ _ _ _⟩
            exact AllReadyH.nil
          exact AllReadyH.nil
        refine AllReadyH.cons (o := ?o21x15) ?h21x15 (fun K hK => ?b21x15) ?c21x15
        case h21x15 => (simp only [List.getElem?_toArray, List.getElem?_cons_zero, List.getElem?_cons_succ]; rfl)
        case b21x15 =>
          go_simp
          refine (g24 _ Lw).mono ?_
          rintro e w' ⟨rfl, Lw, s8, s24, k0, k1, k2, k3, k4, k5, k6, kf⟩
          go_wp2_with fail
          refine hK.out _ _ ⟨s8, s24⟩ (fun hH => ?_)
          clear hK K
          try simp only [Act.put, List.setIfInBounds_toArray, List.set_cons_zero, List.set_cons_succ]
          refine wpAnyH_ready (rs := [4]) (by kernel_rfl) (by simp) ?_
          refine AllReadyH.cons (o := ?o28x4) ?h28x4 (fun K hK => ?b28x4) ?c28x4
          case h28x4 => (simp only [List.getElem?_toArray, List.getElem?_cons_zero, List.getElem?_cons_succ]; rfl)
          case b28x4 =>
            go_simp
            refine hK.out _ _ hH (fun hH => ?_)
            clear hK K
            try simp only [Act.put, List.setIfInBounds_toArray, List.set_cons_zero, List.set_cons_succ]
            refine wpAnyH_take (i := 5) (oi := ?o29) (v := ?v29) ?h29 (by kernel_rfl) (by kernel_rfl) (by kernel_rfl) ?q29 ?y29 hH ?r29
            case h29 => (simp only [List.getElem?_toArray, List.getElem?_cons_zero, List.getElem?_cons_succ]; rfl)
            case q29 => exact fun _ _ _ h => h
            case y29 => (refine Or.inl ⟨by rfl, ?_⟩; intro W hSw; go_simp; try with_reducible rfl)
            simp only [Act.put, List.setIfInBounds_toArray, List.set_cons_zero, List.set_cons_succ]
            refine wpAnyH_take (i := 16) (oi := ?o30) (v := ?v30) ?h30 (by kernel_rfl) (by kernel_rfl) (by kernel_rfl) ?q30 ?y30 hH ?r30
            case h30 => (simp only [List.getElem?_toArray, List.getElem?_cons_zero, List.getElem?_cons_succ]; rfl)
            case q30 => exact fun _ _ _ h => h
            case y30 => (refine Or.inl ⟨by rfl, ?_⟩; intro W hSw; go_simp; try with_reducible rfl)
            simp only [Act.put, List.setIfInBounds_toArray, List.set_cons_zero, List.set_cons_succ]
            refine wpAnyH_ready (rs := [17]) (by kernel_rfl) (by simp) ?_
            refine AllReadyH.cons (o := ?o31x17) ?h31x17 (fun K hK => ?b31x17) ?c31x17
            case h31x17 => (simp only [List.getElem?_toArray, List.getElem?_cons_zero, List.getElem?_cons_succ]; rfl)
            case b31x17 =>
              go_simp
              refine hK.out _ _ (by simp [*, rangeAt_far]) (fun hH => ?_)
              clear hK K
              try simp only [Act.put, List.setIfInBounds_toArray, List.set_cons_zero, List.set_cons_succ]
              refine wpAnyH_take (i := 18) (oi := ?o32) (v := ?v32) ?h32 (by kernel_rfl) (by kernel_rfl) (by kernel_rfl) ?q32 ?y32 hH ?r32
              case h32 => (simp only [List.getElem?_toArray, List.getElem?_cons_zero, List.getElem?_cons_succ]; rfl)
              case q32 => exact fun _ _ _ h => h
              case y32 => (refine Or.inl ⟨by rfl, ?_⟩; intro W hSw; go_simp; try with_reducible rfl)
              simp only [Act.put, List.setIfInBounds_toArray, List.set_cons_zero, List.set_cons_succ]
              refine wpAnyH_done (by kernel_rfl) ?_ _
              go_wp2
              refine bodyPost_ret (results_dg Ybad.results13 _ _ rfl rfl (dg_blk (Lies.res (by assumption)) _ _ _ _ _ _ _)) rfl ⟨by rw [Int.toNat_natCast, hm3], below_dg w _ (Lies.below (by assumption)) _ _ _ _ _ _ _⟩
            exact AllReadyH.nil
          exact AllReadyH.nil
        exact AllReadyH.nil
      exact AllReadyH.nil
    · have hm1 : (n : Int) < (t : Int) := by omega
      have hm2 : ¬ (t : Int) ≤ (n : Int) := by omega
      have hm3 : min t n = n := by omega
      have hm5 : n < t := by omega
      have hm6 : n ≤ cap := by omega
      have hm7 : (if (n : Int) < (t : Int) then (n : Int) else (t : Int)) = (n : Int) := if_pos hm1
      have hm4 : (n : Int) ≤ (t : Int) := by omega
      have z7 : (n : Int) ≤ (cap : Int) := by omega
      refine wp_region_held_drew (S := fun W => W.rangeAt fb (o + 8) (rowL X 8) ∧ W.rangeAt fb (o + 24) (rowL X 24)) (by kernel_rfl) (by simp [*]) (fun hH => ?_)
      refine wpAnyH_take (i := 0) (oi := ?o34) (v := ?v34) ?h34 (by kernel_rfl) (by kernel_rfl) (by kernel_rfl) ?q34 ?y34 hH ?r34
      case h34 => (simp only [List.getElem?_toArray, List.getElem?_cons_zero]; rfl)
      case q34 => exact fun _ _ _ h => h
      case y34 => (refine Or.inl ⟨by rfl, ?_⟩; intro W hSw; go_simp; try with_reducible rfl)
      simp only [Act.put, List.setIfInBounds_toArray, List.set_cons_zero, List.set_cons_succ]
      refine wpAnyH_take (i := 1) (oi := ?o35) (v := ?v35) ?h35 (by kernel_rfl) (by kernel_rfl) (by kernel_rfl) ?q35 ?y35 hH ?r35
      case h35 => (simp only [List.getElem?_toArray, List.getElem?_cons_zero, List.getElem?_cons_succ]; rfl)
      case q35 => exact fun _ _ _ h => h
      case y35 => (refine Or.inl ⟨by rfl, ?_⟩; intro W hSw; go_simp; try with_reducible rfl)
      simp only [Act.put, List.setIfInBounds_toArray, List.set_cons_zero, List.set_cons_succ]
      refine wpAnyH_take (i := 2) (oi := ?o36) (v := ?v36) ?h36 (by kernel_rfl) (by kernel_rfl) (by kernel_rfl) ?q36 ?y36 hH ?r36
      case h36 => (simp only [List.getElem?_toArray, List.getElem?_cons_zero, List.getElem?_cons_succ]; rfl)
      case q36 => exact fun _ _ _ h => h
      case y36 => (refine Or.inl ⟨by rfl, ?_⟩; intro W hSw; go_simp; try with_reducible rfl)
      simp only [Act.put, List.setIfInBounds_toArray, List.set_cons_zero, List.set_cons_succ]
      refine wpAnyH_take (i := 3) (oi := ?o37) (v := ?v37) ?h37 (by kernel_rfl) (by kernel_rfl) (by kernel_rfl) ?q37 ?y37 hH ?r37
      case h37 => (simp only [List.getElem?_toArray, List.getElem?_cons_zero, List.getElem?_cons_succ]; rfl)
      case q37 => exact fun _ _ _ h => h
      case y37 => (refine Or.inl ⟨by rfl, ?_⟩; intro W hSw; go_simp; try with_reducible rfl)
      simp only [Act.put, List.setIfInBounds_toArray, List.set_cons_zero, List.set_cons_succ]
      refine wpAnyH_take (i := 6) (oi := ?o38) (v := ?v38) ?h38 (by kernel_rfl) (by kernel_rfl) (by kernel_rfl) ?q38 ?y38 hH ?r38
      case h38 => (simp only [List.getElem?_toArray, List.getElem?_cons_zero, List.getElem?_cons_succ]; rfl)
      case q38 => exact fun _ _ _ h => h
      case y38 => (refine Or.inl ⟨by rfl, ?_⟩; intro W hSw; go_simp; try with_reducible rfl)
      simp only [Act.put, List.setIfInBounds_toArray, List.set_cons_zero, List.set_cons_succ]
      refine wpAnyH_take (i := 7) (oi := ?o39) (v := ?v39) ?h39 (by kernel_rfl) (by kernel_rfl) (by kernel_rfl) ?q39 ?y39 hH ?r39
      case h39 => (simp only [List.getElem?_toArray, List.getElem?_cons_zero, List.getElem?_cons_succ]; rfl)
      case q39 => exact fun _ _ _ h => h
      case y39 => (refine Or.inl ⟨by rfl, ?_⟩; intro W hSw; go_simp; try with_reducible rfl)
      simp only [Act.put, List.setIfInBounds_toArray, List.set_cons_zero, List.set_cons_succ]
      refine wpAnyH_take (i := 8) (oi := ?o40) (v := ?v40) ?h40 (by kernel_rfl) (by kernel_rfl) (by kernel_rfl) ?q40 ?y40 hH ?r40
      case h40 => (simp only [List.getElem?_toArray, List.getElem?_cons_zero, List.getElem?_cons_succ]; rfl)
      case q40 => exact fun _ _ _ h => h
      case y40 => (refine Or.inl ⟨by rfl, ?_⟩; intro W hSw; go_simp; try with_reducible rfl)
      simp only [Act.put, List.setIfInBounds_toArray, List.set_cons_zero, List.set_cons_succ]
      refine wpAnyH_take (i := 9) (oi := ?o41) (v := .agg (rowL X 8).toArray) ?h41 (by kernel_rfl) (by kernel_rfl) (by kernel_rfl) ?q41 ?y41 hH ?r41
      case h41 => (simp only [List.getElem?_toArray, List.getElem?_cons_zero, List.getElem?_cons_succ]; rfl)
      case q41 => exact fun _ _ _ h => h
      case y41 => exact yieldsIf_load_mid (by rfl) _ _ rfl fb (o + 8) rfl (rowL X 8) _ (fun W hW => hW.1) un rfl in8
      simp only [Act.put, List.setIfInBounds_toArray, List.set_cons_zero, List.set_cons_succ]
      refine wpAnyH_take (i := 11) (oi := ?o42) (v := ?v42) ?h42 (by kernel_rfl) (by kernel_rfl) (by kernel_rfl) ?q42 ?y42 hH ?r42
      case h42 => (simp only [List.getElem?_toArray, List.getElem?_cons_zero, List.getElem?_cons_succ]; rfl)
      case q42 => exact fun _ _ _ h => h
      case y42 => (refine Or.inl ⟨by rfl, ?_⟩; intro W hSw; go_simp; try with_reducible rfl)
      simp only [Act.put, List.setIfInBounds_toArray, List.set_cons_zero, List.set_cons_succ]
      refine wpAnyH_take (i := 12) (oi := ?o43) (v := ?v43) ?h43 (by kernel_rfl) (by kernel_rfl) (by kernel_rfl) ?q43 ?y43 hH ?r43
      case h43 => (simp only [List.getElem?_toArray, List.getElem?_cons_zero, List.getElem?_cons_succ]; rfl)
      case q43 => exact fun _ _ _ h => h
      case y43 => (refine Or.inl ⟨by rfl, ?_⟩; intro W hSw; go_simp; try with_reducible rfl)
      simp only [Act.put, List.setIfInBounds_toArray, List.set_cons_zero, List.set_cons_succ]
      refine wpAnyH_take (i := 13) (oi := ?o44) (v := ?v44) ?h44 (by kernel_rfl) (by kernel_rfl) (by kernel_rfl) ?q44 ?y44 hH ?r44
      case h44 => (simp only [List.getElem?_toArray, List.getElem?_cons_zero, List.getElem?_cons_succ]; rfl)
      case q44 => exact fun _ _ _ h => h
      case y44 => (refine Or.inl ⟨by rfl, ?_⟩; intro W hSw; go_simp; try with_reducible rfl)
      simp only [Act.put, List.setIfInBounds_toArray, List.set_cons_zero, List.set_cons_succ]
      refine wpAnyH_take (i := 14) (oi := ?o45) (v := .agg (rowL X 24).toArray) ?h45 (by kernel_rfl) (by kernel_rfl) (by kernel_rfl) ?q45 ?y45 hH ?r45
      case h45 => (simp only [List.getElem?_toArray, List.getElem?_cons_zero, List.getElem?_cons_succ]; rfl)
      case q45 => exact fun _ _ _ h => h
      case y45 => exact yieldsIf_load_mid (by rfl) _ _ rfl fb (o + 24) rfl (rowL X 24) _ (fun W hW => hW.2) un rfl in24
      simp only [Act.put, List.setIfInBounds_toArray, List.set_cons_zero, List.set_cons_succ]
      refine wpAnyH_ready (rs := [4, 10]) (by kernel_rfl) (by simp) ?_
      refine AllReadyH.cons (o := ?o46x4) ?h46x4 (fun K hK => ?b46x4) ?c46x4
      case h46x4 => (simp only [List.getElem?_toArray, List.getElem?_cons_zero, List.getElem?_cons_succ]; rfl)
      case b46x4 =>
        go_simp
        refine hK.out _ _ hH (fun hH => ?_)
        clear hK K
        try simp only [Act.put, List.setIfInBounds_toArray, List.set_cons_zero, List.set_cons_succ]
        refine wpAnyH_take (i := 5) (oi := ?o47) (v := ?v47) ?h47 (by kernel_rfl) (by kernel_rfl) (by kernel_rfl) ?q47 ?y47 hH ?r47
        case h47 => (simp only [List.getElem?_toArray, List.getElem?_cons_zero, List.getElem?_cons_succ]; rfl)
        case q47 => exact fun _ _ _ h => h
        case y47 => (refine Or.inl ⟨by rfl, ?_⟩; intro W hSw; go_simp; try with_reducible rfl)
        simp only [Act.put, List.setIfInBounds_toArray, List.set_cons_zero, List.set_cons_succ]
        refine wpAnyH_ready (rs := [10]) (by kernel_rfl) (by simp) ?_
        refine AllReadyH.cons (o := ?o48x10) ?h48x10 (fun K hK => ?b48x10) ?c48x10
        case h48x10 => (simp only [List.getElem?_toArray, List.getElem?_cons_zero, List.getElem?_cons_succ]; rfl)
        case b48x10 =>
          go_simp
          refine (g8 _ Lc.drew).mono ?_
          rintro e w' ⟨rfl, Lw, s8, s24, k0, k1, k2, k3, k4, k5, k6, kf⟩
          go_wp2_with fail
          refine hK.out _ _ ⟨s8, s24⟩ (fun hH => ?_)
          clear hK K
          try simp only [Act.put, List.setIfInBounds_toArray, List.set_cons_zero, List.set_cons_succ]
          refine wpAnyH_ready (rs := [15]) (by kernel_rfl) (by simp) ?_
          refine AllReadyH.cons (o := ?o49x15) ?h49x15 (fun K hK => ?b49x15) ?c49x15
          case h49x15 => (simp only [List.getElem?_toArray, List.getElem?_cons_zero, List.getElem?_cons_succ]; rfl)
          case b49x15 =>
            go_simp
            refine (g24 _ Lw).mono ?_
            rintro e w' ⟨rfl, Lw, s8, s24, k0, k1, k2, k3, k4, k5, k6, kf⟩
            go_wp2_with fail
            refine hK.out _ _ ⟨s8, s24⟩ (fun hH => ?_)
            clear hK K
            try simp only [Act.put, List.setIfInBounds_toArray, List.set_cons_zero, List.set_cons_succ]
            refine wpAnyH_take (i := 16) (oi := ?o50) (v := ?v50) ?h50 (by kernel_rfl) (by kernel_rfl) (by kernel_rfl) ?q50 ?y50 hH ?r50
            case h50 => (simp only [List.getElem?_toArray, List.getElem?_cons_zero, List.getElem?_cons_succ]; rfl)
            case q50 => exact fun _ _ _ h => h
            case y50 => (refine Or.inl ⟨by rfl, ?_⟩; intro W hSw; go_simp; try with_reducible rfl)
            simp only [Act.put, List.setIfInBounds_toArray, List.set_cons_zero, List.set_cons_succ]
            refine wpAnyH_ready (rs := [17]) (by kernel_rfl) (by simp) ?_
            refine AllReadyH.cons (o := ?o51x17) ?h51x17 (fun K hK => ?b51x17) ?c51x17
            case h51x17 => (simp only [List.getElem?_toArray, List.getElem?_cons_zero, List.getElem?_cons_succ]; rfl)
            case b51x17 =>
              go_simp
              refine hK.out _ _ (by simp [*, rangeAt_far]) (fun hH => ?_)
              clear hK K
              try simp only [Act.put, List.setIfInBounds_toArray, List.set_cons_zero, List.set_cons_succ]
              refine wpAnyH_take (i := 18) (oi := ?o52) (v := ?v52) ?h52 (by kernel_rfl) (by kernel_rfl) (by kernel_rfl) ?q52 ?y52 hH ?r52
              case h52 => (simp only [List.getElem?_toArray, List.getElem?_cons_zero, List.getElem?_cons_succ]; rfl)
              case q52 => exact fun _ _ _ h => h
              case y52 => (refine Or.inl ⟨by rfl, ?_⟩; intro W hSw; go_simp; try with_reducible rfl)
              simp only [Act.put, List.setIfInBounds_toArray, List.set_cons_zero, List.set_cons_succ]
              refine wpAnyH_done (by kernel_rfl) ?_ _
              go_wp2
              refine bodyPost_ret (results_dg Ybad.results13 _ _ rfl rfl (dg_blk (Lies.res (by assumption)) _ _ _ _ _ _ _)) rfl ⟨by rw [Int.toNat_natCast, hm3], below_dg w _ (Lies.below (by assumption)) _ _ _ _ _ _ _⟩
            exact AllReadyH.nil
          exact AllReadyH.nil
        exact AllReadyH.nil
      refine AllReadyH.cons (o := ?o46x10) ?h46x10 (fun K hK => ?b46x10) ?c46x10
      case h46x10 => (simp only [List.getElem?_toArray, List.getElem?_cons_zero, List.getElem?_cons_succ]; rfl)
      case b46x10 =>
        go_simp
        refine (g8 _ Lc.drew).mono ?_
        rintro e w' ⟨rfl, Lw, s8, s24, k0, k1, k2, k3, k4, k5, k6, kf⟩
        go_wp2_with fail
        refine hK.out _ _ ⟨s8, s24⟩ (fun hH => ?_)
        clear hK K
        try simp only [Act.put, List.setIfInBounds_toArray, List.set_cons_zero, List.set_cons_succ]
        refine wpAnyH_ready (rs := [4, 15]) (by kernel_rfl) (by simp) ?_
        refine AllReadyH.cons (o := ?o54x4) ?h54x4 (fun K hK => ?b54x4) ?c54x4
        case h54x4 => (simp only [List.getElem?_toArray, List.getElem?_cons_zero, List.getElem?_cons_succ]; rfl)
        case b54x4 =>
          go_simp
          refine hK.out _ _ hH (fun hH => ?_)
          clear hK K
          try simp only [Act.put, List.setIfInBounds_toArray, List.set_cons_zero, List.set_cons_succ]
          refine wpAnyH_take (i := 5) (oi := ?o55) (v := ?v55) ?h55 (by kernel_rfl) (by kernel_rfl) (by kernel_rfl) ?q55 ?y55 hH ?r55
          case h55 => (simp only [List.getElem?_toArray, List.getElem?_cons_zero, List.getElem?_cons_succ]; rfl)
          case q55 => exact fun _ _ _ h => h
          case y55 => (refine Or.inl ⟨by rfl, ?_⟩; intro W hSw; go_simp; try with_reducible rfl)
          simp only [Act.put, List.setIfInBounds_toArray, List.set_cons_zero, List.set_cons_succ]
          refine wpAnyH_ready (rs := [15]) (by kernel_rfl) (by simp) ?_
          refine AllReadyH.cons (o := ?o56x15) ?h56x15 (fun K hK => ?b56x15) ?c56x15
          case h56x15 => (simp only [List.getElem?_toArray, List.getElem?_cons_zero, List.getElem?_cons_succ]; rfl)
          case b56x15 =>
            go_simp
            refine (g24 _ Lw).mono ?_
            rintro e w' ⟨rfl, Lw, s8, s24, k0, k1, k2, k3, k4, k5, k6, kf⟩
            go_wp2_with fail
            refine hK.out _ _ ⟨s8, s24⟩ (fun hH => ?_)
            clear hK K
            try simp only [Act.put, List.setIfInBounds_toArray, List.set_cons_zero, List.set_cons_succ]
            refine wpAnyH_take (i := 16) (oi := ?o57) (v := ?v57) ?h57 (by kernel_rfl) (by kernel_rfl) (by kernel_rfl) ?q57 ?y57 hH ?r57
            case h57 => (simp only [List.getElem?_toArray, List.getElem?_cons_zero, List.getElem?_cons_succ]; rfl)
            case q57 => exact fun _ _ _ h => h
            case y57 => (refine Or.inl ⟨by rfl, ?_⟩; intro W hSw; go_simp; try with_reducible rfl)
            simp only [Act.put, List.setIfInBounds_toArray, List.set_cons_zero, List.set_cons_succ]
            refine wpAnyH_ready (rs := [17]) (by kernel_rfl) (by simp) ?_
            refine AllReadyH.cons (o := ?o58x17) ?h58x17 (fun K hK => ?b58x17) ?c58x17
            case h58x17 => (simp only [List.getElem?_toArray, List.getElem?_cons_zero, List.getElem?_cons_succ]; rfl)
            case b58x17 =>
              go_simp
              refine hK.out _ _ (by simp [*, rangeAt_far]) (fun hH => ?_)
              clear hK K
              try simp only [Act.put, List.setIfInBounds_toArray, List.set_cons_zero, List.set_cons_succ]
              refine wpAnyH_take (i := 18) (oi := ?o59) (v := ?v59) ?h59 (by kernel_rfl) (by kernel_rfl) (by kernel_rfl) ?q59 ?y59 hH ?r59
              case h59 => (simp only [List.getElem?_toArray, List.getElem?_cons_zero, List.getElem?_cons_succ]; rfl)
              case q59 => exact fun _ _ _ h => h
              case y59 => (refine Or.inl ⟨by rfl, ?_⟩; intro W hSw; go_simp; try with_reducible rfl)
              simp only [Act.put, List.setIfInBounds_toArray, List.set_cons_zero, List.set_cons_succ]
              refine wpAnyH_done (by kernel_rfl) ?_ _
              go_wp2
              refine bodyPost_ret (results_dg Ybad.results13 _ _ rfl rfl (dg_blk (Lies.res (by assumption)) _ _ _ _ _ _ _)) rfl ⟨by rw [Int.toNat_natCast, hm3], below_dg w _ (Lies.below (by assumption)) _ _ _ _ _ _ _⟩
            exact AllReadyH.nil
          exact AllReadyH.nil
        refine AllReadyH.cons (o := ?o54x15) ?h54x15 (fun K hK => ?b54x15) ?c54x15
        case h54x15 => (simp only [List.getElem?_toArray, List.getElem?_cons_zero, List.getElem?_cons_succ]; rfl)
        case b54x15 =>
          go_simp
          refine (g24 _ Lw).mono ?_
          rintro e w' ⟨rfl, Lw, s8, s24, k0, k1, k2, k3, k4, k5, k6, kf⟩
          go_wp2_with fail
          refine hK.out _ _ ⟨s8, s24⟩ (fun hH => ?_)
          clear hK K
          try simp only [Act.put, List.setIfInBounds_toArray, List.set_cons_zero, List.set_cons_succ]
          refine wpAnyH_ready (rs := [4]) (by kernel_rfl) (by simp) ?_
          refine AllReadyH.cons (o := ?o61x4) ?h61x4 (fun K hK => ?b61x4) ?c61x4
          case h61x4 => (simp only [List.getElem?_toArray, List.getElem?_cons_zero, List.getElem?_cons_succ]; rfl)
          case b61x4 =>
            go_simp
            refine hK.out _ _ hH (fun hH => ?_)
            clear hK K
            try simp only [Act.put, List.setIfInBounds_toArray, List.set_cons_zero, List.set_cons_succ]
            refine wpAnyH_take (i := 5) (oi := ?o62) (v := ?v62) ?h62 (by kernel_rfl) (by kernel_rfl) (by kernel_rfl) ?q62 ?y62 hH ?r62
            case h62 => (simp only [List.getElem?_toArray, List.getElem?_cons_zero, List.getElem?_cons_succ]; rfl)
            case q62 => exact fun _ _ _ h => h
            case y62 => (refine Or.inl ⟨by rfl, ?_⟩; intro W hSw; go_simp; try with_reducible rfl)
            simp only [Act.put, List.setIfInBounds_toArray, List.set_cons_zero, List.set_cons_succ]
            refine wpAnyH_take (i := 16) (oi := ?o63) (v := ?v63) ?h63 (by kernel_rfl) (by kernel_rfl) (by kernel_rfl) ?q63 ?y63 hH ?r63
            case h63 => (simp only [List.getElem?_toArray, List.getElem?_cons_zero, List.getElem?_cons_succ]; rfl)
            case q63 => exact fun _ _ _ h => h
            case y63 => (refine Or.inl ⟨by rfl, ?_⟩; intro W hSw; go_simp; try with_reducible rfl)
            simp only [Act.put, List.setIfInBounds_toArray, List.set_cons_zero, List.set_cons_succ]
            refine wpAnyH_ready (rs := [17]) (by kernel_rfl) (by simp) ?_
            refine AllReadyH.cons (o := ?o64x17) ?h64x17 (fun K hK => ?b64x17) ?c64x17
            case h64x17 => (simp only [List.getElem?_toArray, List.getElem?_cons_zero, List.getElem?_cons_succ]; rfl)
            case b64x17 =>
              go_simp
              refine hK.out _ _ (by simp [*, rangeAt_far]) (fun hH => ?_)
              clear hK K
              try simp only [Act.put, List.setIfInBounds_toArray, List.set_cons_zero, List.set_cons_succ]
              refine wpAnyH_take (i := 18) (oi := ?o65) (v := ?v65) ?h65 (by kernel_rfl) (by kernel_rfl) (by kernel_rfl) ?q65 ?y65 hH ?r65
              case h65 => (simp only [List.getElem?_toArray, List.getElem?_cons_zero, List.getElem?_cons_succ]; rfl)
              case q65 => exact fun _ _ _ h => h
              case y65 => (refine Or.inl ⟨by rfl, ?_⟩; intro W hSw; go_simp; try with_reducible rfl)
              simp only [Act.put, List.setIfInBounds_toArray, List.set_cons_zero, List.set_cons_succ]
              refine wpAnyH_done (by kernel_rfl) ?_ _
              go_wp2
              refine bodyPost_ret (results_dg Ybad.results13 _ _ rfl rfl (dg_blk (Lies.res (by assumption)) _ _ _ _ _ _ _)) rfl ⟨by rw [Int.toNat_natCast, hm3], below_dg w _ (Lies.below (by assumption)) _ _ _ _ _ _ _⟩
            exact AllReadyH.nil
          exact AllReadyH.nil
        exact AllReadyH.nil
      exact AllReadyH.nil
end Go.Proofs.YbulkweqDoor
