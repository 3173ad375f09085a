/-
  'IPDatagram' (7).
-/
import Derived.Test.YbulkweqDoorIp6
namespace Go.Proofs.YbulkweqDoor
open Go.RowKit Go.Deep

/-- The two results of 'IPDatagram'. -/
def ipVal (Z : Nat → Int) (fb L cap : Nat) (p4 p6 : Option Addr) : Out → Value
  | .bad => .tuple #[.agg dg0, .bool false]
  | .four p t => .tuple #[.agg (dgOf (.slice (some ⟨fb, p, none⟩) (min t (L - p)) (cap - p)) (v4 fun i => Z (p + (12 + i))) (v4 fun i => Z (p + (16 + i))) 0 0 p4), .bool true]
  | .six p t => .tuple #[.agg (dgOf (.slice (some ⟨fb, p, none⟩) (min t (L - p)) (cap - p)) (fun i => Z (p + i)) (fun i => Z (p + i)) 8 24 p6), .bool true]

/-- What lies while 'IPDatagram' runs. -/
structure Held (w W : World) : Prop where
  below : Below w.heap.size w W
  res : W.heap[w.heap.size]? = some (.cells dg0 38 (0, 0))
theorem Held.step {w W W' : World} (h : Held w W) (hB : Below W.heap.size W W') : Held w W' :=
  ⟨h.below.trans (hB.mono h.below.size), by rw [hB.block _ (blk_lt h.res)]; exact h.res⟩
theorem Held.cell {w W : World} (h : Held w W) {a : Addr} {v : Value} (hv : w.cell? a = some v) : W.cell? a = some v := by
  rw [h.below.cell (World.block_lt_of_cell? w _ hv)]; exact hv

theorem ipVal_form (Z : Nat → Int) (fb L cap : Nat) (p4 p6 : Option Addr) (o : Out) : ∃ ao sn sc v1 v2 v3 v4 v5 v6 b, ipVal Z fb L cap p4 p6 o = .tuple #[.agg #[.slice ao sn sc, .int .u64 v1, .int .u64 v2, .pointer v3, .int .u64 v4, .int .u64 v5, .pointer v6], .bool b] := by
  cases o <;> exact ⟨_, _, _, _, _, _, _, _, _, _, rfl⟩

theorem ipd_four (Z : Nat → Int) (hZ : ∀ i, 0 ≤ Z i ∧ Z i < 256) (fb L cap a : Nat) (A : Addr) (p4 p6 : Option Addr) (w W : World) (hc : ∀ i, i < L → w.cell? ⟨fb, i, none⟩ = some (.int .u8 (Z i))) (hL : L ≤ cap) (hcap : cap ≤ 4096)
    (h4 : w.cell? ⟨1, 0, none⟩ = some (.pointer p4)) (hW : Held w W) (ht : et Z a = 2048) (ha : a + 2 ≤ L) (hA0 : cap = a + 2 → A = ⟨fb, 0, none⟩) (hA1 : ¬ cap = a + 2 → A = ⟨fb, a + 2, none⟩) :
    Calls Ybad.prog 12 #[.slice (some A) (L - (a + 2)) (cap - (a + 2))] W fun e w' => e = .returned (ipVal Z fb L cap p4 p6 (outAt Z L a)) ∧ Held w w' := by
  by_cases h : cap = a + 2
  · obtain rfl := hA0 h
    have hbad : bad4a (fun i => Z (a + 2 + i)) (L - (a + 2)) := Or.inl (by omega)
    refine (ip4_bada (fun i => Z (a + 2 + i)) (fun i => hZ _) fb 0 (L - (a + 2)) (cap - (a + 2)) W (fun i hi => by omega) hbad (by omega)).mono ?_
    rintro e w' ⟨rfl, hB⟩
    exact ⟨by rw [outAt, if_pos ht, if_pos (Or.inl hbad)]; rfl, hW.step hB⟩
  · obtain rfl := hA1 h
    have hcW : ∀ i, i < L - (a + 2) → W.cell? ⟨fb, a + 2 + i, none⟩ = some (.int .u8 (Z (a + 2 + i))) := fun i hi => hW.cell (hc (a + 2 + i) (by omega))
    by_cases hbad : bad4a (fun i => Z (a + 2 + i)) (L - (a + 2))
    · refine (ip4_bada (fun i => Z (a + 2 + i)) (fun i => hZ _) fb (a + 2) (L - (a + 2)) (cap - (a + 2)) W hcW hbad (by omega)).mono ?_
      rintro e w' ⟨rfl, hB⟩
      exact ⟨by rw [outAt, if_pos ht, if_pos (Or.inl hbad)]; rfl, hW.step hB⟩
    · by_cases hbad2 : bad4b (fun i => Z (a + 2 + i))
      · refine (ip4_badb (fun i => Z (a + 2 + i)) (fun i => hZ _) fb (a + 2) (L - (a + 2)) (cap - (a + 2)) W hcW hbad hbad2 (by omega)).mono ?_
        rintro e w' ⟨rfl, hB⟩
        exact ⟨by rw [outAt, if_pos ht, if_pos (Or.inr hbad2)]; rfl, hW.step hB⟩
      · refine (ip4_good (fun i => Z (a + 2 + i)) (fun i => hZ _) fb (a + 2) (L - (a + 2)) (cap - (a + 2)) p4 W hcW (hW.cell h4) hbad hbad2 (by omega) (by omega)).mono ?_
        rintro e w' ⟨rfl, hB⟩
        exact ⟨by rw [outAt, if_pos ht, if_neg (fun hh => hh.elim hbad hbad2)]; rfl, hW.step hB⟩

theorem ipd_six (Z : Nat → Int) (hZ : ∀ i, 0 ≤ Z i ∧ Z i < 256) (fb L cap a : Nat) (A : Addr) (p4 p6 : Option Addr) (w W : World) (hc : ∀ i, i < L → w.cell? ⟨fb, i, none⟩ = some (.int .u8 (Z i))) (hL : L ≤ cap) (hcap : cap ≤ 4096)
    (h6 : w.cell? ⟨2, 0, none⟩ = some (.pointer p6)) (hW : Held w W) (ht : et Z a = 34525) (ha : a + 2 ≤ L) (hA0 : cap = a + 2 → A = ⟨fb, 0, none⟩) (hA1 : ¬ cap = a + 2 → A = ⟨fb, a + 2, none⟩) :
    Calls Ybad.prog 13 #[.slice (some A) (L - (a + 2)) (cap - (a + 2))] W fun e w' => e = .returned (ipVal Z fb L cap p4 p6 (outAt Z L a)) ∧ Held w w' := by
  have ht' : ¬ et Z a = 2048 := by omega
  by_cases h : cap = a + 2
  · obtain rfl := hA0 h
    have hbad : bad6a (fun i => Z (a + 2 + i)) (L - (a + 2)) := Or.inl (by omega)
    refine (ip6_bada (fun i => Z (a + 2 + i)) (fun i => hZ _) fb 0 (L - (a + 2)) (cap - (a + 2)) W (fun i hi => by omega) hbad (by omega)).mono ?_
    rintro e w' ⟨rfl, hB⟩
    exact ⟨by rw [outAt, if_neg ht', if_pos ht, if_pos hbad]; rfl, hW.step hB⟩
  · obtain rfl := hA1 h
    have hcW : ∀ i, i < L - (a + 2) → W.cell? ⟨fb, a + 2 + i, none⟩ = some (.int .u8 (Z (a + 2 + i))) := fun i hi => hW.cell (hc (a + 2 + i) (by omega))
    by_cases hbad : bad6a (fun i => Z (a + 2 + i)) (L - (a + 2))
    · refine (ip6_bada (fun i => Z (a + 2 + i)) (fun i => hZ _) fb (a + 2) (L - (a + 2)) (cap - (a + 2)) W hcW hbad (by omega)).mono ?_
      rintro e w' ⟨rfl, hB⟩
      exact ⟨by rw [outAt, if_neg ht', if_pos ht, if_pos hbad]; rfl, hW.step hB⟩
    · refine (ip6_good (fun i => Z (a + 2 + i)) (fun i => hZ _) fb (a + 2) (L - (a + 2)) (cap - (a + 2)) p6 W hcW (hW.cell h6) hbad (by omega) (by omega)).mono ?_
      rintro e w' ⟨rfl, hB⟩
      exact ⟨by rw [outAt, if_neg ht', if_pos ht, if_neg hbad]; rfl, hW.step hB⟩

set_option maxRecDepth 100000 in
set_option maxHeartbeats 1000000 in
theorem ipd_any (Z : Nat → Int) (hZ : ∀ i, 0 ≤ Z i ∧ Z i < 256) (fb L cap : Nat) (p4 p6 : Option Addr) (w : World) (hc : ∀ i, i < L → w.cell? ⟨fb, i, none⟩ = some (.int .u8 (Z i))) (hL : L ≤ cap) (hcap : cap ≤ 4096)
    (h4 : w.cell? ⟨1, 0, none⟩ = some (.pointer p4)) (h6 : w.cell? ⟨2, 0, none⟩ = some (.pointer p6)) :
    Calls Ybad.prog 7 #[.slice (some ⟨fb, 0, none⟩) L cap] w fun e w' => e = .returned (ipVal Z fb L cap p4 p6 (out Z L)) ∧ Below w.heap.size w w' := by
  by_cases h14 : L < 14
  · have H : Hid (out Z L = .bad) := by show _ = _; rw [out, if_pos h14]
    have q : decide ((L : Int) < 14) = true := by simp; omega
    clear hc hZ
    go_enter Ybad.func7, Ybad.ntmps7
    go_wp2
    exact bodyPost_ret (v := .tuple #[.agg dg0, .bool false]) (by simp [results, Ybad.results7, go_sem]) rfl ⟨by rw [H.out]; rfl, (Below.refl _ _).alloc (Nat.le_refl _) _⟩
  · have H : Hid (out Z L = outOf Z L (findF Z L 2 12)) := by show _ = _; rw [out, if_neg h14]
    have q : decide ((L : Int) < 14) = false := by simp; omega
    have U : Hid (∀ a, a + 1 < L → ∀ W, Held w W → Calls Ybad.prog 11 #[.agg #[], .slice (some ⟨fb, a, none⟩) (L - a) (cap - a)] W fun e w' => e = .returned (.int .u16 (et Z a)) ∧ Held w w') := fun a ha W hW =>
      (uint16_any fb a (L - a) (cap - a) (Z a) (Z (a + 1)) W (by omega) (hW.cell (hc a (by omega))) (hW.cell (hc (a + 1) ha)) (hZ a).1 (hZ a).2 (hZ (a + 1)).1 (hZ (a + 1)).2).mono (by rintro e w' ⟨rfl, rfl⟩; exact ⟨rfl, hW.step (((Below.refl _ _).alloc (Nat.le_refl _) _).drew)⟩)
    have S0 : Held w (w.alloc (.cells dg0 38)) := ⟨(Below.refl _ _).alloc (Nat.le_refl _) _, blk_new w _⟩
    have HC : Hid (∀ i, i < L → w.cell? ⟨fb, i, none⟩ = some (.int .u8 (Z i))) := hc
    have HZ : Hid (∀ i, 0 ≤ Z i ∧ Z i < 256) := hZ
    have H4 : Hid (w.cell? ⟨1, 0, none⟩ = some (.pointer p4)) := h4
    have H6 : Hid (w.cell? ⟨2, 0, none⟩ = some (.pointer p6)) := h6
    clear hc hZ h4 h6
    have z0 : (12 : Int) ≤ (L : Int) := by omega
    have z1 : ¬ cap = 12 := by omega
    go_enter Ybad.func7, Ybad.ntmps7
    go_upto_region 4 with fail
    go_cut [5] (fun v wx => v = .int .u16 (et Z 12) ∧ Held w wx)
    case first =>
      go_region_with (go_at_call 11; refine (U.out 12 (by omega) _ ?hh).mono ?_; (case hh => exact S0.step (Below.refl _ _).drew); rintro e w' ⟨rfl, hW⟩)
      all_goals (go_wp2_with fail; go_meet; case rel => exact ⟨rfl, by assumption⟩)
    case rest =>
      obtain ⟨rfl, hW⟩ := hcut
      apply_assumption
      refine wp_seq_k (fun K hK => ?_)
      go_cut [4, 5] (fun va ve wx => ∃ a : Nat, va = .int .i64 (a : Int) ∧ ve = .int .u16 (et Z a) ∧ a + 2 ≤ L ∧ a ≤ 20 ∧ findF Z L 2 12 = some a ∧ Held w wx)
      case first =>
        go_wp2
        go_loopw [4, 5, 6] (fun va ve vk wr => ∃ k a : Nat, k ≤ 2 ∧ va = .int .i64 (a : Int) ∧ ve = .int .u16 (et Z a) ∧ vk = .int .i64 (k : Int) ∧ a = 12 + 4 * k ∧ a + 2 ≤ L ∧ findF Z L (2 - k) a = findF Z L 2 12 ∧ Held w wr) (fun _ _ vk _ => (2 - intOf vk).toNat)
        case atStart => exact ⟨0, 12, by omega, rfl, rfl, rfl, rfl, by omega, rfl, hW⟩
        case round =>
          obtain ⟨k, a, hk, rfl, rfl, rfl, hak, haL, hf, hWr⟩ := hrel
          have HF : Hid (findF Z L (2 - k) a = findF Z L 2 12) := hf
          have HA : Hid (a = 12 + 4 * k) := hak
          have HW : Hid (Held w wr) := hWr
          have ha24 : a ≤ 20 := by omega
          clear hf hak hWr
          by_cases h2 : k = 2
          · have HF2 : Hid (findF Z L 2 12 = some a) := by have := HF.out; rw [h2] at this; exact this.symm
            have kk : decide ((k : Int) < 2) = false := by simp; omega
            clear h2
            go_wp2
            go_meet
            case rel => exact ⟨a, rfl, rfl, haL, ha24, HF2.out, HW.out⟩
          · have kk : decide ((k : Int) < 2) = true := by simp; omega
            have wk : IntKind.i64.wrap ((k : Int) + 1) = ((k + 1 : Nat) : Int) := by rw [IntKind.wrap_i64]; omega
            obtain ⟨r, hr⟩ : ∃ r, 2 - k = r + 1 := ⟨1 - k, by omega⟩
            have HK : Hid (¬ k = 2) := h2
            have HR : Hid (2 - k = r + 1) := hr
            clear h2 hr
            have HE : Hid (findF Z L 2 12 = if tagged (et Z a) = true then (if L < a + 6 then none else findF Z L r (a + 4)) else some a) := by have := HF.out; rw [HR.out] at this; exact this.symm
            have wa : IntKind.i64.wrap ((a : Int) + 4) = ((a + 4 : Nat) : Int) := by rw [IntKind.wrap_i64]; omega
            have wa2 : IntKind.i64.wrap ((a : Int) + 4 + 2) = ((a + 4 + 2 : Nat) : Int) := by rw [IntKind.wrap_i64]; omega
            clear HF
            by_cases t1 : et Z a = 33024
            · have HT : Hid (tagged (et Z a) = true) := by show _ = _; rw [t1]; rfl
              by_cases hl : L < a + 6
              · have HF2 : Hid (findF Z L 2 12 = none) := by have := HE.out; rw [if_pos HT.out, if_pos hl] at this; exact this
                have ll : decide ((L : Int) < (a : Int) + 4 + 2) = true := by simp; omega
                clear HE
                have res := HW.out.res
                have k0 := cell_row res (i := 0) rfl
                have k1 := cell_row res (i := 1) rfl
                have k2 := cell_row res (i := 2) rfl
                have k3 := cell_row res (i := 3) rfl
                have k4 := cell_row res (i := 4) rfl
                have k5 := cell_row res (i := 5) rfl
                have k6 := cell_row res (i := 6) rfl
                have kf : ∀ i, wr.frozen? ⟨w.heap.size, i, none⟩ = false := fun _ => free_row res
                clear res
                go_wp2
                exact bodyPost_ret (results_dg Ybad.results7 _ _ rfl rfl (dg_blk HW.out.res _ _ _ _ _ _ _)) rfl ⟨by rw [H.out, HF2.out]; rfl, below_dg w _ HW.out.below _ _ _ _ _ _ _⟩
              · have HF2 : Hid (findF Z L r (a + 4) = findF Z L 2 12) := by have := HE.out; rw [if_pos HT.out, if_neg hl] at this; exact this.symm
                have ll : decide ((L : Int) < (a : Int) + 4 + 2) = false := by simp; omega
                have hq : a + 4 + 1 < L := by omega
                have z3 : (a : Int) + 4 ≤ (L : Int) := by omega
                have z4 : ¬ cap = a + 4 := by omega
                clear HE
                go_upto_region 11 with fail
                go_region_with (go_at_call 11; refine (U.out (a + 4) hq _ ?hh).mono ?_; (case hh => exact HW.out.step (Below.refl _ _).drew); rintro e w' ⟨rfl, hW'⟩)
                all_goals go_wp2
                all_goals (have hkk := HK.out; have haa := HA.out; have hrr := HR.out)
                all_goals (go_roundw; (case rel => exact ⟨k + 1, a + 4, by omega, by go_num, rfl, by go_num, by omega, by omega, by rw [show 2 - (k + 1) = r from by omega]; exact HF2.out, by assumption⟩); (case measure => simp [intOf]; omega))
            · by_cases t2 : et Z a = 34984
              · have HT : Hid (tagged (et Z a) = true) := by show _ = _; rw [t2]; rfl
                by_cases hl : L < a + 6
                · have HF2 : Hid (findF Z L 2 12 = none) := by have := HE.out; rw [if_pos HT.out, if_pos hl] at this; exact this
                  have ll : decide ((L : Int) < (a : Int) + 4 + 2) = true := by simp; omega
                  clear HE
                  have res := HW.out.res
                  have k0 := cell_row res (i := 0) rfl
                  have k1 := cell_row res (i := 1) rfl
                  have k2 := cell_row res (i := 2) rfl
                  have k3 := cell_row res (i := 3) rfl
                  have k4 := cell_row res (i := 4) rfl
                  have k5 := cell_row res (i := 5) rfl
                  have k6 := cell_row res (i := 6) rfl
                  have kf : ∀ i, wr.frozen? ⟨w.heap.size, i, none⟩ = false := fun _ => free_row res
                  clear res
                  go_wp2
                  exact bodyPost_ret (results_dg Ybad.results7 _ _ rfl rfl (dg_blk HW.out.res _ _ _ _ _ _ _)) rfl ⟨by rw [H.out, HF2.out]; rfl, below_dg w _ HW.out.below _ _ _ _ _ _ _⟩
                · have HF2 : Hid (findF Z L r (a + 4) = findF Z L 2 12) := by have := HE.out; rw [if_pos HT.out, if_neg hl] at this; exact this.symm
                  have ll : decide ((L : Int) < (a : Int) + 4 + 2) = false := by simp; omega
                  have hq : a + 4 + 1 < L := by omega
                  have z3 : (a : Int) + 4 ≤ (L : Int) := by omega
                  have z4 : ¬ cap = a + 4 := by omega
                  clear HE
                  go_upto_region 11 with fail
                  go_region_with (go_at_call 11; refine (U.out (a + 4) hq _ ?hh).mono ?_; (case hh => exact HW.out.step (Below.refl _ _).drew); rintro e w' ⟨rfl, hW'⟩)
                  all_goals go_wp2
                  all_goals (have hkk := HK.out; have haa := HA.out; have hrr := HR.out)
                  all_goals (go_roundw; (case rel => exact ⟨k + 1, a + 4, by omega, by go_num, rfl, by go_num, by omega, by omega, by rw [show 2 - (k + 1) = r from by omega]; exact HF2.out, by assumption⟩); (case measure => simp [intOf]; omega))
              · have HF2 : Hid (findF Z L 2 12 = some a) := by
                  have h : ¬ tagged (et Z a) = true := by simp [tagged]; exact ⟨t1, t2⟩
                  have := HE.out; rw [if_neg h] at this; exact this
                have b1 : (et Z a == 33024) = false := by simpa using t1
                have b2 : (et Z a == 34984) = false := by simpa using t2
                clear HE
                go_wp2
                go_meet
                case rel => exact ⟨a, rfl, rfl, haL, ha24, HF2.out, HW.out⟩
      case rest =>
        obtain ⟨a, rfl, rfl, ha, ha24, hf, hW⟩ := hcut
        have HO : Hid (out Z L = outAt Z L a) := by show _ = _; rw [H.out, hf]; rfl
        have wa : IntKind.i64.wrap ((a : Int) + 2) = ((a + 2 : Nat) : Int) := by rw [IntKind.wrap_i64]; omega
        have z3 : (a : Int) + 2 ≤ (L : Int) := by omega
        clear hf H U
        obtain ⟨ao, sn, sc, v1, v2, v3, v4, v5, v6, b, hv⟩ := ipVal_form Z fb L cap p4 p6 (out Z L)
        have HV : Hid (ipVal Z fb L cap p4 p6 (out Z L) = .tuple #[.agg #[.slice ao sn sc, .int .u64 v1, .int .u64 v2, .pointer v3, .int .u64 v4, .int .u64 v5, .pointer v6], .bool b]) := hv
        clear hv
        obtain ⟨A, hA, hA0, hA1⟩ : ∃ A : Addr, (if cap = a + 2 then some (⟨fb, 0, none⟩ : Addr) else some ⟨fb, a + 2, none⟩) = some A ∧ Hid (cap = a + 2 → A = ⟨fb, 0, none⟩) ∧ Hid (¬ cap = a + 2 → A = ⟨fb, a + 2, none⟩) := by
          by_cases h : cap = a + 2
          · exact ⟨⟨fb, 0, none⟩, by simp [h], fun _ => rfl, fun h' => absurd h h'⟩
          · exact ⟨⟨fb, a + 2, none⟩, by simp [h], fun h' => absurd h' h, fun _ => rfl⟩
        have C4 : Hid (∀ W, Held w W → et Z a = 2048 → Calls Ybad.prog 12 #[.slice (some A) (L - (a + 2)) (cap - (a + 2))] W fun e w' => e = .returned (.tuple #[.agg #[.slice ao sn sc, .int .u64 v1, .int .u64 v2, .pointer v3, .int .u64 v4, .int .u64 v5, .pointer v6], .bool b]) ∧ Held w w') := by
          intro W hW' ht
          have := ipd_four Z HZ.out fb L cap a A p4 p6 w W HC.out hL hcap H4.out hW' ht ha hA0.out hA1.out
          rw [← HO.out, HV.out] at this
          exact this
        have C6 : Hid (∀ W, Held w W → et Z a = 34525 → Calls Ybad.prog 13 #[.slice (some A) (L - (a + 2)) (cap - (a + 2))] W fun e w' => e = .returned (.tuple #[.agg #[.slice ao sn sc, .int .u64 v1, .int .u64 v2, .pointer v3, .int .u64 v4, .int .u64 v5, .pointer v6], .bool b]) ∧ Held w w') := by
          intro W hW' ht
          have := ipd_six Z HZ.out fb L cap a A p4 p6 w W HC.out hL hcap H6.out hW' ht ha hA0.out hA1.out
          rw [← HO.out, HV.out] at this
          exact this
        have HW : Hid (Held w wc) := hW
        clear hA0 hA1 HC HZ H4 H6
        apply_assumption
        by_cases t1 : et Z a = 2048
        · go_wp2_with (go_at_call 12; refine (C4.out _ ?hh t1).mono ?_; (case hh => exact HW.out); rintro e w' ⟨rfl, hW'⟩; have res := hW'.res; have k0 := cell_row res (i := 0) rfl; have k1 := cell_row res (i := 1) rfl; have k2 := cell_row res (i := 2) rfl; have k3 := cell_row res (i := 3) rfl; have k4 := cell_row res (i := 4) rfl; have k5 := cell_row res (i := 5) rfl; have k6 := cell_row res (i := 6) rfl; have kf : ∀ i, w'.frozen? ⟨w.heap.size, i, none⟩ = false := (fun _ => free_row res); clear res)
          all_goals exact bodyPost_ret (results_dg Ybad.results7 _ _ rfl rfl (dg_blk (Held.res (by assumption)) _ _ _ _ _ _ _)) rfl ⟨by rw [HV.out], below_dg w _ (Held.below (by assumption)) _ _ _ _ _ _ _⟩
        · by_cases t2 : et Z a = 34525
          · have b1 : (et Z a == 2048) = false := by simpa using t1
            go_wp2_with (go_at_call 13; refine (C6.out _ ?hh t2).mono ?_; (case hh => exact HW.out); rintro e w' ⟨rfl, hW'⟩; have res := hW'.res; have k0 := cell_row res (i := 0) rfl; have k1 := cell_row res (i := 1) rfl; have k2 := cell_row res (i := 2) rfl; have k3 := cell_row res (i := 3) rfl; have k4 := cell_row res (i := 4) rfl; have k5 := cell_row res (i := 5) rfl; have k6 := cell_row res (i := 6) rfl; have kf : ∀ i, w'.frozen? ⟨w.heap.size, i, none⟩ = false := (fun _ => free_row res); clear res)
            all_goals exact bodyPost_ret (results_dg Ybad.results7 _ _ rfl rfl (dg_blk (Held.res (by assumption)) _ _ _ _ _ _ _)) rfl ⟨by rw [HV.out], below_dg w _ (Held.below (by assumption)) _ _ _ _ _ _ _⟩
          · have hb : Hid (∀ cap, ipVal Z fb L cap p4 p6 (out Z L) = .tuple #[.agg dg0, .bool false]) := by intro cap; rw [HO.out, outAt, if_neg t1, if_neg t2]; rfl
            have b1 : (et Z a == 2048) = false := by simpa using t1
            have b2 : (et Z a == 34525) = false := by simpa using t2
            have res := HW.out.res
            have k0 := cell_row res (i := 0) rfl
            have k1 := cell_row res (i := 1) rfl
            have k2 := cell_row res (i := 2) rfl
            have k3 := cell_row res (i := 3) rfl
            have k4 := cell_row res (i := 4) rfl
            have k5 := cell_row res (i := 5) rfl
            have k6 := cell_row res (i := 6) rfl
            have kf : ∀ i, wc.frozen? ⟨w.heap.size, i, none⟩ = false := fun _ => free_row res
            clear res
            go_wp2
            all_goals exact bodyPost_ret (results_dg Ybad.results7 _ _ rfl rfl (dg_blk HW.out.res _ _ _ _ _ _ _)) rfl ⟨by rw [hb.out], below_dg w _ HW.out.below _ _ _ _ _ _ _⟩
end Go.Proofs.YbulkweqDoor
