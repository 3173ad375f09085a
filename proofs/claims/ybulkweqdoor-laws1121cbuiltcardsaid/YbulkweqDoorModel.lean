/-
  'zzs1121cmodel' (8).
-/
import Derived.Test.YbulkweqDoorPlain
namespace Go.Proofs.YbulkweqDoor
open Go.RowKit Go.Deep

set_option maxRecDepth 100000 in
set_option maxHeartbeats 1000000 in
theorem model_any (Z : Nat → Int) (hZ : ∀ i, 0 ≤ Z i ∧ Z i < 256) (fb L cap : Nat) (w : World) (hc : ∀ i, i < L → w.cell? ⟨fb, i, none⟩ = some (.int .u8 (Z i))) (hL : L ≤ 4096) :
    Calls Ybad.prog 8 #[.slice (some ⟨fb, 0, none⟩) L cap] w fun e w' => e = .returned (modelVal L (out Z L)) ∧ ∃ m, w' = w.drewN m := by
  have be : ∀ a, a + 1 < L → ∀ m, Calls Ybad.prog 14 #[.slice (some ⟨fb, 0, none⟩) L cap, .int .i64 (a : Int)] (w.drewN m) fun e w' => e = .returned (.int .i64 (et Z a)) ∧ w' = w.drewN (m + 1) := fun a ha m =>
    (be_any fb a L cap (Z a) (Z (a + 1)) (w.drewN m) ha hL (hc a (by omega)) (hc (a + 1) ha) (hZ a).1 (hZ a).2 (hZ (a + 1)).1 (hZ (a + 1)).2).mono (by rintro e w' ⟨rfl, rfl⟩; exact ⟨rfl, rfl⟩)
  by_cases h14 : L < 14
  · have H : Hid (out Z L = .bad) := by show _ = _; rw [out, if_pos h14]
    have q : decide ((L : Int) < 14) = true := by simp; omega
    go_enter Ybad.func8, Ybad.ntmps8
    go_wp2
    exact bodyPost_ret (v := modelVal L .bad) (by simp [results, Ybad.results8, go_sem, modelVal]) rfl ⟨by rw [H.out], 0, rfl⟩
  · have H : Hid (out Z L = outOf Z L (findF Z L 2 12)) := by show _ = _; rw [out, if_neg h14]
    have q : decide ((L : Int) < 14) = false := by simp; omega
    have HC : Hid (∀ i, i < L → w.cell? ⟨fb, i, none⟩ = some (.int .u8 (Z i))) := hc
    have HZ : Hid (∀ i, 0 ≤ Z i ∧ Z i < 256) := hZ
    have BE : Hid (∀ a, a + 1 < L → ∀ m, Calls Ybad.prog 14 #[.slice (some ⟨fb, 0, none⟩) L cap, .int .i64 (a : Int)] (w.drewN m) fun e w' => e = .returned (.int .i64 (et Z a)) ∧ w' = w.drewN (m + 1)) := be
    clear hc hZ be
    go_enter Ybad.func8, Ybad.ntmps8
    go_upto_region 5 with fail
    go_cut [10] (fun v wx => v = .int .i64 (et Z 12) ∧ ∃ m, wx = w.drewN m)
    case first =>
      go_wp2_with (go_at_call 14; refine (BE.out 12 (by omega) 0).mono ?_; rintro e w' ⟨rfl, rfl⟩)
      go_meet
      case rel => exact ⟨rfl, _, rfl⟩
    case rest =>
      obtain ⟨rfl, m0, rfl⟩ := hcut
      apply_assumption
      refine wp_seq_k (fun K hK => ?_)
      go_cut [9, 10] (fun va ve wx => ∃ a : Nat, va = .int .i64 (a : Int) ∧ ve = .int .i64 (et Z a) ∧ a + 2 ≤ L ∧ a ≤ 20 ∧ findF Z L 2 12 = some a ∧ ∃ m, wx = w.drewN m)
      case first =>
        go_wp2
        go_loopw [9, 10, 11] (fun va ve vk wr => ∃ k a m : Nat, k ≤ 2 ∧ va = .int .i64 (a : Int) ∧ ve = .int .i64 (et Z a) ∧ vk = .int .i64 (k : Int) ∧ a = 12 + 4 * k ∧ a + 2 ≤ L ∧ findF Z L (2 - k) a = findF Z L 2 12 ∧ wr = w.drewN m) (fun _ _ vk _ => (2 - intOf vk).toNat)
        case atStart => exact ⟨0, 12, _, by omega, rfl, rfl, rfl, rfl, by omega, rfl, rfl⟩
        case round =>
          obtain ⟨k, a, m, hk, rfl, rfl, rfl, hak, haL, hf, rfl⟩ := hrel
          have HF : Hid (findF Z L (2 - k) a = findF Z L 2 12) := hf
          have HA : Hid (a = 12 + 4 * k) := hak
          have ha24 : a ≤ 20 := by omega
          clear hf hak
          by_cases h2 : k = 2
          · have HF2 : Hid (findF Z L 2 12 = some a) := by have := HF.out; rw [h2] at this; exact this.symm
            have kk : decide ((k : Int) < 2) = false := by simp; omega
            clear h2
            go_wp2
            go_meet
            case rel => exact ⟨a, rfl, rfl, haL, ha24, HF2.out, _, rfl⟩
          · have kk : decide ((k : Int) < 2) = true := by simp; omega
            have wk : IntKind.i64.wrap ((k : Int) + 1) = ((k + 1 : Nat) : Int) := by rw [IntKind.wrap_i64]; omega
            obtain ⟨r, hr⟩ : ∃ r, 2 - k = r + 1 := ⟨1 - k, by omega⟩
            have HK : Hid (¬ k = 2) := h2
            have HR : Hid (2 - k = r + 1) := hr
            clear h2 hr
            have HE : Hid (findF Z L 2 12 = if tagged (et Z a) = true then (if L < a + 6 then none else findF Z L r (a + 4)) else some a) := by have := HF.out; rw [HR.out] at this; exact this.symm
            have wa : IntKind.i64.wrap ((a : Int) + 4) = ((a + 4 : Nat) : Int) := by rw [IntKind.wrap_i64]; omega
            have wa2 : IntKind.i64.wrap ((a : Int) + 4 + 2) = ((a + 4 + 2 : Nat) : Int) := by rw [IntKind.wrap_i64]; omega
            clear HF
            have step : ∀ e : Int, et Z a = e → ((e != 33024) = false ∨ ((e != 33024) = true ∧ (e != 34984) = false)) → tagged e = true := by
              intro e _ h; simp [tagged] at h ⊢; omega
            by_cases t1 : (et Z a != 33024) = true
            · by_cases t2 : (et Z a != 34984) = true
              · have HF2 : Hid (findF Z L 2 12 = some a) := by
                  have h : ¬ tagged (et Z a) = true := by simp [tagged] at t1 t2 ⊢; exact ⟨t1, t2⟩
                  have := HE.out; rw [if_neg h] at this; exact this
                clear step HE
                go_wp2
                go_meet
                case rel => exact ⟨a, rfl, rfl, haL, ha24, HF2.out, _, rfl⟩
              · have t2' : (et Z a != 34984) = false := by simpa using t2
                have HT : Hid (tagged (et Z a) = true) := step _ rfl (Or.inr ⟨t1, t2'⟩)
                clear step t2
                by_cases hl : L < a + 6
                · have HF2 : Hid (findF Z L 2 12 = none) := by have := HE.out; rw [if_pos HT.out, if_pos hl] at this; exact this
                  have ll : decide ((L : Int) < (a : Int) + 4 + 2) = true := by simp; omega
                  have ll2 : decide ((L : Int) < ((a + 4 + 2 : Nat) : Int)) = true := by simp; omega
                  clear HE
                  go_wp2
                  exact bodyPost_ret (v := modelVal L .bad) (by simp [results, Ybad.results8, go_sem, modelVal]) rfl ⟨by rw [H.out, HF2.out]; rfl, _, rfl⟩
                · have HF2 : Hid (findF Z L r (a + 4) = findF Z L 2 12) := by have := HE.out; rw [if_pos HT.out, if_neg hl] at this; exact this.symm
                  have ll : decide ((L : Int) < (a : Int) + 4 + 2) = false := by simp; omega
                  have ll2 : decide ((L : Int) < ((a + 4 + 2 : Nat) : Int)) = false := by simp; omega
                  clear HE
                  go_wp2_with (go_at_call 14; refine (BE.out (a + 4) (by omega) _).mono ?_; rintro e w' ⟨rfl, rfl⟩)
                  have hkk := HK.out
                  have haa := HA.out
                  have hrr := HR.out
                  go_roundw
                  case rel => exact ⟨k + 1, a + 4, m + 1, by omega, by go_num, rfl, by go_num, by omega, by omega, by rw [show 2 - (k + 1) = r from by omega]; exact HF2.out, rfl⟩
                  case measure => simp [intOf]; omega
            · have t1' : (et Z a != 33024) = false := by simpa using t1
              have HT : Hid (tagged (et Z a) = true) := step _ rfl (Or.inl t1')
              clear step t1
              by_cases hl : L < a + 6
              · have HF2 : Hid (findF Z L 2 12 = none) := by have := HE.out; rw [if_pos HT.out, if_pos hl] at this; exact this
                have ll : decide ((L : Int) < (a : Int) + 4 + 2) = true := by simp; omega
                have ll2 : decide ((L : Int) < ((a + 4 + 2 : Nat) : Int)) = true := by simp; omega
                clear HE
                go_wp2
                exact bodyPost_ret (v := modelVal L .bad) (by simp [results, Ybad.results8, go_sem, modelVal]) rfl ⟨by rw [H.out, HF2.out]; rfl, _, rfl⟩
              · have HF2 : Hid (findF Z L r (a + 4) = findF Z L 2 12) := by have := HE.out; rw [if_pos HT.out, if_neg hl] at this; exact this.symm
                have ll : decide ((L : Int) < (a : Int) + 4 + 2) = false := by simp; omega
                have ll2 : decide ((L : Int) < ((a + 4 + 2 : Nat) : Int)) = false := by simp; omega
                clear HE
                go_wp2_with (go_at_call 14; refine (BE.out (a + 4) (by omega) _).mono ?_; rintro e w' ⟨rfl, rfl⟩)
                have hkk := HK.out
                have haa := HA.out
                have hrr := HR.out
                go_roundw
                case rel => exact ⟨k + 1, a + 4, m + 1, by omega, by go_num, rfl, by go_num, by omega, by omega, by rw [show 2 - (k + 1) = r from by omega]; exact HF2.out, rfl⟩
                case measure => simp [intOf]; omega
      case rest =>
        obtain ⟨a, rfl, rfl, ha, ha24, hf, m1, rfl⟩ := hcut
        have HO : Hid (out Z L = outAt Z L a) := by show _ = _; rw [H.out, hf]; rfl
        clear hf H
        obtain ⟨n, hn⟩ : ∃ n, L - (a + 2) = n := ⟨_, rfl⟩
        have wp : IntKind.i64.wrap ((a : Int) + 2) = ((a + 2 : Nat) : Int) := by rw [IntKind.wrap_i64]; omega
        have wr : IntKind.i64.wrap ((L : Int) - ((a : Int) + 2)) = (n : Int) := by rw [IntKind.wrap_i64]; omega
        have HN : Hid (L - (a + 2) = n) := hn
        have hn' : n ≤ 4096 := by omega
        by_cases e4 : et Z a = 2048
        · by_cases h20 : n < 20
          · have q20 : decide ((n : Int) < 20) = true := by simp; omega
            clear hn
            have HQ : Hid (out Z L = .bad) := by show _ = _; rw [HO.out]; unfold outAt; rw [if_pos e4, if_pos]; exact Or.inl (Or.inl (by rw [HN.out]; exact h20))
            clear HO
            go_wp2
            exact bodyPost_ret (v := modelVal L (.bad)) (by simp [results, Ybad.results8, go_sem, modelVal]) rfl ⟨by rw [HQ.out], _, rfl⟩
          · have q20 : decide ((n : Int) < 20) = false := by simp; omega
            have cp : w.cell? ⟨fb, a + 2, none⟩ = some (.int .u8 (Z (a + 2))) := HC.out _ (by omega)
            have ip : (a : Int) + 2 < (L : Int) := by omega
            obtain ⟨y0, y1⟩ := HZ.out (a + 2)
            by_cases hx : Z (a + 2) / 16 = 4
            · obtain ⟨t0, t1⟩ := et_bounds Z HZ.out (a + 2 + 2)
              have wp2 : IntKind.i64.wrap ((a : Int) + 2 + 2) = ((a + 2 + 2 : Nat) : Int) := by rw [IntKind.wrap_i64]; omega
              by_cases h5 : Z (a + 2) % 16 * 4 < 20
              · have p1 : decide (Z (a + 2) % 16 * 4 < 20) = true := by simpa using h5
                have hq : a + 2 + 2 + 1 < L := by omega
                clear hn
                have HQ : Hid (out Z L = .bad) := by show _ = _; rw [HO.out]; unfold outAt; rw [if_pos e4, if_pos]; exact Or.inr (Or.inl h5)
                clear HO
                go_wp2_with (go_at_call 14; refine (BE.out (a + 2 + 2) hq _).mono ?_; rintro e w' ⟨rfl, rfl⟩)
                exact bodyPost_ret (v := modelVal L (.bad)) (by simp [results, Ybad.results8, go_sem, modelVal]) rfl ⟨by rw [HQ.out], _, rfl⟩
              · have p1 : decide (Z (a + 2) % 16 * 4 < 20) = false := by simpa using h5
                by_cases h6 : et Z (a + 2 + 2) < Z (a + 2) % 16 * 4
                · have p2 : decide (et Z (a + 2 + 2) < Z (a + 2) % 16 * 4) = true := by simpa using h6
                  have hq : a + 2 + 2 + 1 < L := by omega
                  clear hn
                  have HQ : Hid (out Z L = .bad) := by show _ = _; rw [HO.out]; unfold outAt; rw [if_pos e4, if_pos]; exact Or.inr (Or.inr h6)
                  clear HO
                  go_wp2_with (go_at_call 14; refine (BE.out (a + 2 + 2) hq _).mono ?_; rintro e w' ⟨rfl, rfl⟩)
                  exact bodyPost_ret (v := modelVal L (.bad)) (by simp [results, Ybad.results8, go_sem, modelVal]) rfl ⟨by rw [HQ.out], _, rfl⟩
                · have p2 : decide (et Z (a + 2 + 2) < Z (a + 2) % 16 * 4) = false := by simpa using h6
                  have HQ0 : Hid (outAt Z L a = .four (a + 2) (et Z (a + 2 + 2)).toNat) := by
                    show _ = _
                    unfold outAt
                    rw [if_pos e4, if_neg]
                    rintro ((h | h) | (h | h))
                    · omega
                    · exact h hx
                    · exact h5 h
                    · exact h6 h
                  clear h5 h6
                  obtain ⟨t, ht⟩ := Int.eq_ofNat_of_zero_le t0
                  have HQ : Hid (out Z L = .four (a + 2) t) := by show _ = _; rw [HO.out, HQ0.out, ht]; rfl
                  clear HQ0
                  have hq : a + 2 + 2 + 1 < L := by omega
                  have wp12 : IntKind.i64.wrap ((a : Int) + 2 + 12) = ((a + 2 + 12 : Nat) : Int) := by rw [IntKind.wrap_i64]; omega
                  have wp16 : IntKind.i64.wrap ((a : Int) + 2 + 16) = ((a + 2 + 16 : Nat) : Int) := by rw [IntKind.wrap_i64]; omega
                  have we : IntKind.i64.wrap ((a : Int) + 2 + (n : Int)) = ((a + 2 + n : Nat) : Int) := by rw [IntKind.wrap_i64]; omega
                  have we2 : IntKind.i64.wrap ((a : Int) + 2 + et Z (a + 2 + 2)) = ((a + 2 + t : Nat) : Int) := by rw [IntKind.wrap_i64]; omega
                  by_cases h7 : t < n
                  · have p3 : decide (et Z (a + 2 + 2) < (n : Int)) = true := by simp; omega
                    have HM : Hid (min t (L - (a + 2)) = t) := by show _ = _; omega
                    clear hn ht h7 HO
                    go_wp2_with (go_at_call 14; refine (BE.out (a + 2 + 2) hq _).mono ?_; rintro e w' ⟨rfl, rfl⟩)
                    refine bodyPost_ret (v := .tuple #[.int .i64 ((a : Int) + 2), .int .i64 ((a : Int) + 2 + (t : Int)), .int .i64 ((a : Int) + 2 + 12), .int .i64 ((a : Int) + 2 + 16), .bool false, .bool true]) (by simp [results, Ybad.results8, go_sem]) rfl ⟨?_, _, rfl⟩
                    rw [HQ.out]
                    simp only [modelVal, HM.out]
                    push_cast
                    rfl
                  · have p3 : decide (et Z (a + 2 + 2) < (n : Int)) = false := by simp; omega
                    have HM : Hid (min t (L - (a + 2)) = n) := by show _ = _; omega
                    clear hn ht h7 HO
                    go_wp2_with (go_at_call 14; refine (BE.out (a + 2 + 2) hq _).mono ?_; rintro e w' ⟨rfl, rfl⟩)
                    refine bodyPost_ret (v := .tuple #[.int .i64 ((a : Int) + 2), .int .i64 ((a : Int) + 2 + (n : Int)), .int .i64 ((a : Int) + 2 + 12), .int .i64 ((a : Int) + 2 + 16), .bool false, .bool true]) (by simp [results, Ybad.results8, go_sem]) rfl ⟨?_, _, rfl⟩
                    rw [HQ.out]
                    simp only [modelVal, HM.out]
                    push_cast
                    rfl
            · clear hn
              have HQ : Hid (out Z L = .bad) := by show _ = _; rw [HO.out]; unfold outAt; rw [if_pos e4, if_pos]; exact Or.inl (Or.inr hx)
              clear HO
              go_wp2
              exact bodyPost_ret (v := modelVal L (.bad)) (by simp [results, Ybad.results8, go_sem, modelVal]) rfl ⟨by rw [HQ.out], _, rfl⟩
        · by_cases e6 : et Z a = 34525
          · by_cases h40 : n < 40
            · have q40 : decide ((n : Int) < 40) = true := by simp; omega
              have HQ : Hid (out Z L = .bad) := by show _ = _; rw [HO.out]; unfold outAt; rw [if_neg e4, if_pos e6, if_pos]; exact Or.inl (by rw [HN.out]; exact h40)
              clear HO hn
              go_wp2
              exact bodyPost_ret (v := modelVal L .bad) (by simp [results, Ybad.results8, go_sem, modelVal]) rfl ⟨by rw [HQ.out], _, rfl⟩
            · have q40 : decide ((n : Int) < 40) = false := by simp; omega
              have cp : w.cell? ⟨fb, a + 2, none⟩ = some (.int .u8 (Z (a + 2))) := HC.out _ (by omega)
              have ip : (a : Int) + 2 < (L : Int) := by omega
              obtain ⟨y0, y1⟩ := HZ.out (a + 2)
              by_cases hx : Z (a + 2) / 16 = 6
              · obtain ⟨t0, t1⟩ := et_bounds Z HZ.out (a + 2 + 4)
                have wp2 : IntKind.i64.wrap ((a : Int) + 2 + 4) = ((a + 2 + 4 : Nat) : Int) := by rw [IntKind.wrap_i64]; omega
                have HQ0 : Hid (outAt Z L a = .six (a + 2) (40 + et Z (a + 2 + 4)).toNat) := by
                  show _ = _
                  unfold outAt
                  rw [if_neg e4, if_pos e6, if_neg]
                  rintro (h | h)
                  · omega
                  · exact h hx
                obtain ⟨t, ht⟩ := Int.eq_ofNat_of_zero_le (show 0 ≤ 40 + et Z (a + 2 + 4) by omega)
                have HQ : Hid (out Z L = .six (a + 2) t) := by show _ = _; rw [HO.out, HQ0.out, ht]; rfl
                clear HQ0
                have hq : a + 2 + 4 + 1 < L := by omega
                have wp12 : IntKind.i64.wrap ((a : Int) + 2 + 8) = ((a + 2 + 8 : Nat) : Int) := by rw [IntKind.wrap_i64]; omega
                have wp16 : IntKind.i64.wrap ((a : Int) + 2 + 24) = ((a + 2 + 24 : Nat) : Int) := by rw [IntKind.wrap_i64]; omega
                have we : IntKind.i64.wrap ((a : Int) + 2 + (n : Int)) = ((a + 2 + n : Nat) : Int) := by rw [IntKind.wrap_i64]; omega
                have we2 : IntKind.i64.wrap ((a : Int) + 2 + (40 + et Z (a + 2 + 4))) = ((a + 2 + t : Nat) : Int) := by rw [IntKind.wrap_i64]; omega
                have we3 : IntKind.i64.wrap ((40 + et Z (a + 2 + 4))) = (40 + et Z (a + 2 + 4)) := by rw [IntKind.wrap_i64]; omega
                by_cases h7 : t < n
                · have p3 : decide ((40 + et Z (a + 2 + 4)) < (n : Int)) = true := by simp; omega
                  have HM : Hid (min t (L - (a + 2)) = t) := by show _ = _; omega
                  clear hn ht h7 HO
                  go_wp2_with (go_at_call 14; refine (BE.out (a + 2 + 4) hq _).mono ?_; rintro e w' ⟨rfl, rfl⟩)
                  refine bodyPost_ret (v := .tuple #[.int .i64 ((a : Int) + 2), .int .i64 ((a : Int) + 2 + (t : Int)), .int .i64 ((a : Int) + 2 + 8), .int .i64 ((a : Int) + 2 + 24), .bool true, .bool true]) (by simp [results, Ybad.results8, go_sem]) rfl ⟨?_, _, rfl⟩
                  rw [HQ.out]
                  simp only [modelVal, HM.out]
                  push_cast
                  rfl
                · have p3 : decide ((40 + et Z (a + 2 + 4)) < (n : Int)) = false := by simp; omega
                  have HM : Hid (min t (L - (a + 2)) = n) := by show _ = _; omega
                  clear hn ht h7 HO
                  go_wp2_with (go_at_call 14; refine (BE.out (a + 2 + 4) hq _).mono ?_; rintro e w' ⟨rfl, rfl⟩)
                  refine bodyPost_ret (v := .tuple #[.int .i64 ((a : Int) + 2), .int .i64 ((a : Int) + 2 + (n : Int)), .int .i64 ((a : Int) + 2 + 8), .int .i64 ((a : Int) + 2 + 24), .bool true, .bool true]) (by simp [results, Ybad.results8, go_sem]) rfl ⟨?_, _, rfl⟩
                  rw [HQ.out]
                  simp only [modelVal, HM.out]
                  push_cast
                  rfl
              · have HQ : Hid (out Z L = .bad) := by show _ = _; rw [HO.out]; unfold outAt; rw [if_neg e4, if_pos e6, if_pos]; exact Or.inr hx
                clear HO hn
                go_wp2
                exact bodyPost_ret (v := modelVal L .bad) (by simp [results, Ybad.results8, go_sem, modelVal]) rfl ⟨by rw [HQ.out], _, rfl⟩
          · have HQ : Hid (out Z L = .bad) := by show _ = _; rw [HO.out]; unfold outAt; rw [if_neg e4, if_neg e6]
            clear HO hn
            go_wp2
            exact bodyPost_ret (v := modelVal L .bad) (by simp [results, Ybad.results8, go_sem, modelVal]) rfl ⟨by rw [HQ.out], _, rfl⟩
end Go.Proofs.YbulkweqDoor
