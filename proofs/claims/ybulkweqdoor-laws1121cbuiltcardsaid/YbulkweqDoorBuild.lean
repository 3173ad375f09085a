/-
  'zzs1121cbuild' (6).
-/
import Derived.Test.YbulkweqDoorMem
import Derived.Deep.DeepCutAuto
import Derived.Deep.RegionHeld3
namespace Go.Proofs.YbulkweqDoor
open Go.RowKit Go.Deep

abbrev argX (tags tk kind raw flip ihl total cut : Int) (ba : Option Addr) (n cb : Nat) : Array Value := #[.int .u8 tags, .int .u8 tk, .int .u8 kind, .int .u16 raw, .int .u8 flip, .int .u8 ihl, .int .u16 total, .slice ba n cb, .int .u8 cut]

theorem make_frame (W : World) (n : Nat) (hn : n ≤ 1024) (kl kc : IntKind) : (Instr.makeSlice 23 (.int kl 0) (.int kc (66 + (n : Int)))).run Ybad.prog W = .ok (.slice (some ⟨W.heap.size, 0, none⟩) 0 (66 + n)) (W.alloc (.cells (madeCells #[.int .u8 0] (66 + n)) 5)) := by
  obtain ⟨i, hi, hzz⟩ := Option.map_eq_some_iff.1 info5
  simp only [Prod.mk.injEq] at hzz
  obtain ⟨hz, hs, hb⟩ := hzz
  have := run_make (P := Ybad.prog) W 23 5 i (.int .u8 0) Ybad.underlying23 hi hz kl kc 0 (66 + (n : Int)) (by omega) (by omega) (by rw [hb]; omega) (by omega)
  rw [this, hs, Nat.mul_one, show (66 + (n : Int)).toNat = 66 + n by omega]; rfl
theorem make_head (W : World) (n : Nat) (hn : n ≤ 1024) (kl kc : IntKind) : (Instr.makeSlice 23 (.int kl (n : Int)) (.int kc (n : Int))).run Ybad.prog W = .ok (.slice (some ⟨W.heap.size, 0, none⟩) n n) (W.alloc (.cells (madeCells #[.int .u8 0] n) 5)) :=
  run_make_row' 23 5 (.int .u8 0) 1 Ybad.underlying23 info5 rfl kl kc n (by omega) (by omega) W

set_option maxRecDepth 100000 in
set_option maxHeartbeats 10000000 in
theorem build_any (tags tk kind raw flip ihl total cut : Int) (ba : Option Addr) (n cb bb bo : Nat) (B : Nat → Int) (w : World) (hn : n ≤ 1024) (hB : ∀ i, 0 ≤ B i ∧ B i < 256) (hba : 0 < n → ba = some ⟨bb, bo, none⟩) (hbc : ∀ i, i < n → w.cell? ⟨bb, bo + i, none⟩ = some (.int .u8 (B i))) (hnil : ba = none → n = 0 ∧ cb = 0) (t0 : 0 ≤ tags ∧ tags < 256) (t1 : 0 ≤ tk ∧ tk < 256) (t2 : 0 ≤ kind ∧ kind < 256) (t3 : 0 ≤ raw ∧ raw < 65536) (t4 : 0 ≤ flip ∧ flip < 256)
    (t5 : 0 ≤ ihl ∧ ihl < 256) (t6 : 0 ≤ total ∧ total < 65536) (t8 : 0 ≤ cut ∧ cut < 256) :
    Calls Ybad.prog 6 #[.agg (argX tags tk kind raw flip ihl total cut ba n cb)] w fun e w' => ∃ (L C : Nat) (Z : Nat → Int), e = .returned (.slice (some ⟨w.heap.size + 1, 0, none⟩) L C) ∧ L ≤ C ∧ C ≤ 1090 ∧ (∀ i, 0 ≤ Z i ∧ Z i < 256) ∧ (∀ i, i < L → w'.cell? ⟨w.heap.size + 1, i, none⟩ = some (.int .u8 (Z i))) ∧ Below w.heap.size w w' := by
  have wn : IntKind.i64.wrap (66 + (n : Int)) = ((66 + n : Nat) : Int) := by rw [IntKind.wrap_i64]; omega
  have mk := make_frame (w.alloc (.cells (argX tags tk kind raw flip ihl total cut ba n cb) 25)) n hn .i64 .i64
  have S1 : Sit w ((w.alloc (.cells (argX tags tk kind raw flip ihl total cut ba n cb) 25)).alloc (.cells (madeCells #[.int .u8 0] (66 + n)) 5)) (argX tags tk kind raw flip ihl total cut ba n cb) (66 + n) :=
    ⟨((Below.refl _ _).alloc (Nat.le_refl _) _).alloc (by simp) _, blk_alloc (blk_new w _) _, by have := Row.made (w.alloc (.cells (argX tags tk kind raw flip ihl total cut ba n cb) 25)) (66 + n); simpa using this⟩
  obtain ⟨X, hX⟩ : ∃ X, X = argX tags tk kind raw flip ihl total cut ba n cb := ⟨_, rfl⟩
  have HX : Hid (X = argX tags tk kind raw flip ihl total cut ba n cb) := hX
  obtain ⟨C, hC⟩ : ∃ C, C = 66 + n := ⟨_, rfl⟩
  have HS1 : Hid (Sit w ((w.alloc (.cells (argX tags tk kind raw flip ihl total cut ba n cb) 25)).alloc (.cells (madeCells #[.int .u8 0] (66 + n)) 5)) X C) := by rw [hX, hC]; exact S1
  have HC : Hid (C = 66 + n) := hC
  have hC66 : 66 ≤ C := by omega
  have hCc : C ≤ 1090 := by omega
  have AX : ∀ W, Sit w W X C → W.heap[w.heap.size]? = some (.cells (argX tags tk kind raw flip ihl total cut ba n cb) 25 (0, 0)) := fun W S => by rw [← hX]; exact S.arg
  have A0 : Hid (∀ W, Sit w W X C → W.cell? ⟨w.heap.size, 0, none⟩ = some (.int .u8 tags)) := fun W S => cell_row (AX W S) rfl
  have A1 : Hid (∀ W, Sit w W X C → W.cell? ⟨w.heap.size, 1, none⟩ = some (.int .u8 tk)) := fun W S => cell_row (AX W S) rfl
  have A2 : Hid (∀ W, Sit w W X C → W.cell? ⟨w.heap.size, 2, none⟩ = some (.int .u8 kind)) := fun W S => cell_row (AX W S) rfl
  have A3 : Hid (∀ W, Sit w W X C → W.cell? ⟨w.heap.size, 3, none⟩ = some (.int .u16 raw)) := fun W S => cell_row (AX W S) rfl
  have A4 : Hid (∀ W, Sit w W X C → W.cell? ⟨w.heap.size, 4, none⟩ = some (.int .u8 flip)) := fun W S => cell_row (AX W S) rfl
  have A5 : Hid (∀ W, Sit w W X C → W.cell? ⟨w.heap.size, 5, none⟩ = some (.int .u8 ihl)) := fun W S => cell_row (AX W S) rfl
  have A6 : Hid (∀ W, Sit w W X C → W.cell? ⟨w.heap.size, 6, none⟩ = some (.int .u16 total)) := fun W S => cell_row (AX W S) rfl
  have A7 : Hid (∀ W, Sit w W X C → W.cell? ⟨w.heap.size, 7, none⟩ = some (.slice ba n cb)) := fun W S => cell_row (AX W S) rfl
  have A8 : Hid (∀ W, Sit w W X C → W.cell? ⟨w.heap.size, 8, none⟩ = some (.int .u8 cut)) := fun W S => cell_row (AX W S) rfl
  have HB : Hid (∀ i, 0 ≤ B i ∧ B i < 256) := hB
  have HBA : Hid (0 < n → ba = some ⟨bb, bo, none⟩) := hba
  have HBC : Hid (∀ i, i < n → w.cell? ⟨bb, bo + i, none⟩ = some (.int .u8 (B i))) := hbc
  have HNIL : Hid (ba = none → n = 0 ∧ cb = 0) := hnil
  clear S1 hX hC AX hB hba hbc hnil
  go_enter Ybad.func6, Ybad.ntmps6
  go_upto_region 1 with fail
  go_cut [3] (fun f wx => f = .slice (some ⟨w.heap.size + 1, 0, none⟩) 0 C ∧ Sit w wx X C)
  case first =>
    as_aux_lemma =>
      go_wp2
      go_meet
      case rel => exact ⟨by rw [HC.out], HS1.out⟩
  case rest =>
    as_aux_lemma =>
      obtain ⟨rfl, hS⟩ := hcut
      clear HS1 mk
      apply_assumption
      refine wp_seq_k (fun K hK => ?_)
      go_cut [3] (fun f wx => f = .slice (some ⟨w.heap.size + 1, 0, none⟩) 12 C ∧ Sit w wx X C)
      case first =>
        as_aux_lemma =>
          go_wp2
          go_loopw [3, 4] (fun f vi wr => ∃ i : Nat, i ≤ 12 ∧ f = .slice (some ⟨w.heap.size + 1, 0, none⟩) i C ∧ vi = .int .i64 (i : Int) ∧ Sit w wr X C) (fun _ vi _ => (12 - intOf vi).toNat)
          case atStart => exact ⟨0, by omega, rfl, rfl, hS⟩
          case round =>
            obtain ⟨i, hi, rfl, rfl, hSr⟩ := hrel
            by_cases h12 : i = 12
            · subst h12
              go_wp2
              go_meet
              case rel => exact ⟨rfl, hSr⟩
            · have kk : decide ((i : Int) < 12) = true := by simp; omega
              have hi12 : i < 12 := by omega
              have hfit : i + 1 ≤ C := by omega
              have w2 : IntKind.i64.wrap ((i : Int) + 1) = ((i + 1 : Nat) : Int) := by rw [IntKind.wrap_i64]; omega
              have wb : IntKind.u8.wrap (i : Int) = (i : Int) := by rw [IntKind.wrap_u8]; omega
              clear h12
              go_wp2_with (at_builtin; refine wpList_append_sit rfl (.tmp 23) (.tmp 26) rfl (hSr.alloc _) i rfl _ 1 1 [.int .u8 (i : Int)] rfl rfl (fun h => by cases h) (new_cells _ _ _) (fun u hu => ?hu) hfit ?_; (case hu => simp at hu; subst hu; exact isB_mk (by omega) (by omega)); rintro W' hS' - -)
              go_roundw
              case rel => exact ⟨i + 1, by omega, rfl, by go_num, hS'⟩
              case measure => simp [intOf]; omega
      case rest =>
        as_aux_lemma =>
          obtain ⟨rfl, hS2⟩ := hcut
          clear hS
          obtain ⟨T, hT⟩ : ∃ T : Nat, tags % 4 = (T : Int) := ⟨(tags % 4).toNat, by omega⟩
          have hT3 : T ≤ 3 := by omega
          have a0 := A0.out _ hS2
          apply_assumption
          refine wp_seq_k (fun K hK => ?_)
          go_cut [5] (fun vt wx => vt = .int .i64 (T : Int) ∧ Sit w wx X C)
          case first =>
            as_aux_lemma =>
              go_wp2
              go_meet
              case rel => exact ⟨rfl, hS2⟩
          case rest =>
            as_aux_lemma =>
              obtain ⟨rfl, hS3⟩ := hcut
              clear hS2 hT a0
              apply_assumption
              refine wp_seq_k (fun K hK => ?_)
              go_cut [3] (fun f wx => f = .slice (some ⟨w.heap.size + 1, 0, none⟩) (12 + 4 * T) C ∧ Sit w wx X C)
              case first =>
                as_aux_lemma =>
                  go_wp2
                  go_loopw [3, 6] (fun f vi wr => ∃ i : Nat, i ≤ T ∧ f = .slice (some ⟨w.heap.size + 1, 0, none⟩) (12 + 4 * i) C ∧ vi = .int .i64 (i : Int) ∧ Sit w wr X C) (fun _ vi _ => (T - intOf vi).toNat)
                  case atStart => exact ⟨0, by omega, rfl, rfl, hS3⟩
                  case round =>
                    obtain ⟨i, hi, rfl, rfl, hSr⟩ := hrel
                    have HSr : Hid (Sit w wr X C) := hSr
                    by_cases h12 : i = T
                    · subst h12
                      go_wp2
                      go_meet
                      case rel => exact ⟨rfl, HSr.out⟩
                    · have kk : i < T := by omega
                      have hi3 : i ≤ 2 := by omega
                      have a1 := A1.out _ hSr
                      clear h12 hi
                      obtain rfl | rfl | rfl : i = 0 ∨ i = 1 ∨ i = 2 := by omega
                      · go_wp2_with (first | (at_builtin; refine wpList_append_sit rfl (.tmp 44) (.tmp 45) rfl (Sit.alloc (by assumption) _) _ rfl _ 2 2 [.int .u8 129, .int .u8 0] rfl rfl (fun h => by cases h) (new_cells _ _ _) (fun u hu => ?hu) (by omega) ?_; (case hu => simp at hu; rcases hu with rfl | rfl <;> exact isB_mk (by omega) (by omega)); rintro W' hS' - -; have a1' := A1.out _ hS') | (at_builtin; refine wpList_append_sit rfl (.tmp 47) (.tmp 48) rfl (Sit.alloc (by assumption) _) _ rfl _ 2 2 [.int .u8 136, .int .u8 168] rfl rfl (fun h => by cases h) (new_cells _ _ _) (fun u hu => ?hu) (by omega) ?_; (case hu => simp at hu; rcases hu with rfl | rfl <;> exact isB_mk (by omega) (by omega)); rintro W' hS' - -; have a1' := A1.out _ hS') | (at_builtin; refine wpList_append_sit rfl (.tmp 50) (.tmp 55) rfl (Sit.alloc (by assumption) _) _ rfl _ 2 2 [.int .u8 tk, .int .u8 0] rfl rfl (fun h => by cases h) (new_cells _ _ _) (fun u hu => ?hu) (by omega) ?_; (case hu => simp at hu; rcases hu with rfl | rfl <;> exact isB_mk (by omega) (by omega)); rintro W' hS' - -; have a1' := A1.out _ hS'))
                        all_goals (go_roundw; (case rel => exact ⟨1, by omega, rfl, rfl, by assumption⟩); (case measure => simp [intOf]; omega))
                      · go_wp2_with (first | (at_builtin; refine wpList_append_sit rfl (.tmp 44) (.tmp 45) rfl (Sit.alloc (by assumption) _) _ rfl _ 2 2 [.int .u8 129, .int .u8 0] rfl rfl (fun h => by cases h) (new_cells _ _ _) (fun u hu => ?hu) (by omega) ?_; (case hu => simp at hu; rcases hu with rfl | rfl <;> exact isB_mk (by omega) (by omega)); rintro W' hS' - -; have a1' := A1.out _ hS') | (at_builtin; refine wpList_append_sit rfl (.tmp 47) (.tmp 48) rfl (Sit.alloc (by assumption) _) _ rfl _ 2 2 [.int .u8 136, .int .u8 168] rfl rfl (fun h => by cases h) (new_cells _ _ _) (fun u hu => ?hu) (by omega) ?_; (case hu => simp at hu; rcases hu with rfl | rfl <;> exact isB_mk (by omega) (by omega)); rintro W' hS' - -; have a1' := A1.out _ hS') | (at_builtin; refine wpList_append_sit rfl (.tmp 50) (.tmp 55) rfl (Sit.alloc (by assumption) _) _ rfl _ 2 2 [.int .u8 tk, .int .u8 1] rfl rfl (fun h => by cases h) (new_cells _ _ _) (fun u hu => ?hu) (by omega) ?_; (case hu => simp at hu; rcases hu with rfl | rfl <;> exact isB_mk (by omega) (by omega)); rintro W' hS' - -; have a1' := A1.out _ hS'))
                        all_goals (go_roundw; (case rel => exact ⟨2, by omega, rfl, rfl, by assumption⟩); (case measure => simp [intOf]; omega))
                      · go_wp2_with (first | (at_builtin; refine wpList_append_sit rfl (.tmp 44) (.tmp 45) rfl (Sit.alloc (by assumption) _) _ rfl _ 2 2 [.int .u8 129, .int .u8 0] rfl rfl (fun h => by cases h) (new_cells _ _ _) (fun u hu => ?hu) (by omega) ?_; (case hu => simp at hu; rcases hu with rfl | rfl <;> exact isB_mk (by omega) (by omega)); rintro W' hS' - -; have a1' := A1.out _ hS') | (at_builtin; refine wpList_append_sit rfl (.tmp 47) (.tmp 48) rfl (Sit.alloc (by assumption) _) _ rfl _ 2 2 [.int .u8 136, .int .u8 168] rfl rfl (fun h => by cases h) (new_cells _ _ _) (fun u hu => ?hu) (by omega) ?_; (case hu => simp at hu; rcases hu with rfl | rfl <;> exact isB_mk (by omega) (by omega)); rintro W' hS' - -; have a1' := A1.out _ hS') | (at_builtin; refine wpList_append_sit rfl (.tmp 50) (.tmp 55) rfl (Sit.alloc (by assumption) _) _ rfl _ 2 2 [.int .u8 tk, .int .u8 2] rfl rfl (fun h => by cases h) (new_cells _ _ _) (fun u hu => ?hu) (by omega) ?_; (case hu => simp at hu; rcases hu with rfl | rfl <;> exact isB_mk (by omega) (by omega)); rintro W' hS' - -; have a1' := A1.out _ hS'))
                        all_goals (go_roundw; (case rel => exact ⟨3, by omega, rfl, rfl, by assumption⟩); (case measure => simp [intOf]; omega))
              case rest =>
                as_aux_lemma =>
                  obtain ⟨rfl, hS4⟩ := hcut
                  obtain ⟨Kd, hKd⟩ : ∃ Kd : Nat, kind % 4 = (Kd : Int) := ⟨(kind % 4).toNat, by omega⟩
                  have hK3 : Kd ≤ 3 := by omega
                  have a2 := A2.out _ hS4
                  clear hS3
                  apply_assumption
                  refine wp_seq_k (fun K hK => ?_)
                  go_cut [7] (fun vk wx => vk = .int .u8 (Kd : Int) ∧ Sit w wx X C)
                  case first =>
                    as_aux_lemma =>
                      go_wp2
                      go_meet
                      case rel => exact ⟨by rw [hKd], hS4⟩
                  case rest =>
                    as_aux_lemma =>
                      obtain ⟨rfl, hS5⟩ := hcut
                      clear hS4 hKd a2
                      apply_assumption
                      refine wp_seq_k (fun K hK => ?_)
                      go_cut [3] (fun f wx => f = .slice (some ⟨w.heap.size + 1, 0, none⟩) (12 + 4 * T + 2) C ∧ Sit w wx X C)
                      case first =>
                        as_aux_lemma =>
                          have hfit : 12 + 4 * T + 2 ≤ C := by omega
                          have a3 := A3.out _ hS5
                          obtain rfl | rfl | rfl | rfl : Kd = 0 ∨ Kd = 1 ∨ Kd = 2 ∨ Kd = 3 := by omega
                          · go_wp2_with (at_builtin; refine wpList_append_sit rfl (.tmp 66) (.tmp 67) rfl (Sit.alloc (by assumption) _) _ rfl _ 2 2 _ rfl (by rfl) (fun h => by cases h) (new_cells _ _ _) (fun u hu => ?hu) hfit ?_; (case hu => simp at hu; rcases hu with rfl | rfl <;> exact isB_mk (by omega) (by omega)); rintro W' hS' - -)
                            all_goals (go_meet; case rel => exact ⟨rfl, by assumption⟩)
                          · go_wp2_with (at_builtin; refine wpList_append_sit rfl (.tmp 71) (.tmp 72) rfl (Sit.alloc (by assumption) _) _ rfl _ 2 2 _ rfl (by rfl) (fun h => by cases h) (new_cells _ _ _) (fun u hu => ?hu) hfit ?_; (case hu => simp at hu; rcases hu with rfl | rfl <;> exact isB_mk (by omega) (by omega)); rintro W' hS' - -)
                            all_goals (go_meet; case rel => exact ⟨rfl, by assumption⟩)
                          · go_wp2_with (at_builtin; refine wpList_append_sit rfl (.tmp 76) (.tmp 84) rfl (Sit.alloc (by assumption) _) _ rfl _ 2 2 _ rfl (by rfl) (fun h => by cases h) (new_cells _ _ _) (fun u hu => ?hu) hfit ?_; (case hu => simp at hu; rcases hu with rfl | rfl <;> first | exact isB_wrap _ | exact isB_mk (by omega) (by omega)); rintro W' hS' - -)
                            all_goals (go_meet; case rel => exact ⟨rfl, by assumption⟩)
                          · go_wp2_with (at_builtin; refine wpList_append_sit rfl (.tmp 61) (.tmp 62) rfl (Sit.alloc (by assumption) _) _ rfl _ 2 2 _ rfl (by rfl) (fun h => by cases h) (new_cells _ _ _) (fun u hu => ?hu) hfit ?_; (case hu => simp at hu; rcases hu with rfl | rfl <;> exact isB_mk (by omega) (by omega)); rintro W' hS' - -)
                            all_goals (go_meet; case rel => exact ⟨rfl, by assumption⟩)
                      case rest =>
                        as_aux_lemma =>
                          obtain ⟨rfl, hS6⟩ := hcut
                          clear hS5
                          obtain ⟨hl, hhl⟩ : ∃ hl : Nat, hl = if Kd = 1 then 40 else 20 := ⟨_, rfl⟩
                          apply_assumption
                          refine wp_seq_k (fun K hK => ?_)
                          go_cut [8] (fun v wx => v = .int .i64 20 ∧ Sit w wx X C)
                          case first =>
                            as_aux_lemma =>
                              go_wp2
                              go_meet
                              case rel => exact ⟨rfl, hS6⟩
                          case rest =>
                            as_aux_lemma =>
                              obtain ⟨rfl, hS7⟩ := hcut
                              clear hS6
                              apply_assumption
                              refine wp_seq_k (fun K hK => ?_)
                              go_cut [8] (fun v wx => v = .int .i64 (hl : Int) ∧ Sit w wx X C)
                              case first =>
                                as_aux_lemma =>
                                  have HL : Hid (hl = if Kd = 1 then 40 else 20) := hhl
                                  clear hhl
                                  by_cases h1 : Kd = 1
                                  · subst h1
                                    go_wp2
                                    go_meet
                                    case rel => exact ⟨by rw [HL.out]; rfl, hS7⟩
                                  · have b1 : ((Kd : Int) == 1) = false := by simp; omega
                                    have HN : Hid (¬ Kd = 1) := h1
                                    clear h1
                                    go_wp2
                                    go_meet
                                    case rel => exact ⟨by rw [HL.out, if_neg HN.out]; rfl, hS7⟩
                              case rest =>
                                as_aux_lemma =>
                                  obtain ⟨rfl, hS8⟩ := hcut
                                  have hl2 : hl = 20 ∨ hl = 40 := by rw [hhl]; split <;> simp
                                  clear hS7 hhl
                                  have hl40 : hl ≤ 40 := by omega
                                  have hl20 : 20 ≤ hl := by omega
                                  apply_assumption
                                  refine wp_seq_k (fun K hK => ?_)
                                  go_cut [9] (fun v wx => ∃ gh, v = .slice (some ⟨gh, 0, none⟩) hl hl ∧ Sit2 w wx X C gh hl)
                                  case first =>
                                    as_aux_lemma =>
                                      have mk := make_head wc hl (by omega) .i64 .i64
                                      go_wp2
                                      go_meet
                                      case rel => exact ⟨_, rfl, Sit2.made hS8 hl⟩
                                  case rest =>
                                    as_aux_lemma =>
                                      obtain ⟨gh, rfl, hS9⟩ := hcut
                                      clear hS8
                                      apply_assumption
                                      refine wp_seq_k (fun K hK => ?_)
                                      go_cut [] (fun wx => Sit2 w wx X C gh hl)
                                      case first =>
                                        as_aux_lemma =>
                                          go_wp2
                                          go_loopw [10] (fun vi wr => ∃ i : Nat, i ≤ hl ∧ vi = .int .i64 (i : Int) ∧ Sit2 w wr X C gh hl) (fun vi _ => (hl - intOf vi).toNat)
                                          case atStart => exact ⟨0, by omega, rfl, hS9⟩
                                          case round =>
                                            obtain ⟨i, hi, rfl, hSr⟩ := hrel
                                            have HSr : Hid (Sit2 w wr X C gh hl) := hSr
                                            by_cases h12 : i = hl
                                            · subst h12
                                              go_wp2
                                              go_meet
                                              case rel => exact HSr.out
                                            · have kk : i < hl := by omega
                                              have a7 := A7.out _ hSr.sit
                                              obtain ⟨zo, cz, _, _⟩ := hSr.head.cell i kk
                                              have fz := hSr.head.free i
                                              have w2 : IntKind.i64.wrap ((i : Int) + 1) = ((i + 1 : Nat) : Int) := by rw [IntKind.wrap_i64]; omega
                                              clear h12 hi hSr
                                              by_cases hn0 : n = 0
                                              · have wm : IntKind.i64.wrap ((i : Int) * 7) = (i : Int) * 7 := by rw [IntKind.wrap_i64]; omega
                                                have wm2 : IntKind.i64.wrap ((i : Int) * 7 + 3) = (i : Int) * 7 + 3 := by rw [IntKind.wrap_i64]; omega
                                                subst hn0
                                                go_wp2
                                                go_roundw
                                                case rel => exact ⟨i + 1, by omega, by go_num, HSr.out.set i (by first | exact isB_wrap _ | exact isB_mk (by omega) (by omega))⟩
                                                case measure => simp [intOf]; omega
                                              · have nn : 0 < n := by omega
                                                have hab := HBA.out nn
                                                subst hab
                                                obtain ⟨q, hq, hqn⟩ : ∃ q : Nat, (i : Int) % (n : Int) = (q : Int) ∧ q < n := ⟨i % n, by omega, Nat.mod_lt _ nn⟩
                                                have cq : wr.cell? ⟨bb, bo + q, none⟩ = some (.int .u8 (B q)) := by rw [HSr.out.sit.below.cell (World.block_lt_of_cell? w _ (HBC.out q hqn))]; exact HBC.out q hqn
                                                have Bq := HB.out q
                                                go_upto_region 31 with fail
                                                go_region
                                                all_goals go_wp2
                                                all_goals (go_roundw; (case rel => exact ⟨i + 1, by omega, by go_num, (HSr.out.set i (isB_mk Bq.1 Bq.2)).drew⟩); (case measure => simp [intOf]; omega))
                                      case rest =>
                                        as_aux_lemma =>
                                          have hS10 := hcut
                                          clear hS9
                                          apply_assumption
                                          refine wp_seq_k (fun K hK => ?_)
                                          go_cut [11] (fun v wx => v = .int .u8 4 ∧ Sit2 w wx X C gh hl)
                                          case first =>
                                            as_aux_lemma =>
                                              go_wp2
                                              go_meet
                                              case rel => exact ⟨rfl, hS10⟩
                                          case rest =>
                                            as_aux_lemma =>
                                              obtain ⟨rfl, hS11⟩ := hcut
                                              clear hS10
                                              apply_assumption
                                              refine wp_seq_k (fun K hK => ?_)
                                              go_cut [11] (fun v wx => IsB v ∧ Sit2 w wx X C gh hl)
                                              case first =>
                                                as_aux_lemma =>
                                                  by_cases h1 : Kd = 1
                                                  · subst h1
                                                    go_wp2
                                                    go_meet
                                                    case rel => exact ⟨isB_mk (by decide) (by decide), hS11⟩
                                                  · have b1 : ((Kd : Int) == 1) = false := by simp; omega
                                                    clear h1
                                                    go_wp2
                                                    go_meet
                                                    case rel => exact ⟨isB_mk (by decide) (by decide), hS11⟩
                                              case rest =>
                                                as_aux_lemma =>
                                                  obtain ⟨⟨ver, rfl, hv0, hv1⟩, hS12⟩ := hcut
                                                  clear hS11
                                                  apply_assumption
                                                  refine wp_seq_k (fun K hK => ?_)
                                                  go_cut [11] (fun v wx => IsB v ∧ Sit2 w wx X C gh hl)
                                                  case first =>
                                                    as_aux_lemma =>
                                                      have a4 := A4.out _ hS12.sit
                                                      go_wp2
                                                      all_goals (go_meet; case rel => exact ⟨by first | exact isB_wrap _ | exact isB_mk (by omega) (by omega), hS12⟩)
                                                  case rest =>
                                                    as_aux_lemma =>
                                                      obtain ⟨⟨ver', rfl, hv2, hv3⟩, hS13⟩ := hcut
                                                      clear hS12 hv0 hv1
                                                      apply_assumption
                                                      refine wp_seq_k (fun K hK => ?_)
                                                      go_cut [] (fun wx => Sit2 w wx X C gh hl)
                                                      case first =>
                                                        as_aux_lemma =>
                                                          have a5 := A5.out _ hS13.sit
                                                          obtain ⟨zo, cz, _, _⟩ := hS13.head.cell 0 (by omega)
                                                          have fz := hS13.head.free 0
                                                          have h0 : 0 < hl := by omega
                                                          go_wp2
                                                          go_meet
                                                          case rel => exact hS13.set 0 (isB_bits _ _ _)
                                                      case rest =>
                                                        as_aux_lemma =>
                                                          have hS14 := hcut
                                                          clear hS13 hv2 hv3
                                                          apply_assumption
                                                          refine wp_seq_k (fun K hK => ?_)
                                                          go_cut [] (fun wx => Sit2 w wx X C gh hl)
                                                          case first =>
                                                            as_aux_lemma =>
                                                              have a4 := A4.out _ hS14.sit
                                                              have a5 := A5.out _ hS14.sit
                                                              have a6 := A6.out _ hS14.sit
                                                              have far : ¬ gh = w.heap.size := by have := hS14.far; omega
                                                              have far' : ¬ w.heap.size = gh := by have := hS14.far; omega
                                                              have HS : Hid (Sit2 w wc X C gh hl) := hS14
                                                              obtain ⟨z2, c2, _, _⟩ := hS14.head.cell 2 (by omega)
                                                              obtain ⟨z3, c3, _, _⟩ := hS14.head.cell 3 (by omega)
                                                              obtain ⟨z4, c4, _, _⟩ := hS14.head.cell 4 (by omega)
                                                              obtain ⟨z5, c5, _, _⟩ := hS14.head.cell 5 (by omega)
                                                              have fz : ∀ i, wc.frozen? ⟨gh, i, none⟩ = false := hS14.head.free
                                                              clear hS14
                                                              rcases hl2 with rfl | rfl
                                                              · go_wp2
                                                                all_goals (go_meet; case rel => exact (HS.out.set 2 (by first | exact isB_wrap _ | exact isB_mk (by omega) (by omega))).set 3 (by first | exact isB_wrap _ | exact isB_mk (by omega) (by omega)))
                                                              · go_wp2
                                                                all_goals (go_meet; case rel => exact (HS.out.set 4 (by first | exact isB_wrap _ | exact isB_mk (by omega) (by omega))).set 5 (by first | exact isB_wrap _ | exact isB_mk (by omega) (by omega)))
                                                          case rest =>
                                                            as_aux_lemma =>
                                                              have hS15 := hcut
                                                              clear hS14
                                                              apply_assumption
                                                              refine wp_seq_k (fun K hK => ?_)
                                                              go_cut [3] (fun v wx => v = .slice (some ⟨w.heap.size + 1, 0, none⟩) (12 + 4 * T + 2 + hl) C ∧ Sit w wx X C)
                                                              case first =>
                                                                as_aux_lemma =>
                                                                  obtain ⟨news, nl, nc, nb⟩ := hS15.head.news
                                                                  have hfit : 12 + 4 * T + 2 + hl ≤ C := by omega
                                                                  go_wp2_with (at_builtin; refine wpList_append_sit rfl (.tmp 173) (.tmp 174) rfl hS15.sit _ rfl _ hl hl news rfl nl (fun h => by cases h) nc nb hfit ?_; rintro W' hS' - -)
                                                                  go_meet
                                                                  case rel => exact ⟨rfl, hS'⟩
                                                              case rest =>
                                                                as_aux_lemma =>
                                                                  obtain ⟨rfl, hS16⟩ := hcut
                                                                  clear hS15
                                                                  obtain ⟨M, hM⟩ : ∃ M, M = 12 + 4 * T + 2 + hl + n := ⟨_, rfl⟩
                                                                  have hMC : M ≤ C := by have := HC.out; omega
                                                                  apply_assumption
                                                                  refine wp_seq_k (fun K hK => ?_)
                                                                  go_cut [3] (fun v wx => v = .slice (some ⟨w.heap.size + 1, 0, none⟩) M C ∧ Sit w wx X C)
                                                                  case first =>
                                                                    as_aux_lemma =>
                                                                      obtain ⟨news, nl, nc, nb⟩ := body_news HB.out HBA.out HBC.out hS16.below
                                                                      have a7 := A7.out _ hS16
                                                                      have HM : Hid (M = 12 + 4 * T + 2 + hl + n) := hM
                                                                      have hfit : 12 + 4 * T + 2 + hl + n ≤ C := by omega
                                                                      clear hM
                                                                      go_wp2_with (at_builtin; refine wpList_append_sit rfl (.tmp 176) (.tmp 178) rfl hS16 _ rfl ba n cb news rfl nl HNIL.out nc nb hfit ?_; rintro W' hS' - -)
                                                                      go_meet
                                                                      case rel => exact ⟨by rw [HM.out], hS'⟩
                                                                  case rest =>
                                                                    as_aux_lemma =>
                                                                      obtain ⟨rfl, hS17⟩ := hcut
                                                                      clear hS16 hM
                                                                      obtain ⟨c, hc⟩ : ∃ c : Nat, cut = (c : Int) := ⟨cut.toNat, by omega⟩
                                                                      have a8 := A8.out _ hS17
                                                                      rw [hc] at a8
                                                                      apply_assumption
                                                                      refine wp_seq_k (fun K hK => ?_)
                                                                      go_cut [13] (fun v wx => v = .int .i64 (c : Int) ∧ Sit w wx X C)
                                                                      case first =>
                                                                        as_aux_lemma =>
                                                                          have hc256 : (c : Int) < 256 := by omega
                                                                          clear hc
                                                                          go_wp2
                                                                          go_meet
                                                                          case rel => exact ⟨rfl, hS17⟩
                                                                      case rest =>
                                                                        as_aux_lemma =>
                                                                          obtain ⟨rfl, hS18⟩ := hcut
                                                                          clear hS17 a8 hc
                                                                          apply_assumption
                                                                          refine wp_seq_k (fun K hK => ?_)
                                                                          go_cut [13] (fun v wx => ∃ d : Nat, d ≤ M ∧ v = .int .i64 (d : Int) ∧ Sit w wx X C)
                                                                          case first =>
                                                                            as_aux_lemma =>
                                                                              by_cases hd : M < c
                                                                              · go_wp2
                                                                                go_meet
                                                                                case rel => exact ⟨M, Nat.le_refl _, rfl, hS18⟩
                                                                              · go_wp2
                                                                                go_meet
                                                                                case rel => exact ⟨c, by omega, rfl, hS18⟩
                                                                          case rest =>
                                                                            as_aux_lemma =>
                                                                              obtain ⟨d, hd, rfl, hS19⟩ := hcut
                                                                              clear hS18
                                                                              apply_assumption
                                                                              have wd : IntKind.i64.wrap ((M : Int) - (d : Int)) = ((M - d : Nat) : Int) := by rw [IntKind.wrap_i64]; omega
                                                                              have e1 : (M : Int) - (d : Int) = ((M - d : Nat) : Int) := by omega
                                                                              have hdC : M - d ≤ C := by omega
                                                                              obtain ⟨Z, hZ, hZc⟩ := hS19.row.nums
                                                                              obtain ⟨L, hL⟩ : ∃ L, L = M - d := ⟨_, rfl⟩
                                                                              rw [← hL] at wd hdC e1
                                                                              have z1 : ¬ C = 0 := by omega
                                                                              clear hL hd
                                                                              go_wp2
                                                                              exact bodyPost_ret (v := .slice (some ⟨w.heap.size + 1, 0, none⟩) L C) (by simp [results, Ybad.results6, go_sem]) rfl ⟨L, C, Z, rfl, hdC, hCc, hZ, fun i hi => hZc i (by omega), hS19.below⟩
end Go.Proofs.YbulkweqDoor
