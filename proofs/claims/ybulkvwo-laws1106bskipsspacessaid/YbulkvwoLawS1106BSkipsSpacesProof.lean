/-
  THE SHELL OF A PROOF OF 'Rows.LawS1106BSkipsSpacesSaid' ('example.com/spanreckon/spanreckon/internal/expr.LawS1106BSkipsSpaces'), WRITTEN BY PROGRAM (proof-skeleton.mjs) off the guide's own print for that function. Not trusted: Lean checks it.
  The hole is filled: the walk.
-/
import Derived.Test.YbulkvwoRows
import Derived.Test.YbulkvwoRest
import Derived.Test.YbulkvwoPos
import Derived.WalkKit
import Derived.ProofKit
import Derived.OpenShut
import Derived.ShutString
namespace Go.Proofs.Ybulkvwo.lawS1106BSkipsSpaces
open Go.ChangeShapes Go.WideShapes Go.ChangeAt Go.RowKit
open Go.ChangeMaps (open_string shut_string)
set_option linter.unusedVariables false      -- a walk need not use every 'w<i>' (that an integer argument fits its kind)

theorem own : ownKnob Yba.prog.godebug = none := by kernel_rfl

/-! ### STEP 1: THE WALK: the Go text returns true. 'Grown w w'': the world has at most new blocks (Derived/RowKit3.lean). Part the cases AHEAD of 'go_enter' where a test parts the walk; take each callee by a contract of your own. -/
theorem walk (a0 : ByteArray) (a1 : Int) (w0 : a0.size ≤ maxLen) (w1 : (Lit.int .u64 a1).wf = true) (w : World) :
    Calls Yba.prog 3 #[.string a0, .int .u64 a1] w fun e w' => e = .returned (.bool true) ∧ Grown w w' := by
  have hw0 := w0
  unfold maxLen at w0
  have hnz := pos_ne a0.size hw0
  go_enter Yba.func3, Yba.ntmps3
  go_wp2_with fail
  clear hnz
  rw [pos_eq a0.size a1 hw0 w1]
  have hp := pos_le a0.size a1
  generalize a1.toNat % (a0.size + 1) = p at hp ⊢
  generalize IntKind.u64.wrap (wrap64 ((a0.size : Int) + 1)) = z1
  generalize wrap64 ((a0.size : Int) + 1) = z2
  refine (rest_any a0 p hw0 hp w.heap.size _ (by simp) (by simp)).mono ?_
  rintro e w' ⟨rfl, rfl⟩
  have hq1 := restAt_ge a0 p
  have hq2 := restAt_le a0 p hp
  have hin := restAt_between a0 p
  have hout := restAt_stop a0 p
  generalize restAt a0 p = q at hq1 hq2 hin hout ⊢
  have HI : Hid (∀ (j : Nat), p ≤ j → j < q → ∀ (hj : j < a0.size), a0[j] = 32) := hin
  have HO : Hid (∀ (h : q < a0.size), a0[q] ≠ 32) := hout
  clear hin hout
  have hk : (a0.size : Int) - ((a0.size - q : Nat) : Int) = (q : Int) := by omega
  go_wp2
  go_loop [9] (fun i => ∃ j : Nat, p ≤ j ∧ j ≤ q ∧ i = .int .i64 j) (fun i => q - (intOf i).toNat)
  case atStart => exact ⟨p, Nat.le_refl _, hq1, rfl⟩
  case round =>
    obtain ⟨j, hj1, hj2, rfl⟩ := hrel
    by_cases hlt : j < q
    · have hjs : j < a0.size := by omega
      have hb : (((a0[j]).toNat : Int) != 32) = false := by rw [HI.out j hj1 hlt hjs]; rfl
      go_wp2
      go_round
      case rel => exact ⟨j + 1, by omega, by omega, by go_num⟩
      case measure => simp [intOf]; omega
    · obtain rfl : j = q := by omega
      by_cases hz : j < a0.size
      · have h0s : 0 < (a0.extract j a0.size).size := by rw [ByteArray.size_extract]; omega
        have hb : ((((a0.extract j a0.size)[0]'h0s).toNat : Int) == 32) = false := by
          rw [beq_eq_false_iff_ne]
          intro h
          apply HO.out hz
          apply UInt8.toNat_inj.1
          have h1 : (a0.extract j a0.size)[0]'h0s = a0[j] := by rw [ByteArray.getElem_extract]; simp
          rw [h1] at h
          have h2 : ((a0[j]).toNat : Int) = 32 := h
          have h3 : (32 : UInt8).toNat = 32 := rfl
          omega
        go_wp2
        go_ret
        exact ⟨rfl, by repeat (first | exact Grown.refl _ | apply Grown.drew | apply Grown.alloc)⟩
      · go_wp2
        go_ret
        exact ⟨rfl, by repeat (first | exact Grown.refl _ | apply Grown.drew | apply Grown.alloc)⟩

/-! ### THE ROW's STEP: WRITTEN OUT: LEAVE IT -/
set_option maxRecDepth 100000 in
theorem lifted (os : Os) (started : os.Started) (H : Type) (enc : TypeId × Value → H) :
    ReturnsInHanded {} Yba.checked os 3 .any (Rows.lawS1106BSkipsSpacesSpec.pre6 enc Yba.prog Yba.f3 Rows.lawS1106BSkipsSpacesRow.domain false) (Rows.lawS1106BSkipsSpacesSpec.post enc Yba.prog Yba.f3 false true false false) := by
  refine returnsInHanded_of_change (C := Yba.checked) own started (by kernel_rfl) Yba.func3
    (ChangeSpec.witness6 (enc := enc) (C := Yba.checked) false ⟨#[], #[.string ByteArray.empty, .int .u64 0], []⟩ 8 (by kernel_rfl) (by kernel_rfl) (by kernel_rfl) (by kernel_rfl)) ?_
  intro W base args ds gs before hval0 hW hcnd _
  have hval : ∀ (j : Nat) t v, Yba.f3.params[j]? = some t → args[j]? = some v → Value.okWide Yba.prog W .any base t v := hval0
  have hW' := hW
  obtain ⟨p, q, hA0, hV, rfl, hfz, hnd⟩ := hW
  have hA : DataW.TrodAll enc Yba.prog W 0 (fun _ => true) true Yba.f3.params.toList args.toList ds p := hA0
  rw [Yba.params3] at hA hval
  obtain ⟨v0, vs0, d0, ds0, p0, q0, hargs, rfl, rfl, h0, r0⟩ := trodAll_cons hA
  obtain ⟨v1, vs1, d1, ds1, p1, q1, rfl, rfl, rfl, h1, r1⟩ := trodAll_cons r0
  obtain ⟨rfl, rfl, rfl⟩ := trodAll_nil r1
  obtain rfl : args = #[v0, v1] := by cases args; simp_all
  obtain ⟨rfl, rfl⟩ := trodVars_none hV
  obtain ⟨a0, rfl, rfl, rfl, w0⟩ := open_string Yba.underlying9 (hval 0 9 v0 rfl rfl) h0
  obtain ⟨a1, rfl, rfl, rfl, w1⟩ := open_int Yba.underlying22 (hval 1 22 v1 rfl rfl) h1
  clear hA0 hval0
  simp only [List.append_nil] at hW'
  refine (walk a0 a1 w0 w1 W).mono fun e W' ⟨he, hg⟩ => ?_
  subst he
  exact ⟨_, rfl, post_of_same (pa := []) (pv := []) hW' (fun _ _ _ => (trodAll_cons_mk (shut_bool Yba.underlying4 _) trodAll_mk0)) (fun sp _ => (trodAll_cons_mk (shut_string Yba.underlying9 w0) (trodAll_cons_mk (shut_int Yba.underlying22 w1) trodAll_mk0))) (fun _ _ => rfl) rfl
    (hg.frame _) hg.2.1 (ok_one (by kernel_rfl) rfl (okWide_bool_mk Yba.underlying4 _))⟩

theorem over : Rows.lawS1106BSkipsSpacesRow.holds Yba.pinned (OpenSpec.ofChange Rows.lawS1106BSkipsSpacesSpec) :=
  OpenClaim.holds_of_wide 3 Yba.f3 rfl rfl rfl rfl rfl rfl rfl ⟨rfl, rfl, rfl, rfl, rfl⟩ rfl rfl rfl rfl rfl (by kernel_rfl) Yba.func3 (by kernel_rfl)
    (of_decide_eq_true (by kernel_rfl)) (by unfold Func.isWrapper; first | (rw [if_pos (by decide +kernel)]; kernel_rfl) | (rw [if_neg (by decide +kernel)]; exact ⟨rfl, rfl⟩))
    (fun os started H enc _ => lifted os started H enc)

/-- ████ THE STATEMENT ████ -/
theorem proved : Rows.LawS1106BSkipsSpacesSaid :=
  over
#print axioms proved
end Go.Proofs.Ybulkvwo.lawS1106BSkipsSpaces
