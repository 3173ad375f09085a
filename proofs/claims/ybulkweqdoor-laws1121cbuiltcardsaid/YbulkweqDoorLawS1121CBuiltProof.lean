/-
  'Rows.LawS1121CBuiltCardSaid': the row out of the walks, and the tied card.
-/
import Derived.Test.YbulkweqDoorRows
import Derived.Test.YbulkweqDoorCards
import Derived.Test.YbulkweqDoorTie
import Derived.Test.YbulkweqDoorOpen
import Derived.Test.YbulkweqDoorLaw
import Derived.WalkKit
import Derived.ProofKit
import Derived.LaidMore
import Derived.Lay
import Derived.OpenShut
import Derived.Stop.Joined
import Derived.ChangeOld
import Derived.Below
import Derived.SevenTiedAt
namespace Go.Proofs.YbulkweqDoor.lawS1121CBuilt
open Go.ChangeShapes Go.WideShapes Go.ChangeAt Go.RowKit
set_option linter.unusedVariables false

theorem own : ownKnob Ybad.prog.godebug = none := by kernel_rfl
theorem laidOut : laidOutB Ybad.prog = true := by kernel_rfl

/-- A world in which the two listed variables lie meets the condition. -/
theorem laid_met (os : Os) (args : Array Value) : laidMetH Ybad.prog Rows.lawS1121CBuiltRow.laid ((World.laidAll Ybad.prog os Rows.lawS1121CBuiltRow.laid).forCall (fun _ _ => 0) ⟨#[], args, []⟩).memory := by
  rw [MakeChecks.laidMetH_plain _ _ _ (by kernel_rfl)]
  exact laidMet_laidAll _ (by kernel_rfl) (by kernel_rfl)

set_option maxRecDepth 100000 in
theorem lifted (os : Os) (started : os.Started) (H : Type) (enc : TypeId × Value → H) :
    ReturnsInHanded {} Ybad.checked os 3 .any (fun w args => (Rows.lawS1121CBuiltSpec.pre enc Ybad.prog Ybad.f3 [] false w args ∧ laidMetH Ybad.prog Rows.lawS1121CBuiltRow.laid w) ∧ sizedMet enc Ybad.prog Ybad.f3 (OpenSpec.ofChange Rows.lawS1121CBuiltSpec) false w args)
      (Rows.lawS1121CBuiltSpec.post enc Ybad.prog Ybad.f3 false true false false) := by
  refine returnsInHanded_of_change_and (C := Ybad.checked) (X := fun w _ => laidMetH Ybad.prog Rows.lawS1121CBuiltRow.laid w) (fun _ _ _ hh h => h.of_heap hh) own started (by kernel_rfl) Ybad.func3
    (ChangeSpec.witness_shaped (enc := enc) (C := Ybad.checked) (os := os) (X := fun w _ => laidMetH Ybad.prog Rows.lawS1121CBuiltRow.laid w) false (World.laidAll Ybad.prog os Rows.lawS1121CBuiltRow.laid) #[.agg (argX 0 0 0 0 0 0 0 0 none 0 0)] 8 (World.laidAll_os _ _ _) (World.shaped_of_ZipB (by kernel_rfl) (by kernel_rfl)) (by kernel_rfl) (by kernel_rfl) (by kernel_rfl) (laid_met os _)) ?_
  intro W base args ds gs before hval0 hW _ _ hL _
  have hval : ∀ (j : Nat) t v, Ybad.f3.params[j]? = some t → args[j]? = some v → Value.okWide Ybad.prog W .any base t v := hval0
  have hW' := hW
  obtain ⟨p, q, hA0, hV, rfl, hfz, hnd⟩ := hW
  have hA : DataW.TrodAll enc Ybad.prog W 0 (fun _ => true) true Ybad.f3.params.toList args.toList ds p := hA0
  rw [Ybad.params3] at hA hval
  obtain ⟨v0, d0, rfl, rfl, h0⟩ := trodAll_one hA
  obtain ⟨rfl, rfl⟩ := trodVars_none hV
  obtain ⟨p4, p6, k4, k6⟩ := of_laid hL
  have lt0 : ∀ x ∈ p, x.block < W.heap.size := by obtain ⟨m, hm⟩ := h0; exact DataW.trod_lt m _ _ _ hm
  obtain ⟨tags, tk, kind, raw, flip, ihl, total, cut, ba, n, cb, bb, bo, B, hv, t0, t1, t2, t3, t4, t5, t6, t8, hB, hba, hbc, hnil⟩ := arg_open (hval 0 25 v0 rfl rfl) h0
  clear hA0 hval0
  have walk : Calls Ybad.prog 3 #[v0] W fun e w' => e = .returned (.bool true) ∧ Below W.heap.size W w' := by
    rw [hv]
    by_cases hlong : 1024 < n
    · exact law_long tags tk kind raw flip ihl total cut ba n cb W hlong
    · exact law_short tags tk kind raw flip ihl total cut ba n cb bb bo B p4 p6 W (by omega) hB hba hbc hnil t0 t1 t2 t3 t4 t5 t6 t8 k4 k6
  refine walk.mono fun e W' ⟨he, bel⟩ => ?_
  subst he
  exact ⟨_, rfl, _, _, _, [], _, [], hW', trodAll_mk1 (shut_bool Ybad.underlying4 _),
    trodAll_mk1 (Below.trod laidOut (by kernel_rfl) (of_decide_eq_true (by kernel_rfl)) h0 bel lt0), rfl, bel.frame _, fun h => by cases h⟩

theorem over : Rows.lawS1121CBuiltRow.holds Ybad.pinned (OpenSpec.ofChange Rows.lawS1121CBuiltSpec) :=
  OpenClaim.holds_of_wide 3 Ybad.f3 rfl rfl rfl rfl rfl rfl rfl ⟨rfl, rfl, rfl, rfl, rfl⟩ rfl rfl rfl rfl rfl (by kernel_rfl) Ybad.func3 (by kernel_rfl)
    (of_decide_eq_true (by kernel_rfl)) (by unfold Func.isWrapper; first | (rw [if_pos (by decide +kernel)]; kernel_rfl) | (rw [if_neg (by decide +kernel)]; exact ⟨rfl, rfl⟩))
    (fun os started H enc _ => lifted os started H enc)

/-- The statement: the tied card. -/
theorem proved : Rows.LawS1121CBuiltCardSaid :=
  Claim7.holds_tied_plain_at .later [] [.called, .called] true (true, "4b21909758877241de054adab250e35a09956ab241427986f88c5b99b4a2cfba") false
    over (fun _ h => by cases h) (by kernel_rfl) (fun _ h => by cases h) lawS1121CBuilt_row_tie rfl ⟨rfl, rfl⟩ (by kernel_rfl) rfl
    (fun f fn hf hfn => by
      obtain rfl : f = 3 := Option.some.inj ((show Ybad.prog.funcNamed "example.com/handover-forge/handover-forge/internal/capture.LawS1121CBuilt" = some 3 by kernel_rfl).symm.trans hf) |>.symm
      obtain rfl : fn = Ybad.f3 := (Option.some.inj (Ybad.func3.symm.trans hfn)).symm
      exact ⟨by kernel_rfl, fun j t ht => by
        rw [Ybad.params3] at ht
        have hm : t ∈ [25] := by simpa using Array.mem_of_getElem? ht
        have hall : ([25].all fun u => !Ybad.prog.wantsStandIn u) = true := by kernel_rfl
        exact (show Ybad.prog.wantsStandIn t = false by simpa using List.all_eq_true.1 hall t hm)⟩)
    (by kernel_rfl)
#print axioms proved
end Go.Proofs.YbulkweqDoor.lawS1121CBuilt
