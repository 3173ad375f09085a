/-
  THE SHELL OF A PROOF OF 'Rows.LawS1106BRestIsSaid' ('example.com/spanreckon/spanreckon/internal/expr.LawS1106BRestIs'), WRITTEN BY PROGRAM (proof-skeleton.mjs) off the guide's own print for that function. Not trusted: Lean checks it.
  The hole is filled: the walk.
-/
import Derived.Test.YbulkvwoRows
import Derived.Test.YbulkvwoRest
import Derived.Test.YbulkvwoPos
import Derived.WalkKit
import Derived.ProofKit
import Derived.OpenShut
import Derived.ShutString
namespace Go.Proofs.Ybulkvwo.lawS1106BRestIs
open Go.ChangeShapes Go.WideShapes Go.ChangeAt Go.RowKit
open Go.ChangeMaps (open_string shut_string)
set_option linter.unusedVariables false      -- a walk need not use every 'w<i>' (that an integer argument fits its kind)

theorem own : ownKnob Yba.prog.godebug = none := by kernel_rfl

/-! ### STEP 1: THE WALK: the Go text returns true. 'Grown w w'': the world has at most new blocks (Derived/RowKit3.lean). Part the cases AHEAD of 'go_enter' where a test parts the walk; take each callee by a contract of your own. -/
theorem walk (a0 : ByteArray) (a1 : Int) (a2 : ByteArray) (a3 : Bool) (w0 : a0.size ≤ maxLen) (w1 : (Lit.int .u64 a1).wf = true) (w2 : a2.size ≤ maxLen) (w : World) :
    Calls Yba.prog 4 #[.string a0, .int .u64 a1, .string a2, .bool a3] w fun e w' => e = .returned (.bool true) ∧ Grown w w' := by
  have hw0 := w0
  have hnz := pos_ne a0.size hw0
  have hp0 := pos_le a0.size a1
  obtain ⟨p, hpp⟩ : ∃ p, a1.toNat % (a0.size + 1) = p := ⟨_, rfl⟩
  rw [hpp] at hp0
  have HP : Hid (a1.toNat % (a0.size + 1) = p) := hpp
  clear hpp
  unfold maxLen at w0
  cases a3 with
  | true =>
    go_enter Yba.func4, Yba.ntmps4
    go_wp2_with fail
    clear hnz
    rw [pos_eq a0.size a1 hw0 w1, HP.out]
    generalize IntKind.u64.wrap (wrap64 ((a0.size : Int) + 1)) = z1
    generalize wrap64 ((a0.size : Int) + 1) = z2
    refine (rest_any a0 p hw0 hp0 w.heap.size _ (by simp) (by simp)).mono ?_
    rintro e w' ⟨rfl, rfl⟩
    go_wp2_with fail
    refine (restIs_yes a0 _ p hw0 hp0 (w.heap.size + 1) _ (by simp) (by simp) (by simp) (by simp)).mono ?_
    rintro e w' ⟨rfl, rfl⟩
    go_wp2
    go_ret
    exact ⟨rfl, by repeat (first | exact Grown.refl _ | apply Grown.drew | apply Grown.alloc)⟩
  | false =>
    by_cases ht : ((a0.extract (restAt a0 p) a0.size).toList == a2.toList) = true
    · go_enter Yba.func4, Yba.ntmps4
      go_wp2_with fail
      clear hnz
      rw [pos_eq a0.size a1 hw0 w1, HP.out]
      generalize IntKind.u64.wrap (wrap64 ((a0.size : Int) + 1)) = z1
      generalize wrap64 ((a0.size : Int) + 1) = z2
      refine (rest_any a0 p hw0 hp0 w.heap.size _ (by simp) (by simp)).mono ?_
      rintro e w' ⟨rfl, rfl⟩
      go_wp2_with fail
      refine (restIs_yes a0 _ p hw0 hp0 (w.heap.size + 1) _ (by simp) (by simp) (by simp) ht).mono ?_
      rintro e w' ⟨rfl, rfl⟩
      go_wp2
      go_ret
      exact ⟨rfl, by repeat (first | exact Grown.refl _ | apply Grown.drew | apply Grown.alloc)⟩
    · replace ht : ((a0.extract (restAt a0 p) a0.size).toList == a2.toList) = false := by simpa using ht
      go_enter Yba.func4, Yba.ntmps4
      go_wp2_with fail
      clear hnz
      rw [pos_eq a0.size a1 hw0 w1, HP.out]
      generalize IntKind.u64.wrap (wrap64 ((a0.size : Int) + 1)) = z1
      generalize wrap64 ((a0.size : Int) + 1) = z2
      refine (rest_any a0 p hw0 hp0 w.heap.size _ (by simp) (by simp)).mono ?_
      rintro e w' ⟨rfl, rfl⟩
      go_wp2_with fail
      refine (restIs_no a0 _ p hw0 hp0 (w.heap.size + 1) _ (by simp) (by simp) ht).mono ?_
      rintro e w' ⟨rfl, rfl⟩
      go_wp2
      go_ret
      exact ⟨rfl, by repeat (first | exact Grown.refl _ | apply Grown.drew | apply Grown.alloc)⟩

/-! ### THE ROW's STEP: WRITTEN OUT: LEAVE IT -/
set_option maxRecDepth 100000 in
theorem lifted (os : Os) (started : os.Started) (H : Type) (enc : TypeId × Value → H) :
    ReturnsInHanded {} Yba.checked os 4 .any (Rows.lawS1106BRestIsSpec.pre6 enc Yba.prog Yba.f4 Rows.lawS1106BRestIsRow.domain false) (Rows.lawS1106BRestIsSpec.post enc Yba.prog Yba.f4 false true false false) := by
  refine returnsInHanded_of_change (C := Yba.checked) own started (by kernel_rfl) Yba.func4
    (ChangeSpec.witness6 (enc := enc) (C := Yba.checked) false ⟨#[], #[.string ByteArray.empty, .int .u64 0, .string ByteArray.empty, .bool false], []⟩ 8 (by kernel_rfl) (by kernel_rfl) (by kernel_rfl) (by kernel_rfl)) ?_
  intro W base args ds gs before hval0 hW hcnd _
  have hval : ∀ (j : Nat) t v, Yba.f4.params[j]? = some t → args[j]? = some v → Value.okWide Yba.prog W .any base t v := hval0
  have hW' := hW
  obtain ⟨p, q, hA0, hV, rfl, hfz, hnd⟩ := hW
  have hA : DataW.TrodAll enc Yba.prog W 0 (fun _ => true) true Yba.f4.params.toList args.toList ds p := hA0
  rw [Yba.params4] at hA hval
  obtain ⟨v0, vs0, d0, ds0, p0, q0, hargs, rfl, rfl, h0, r0⟩ := trodAll_cons hA
  obtain ⟨v1, vs1, d1, ds1, p1, q1, rfl, rfl, rfl, h1, r1⟩ := trodAll_cons r0
  obtain ⟨v2, vs2, d2, ds2, p2, q2, rfl, rfl, rfl, h2, r2⟩ := trodAll_cons r1
  obtain ⟨v3, vs3, d3, ds3, p3, q3, rfl, rfl, rfl, h3, r3⟩ := trodAll_cons r2
  obtain ⟨rfl, rfl, rfl⟩ := trodAll_nil r3
  obtain rfl : args = #[v0, v1, v2, v3] := by cases args; simp_all
  obtain ⟨rfl, rfl⟩ := trodVars_none hV
  obtain ⟨a0, rfl, rfl, rfl, w0⟩ := open_string Yba.underlying9 (hval 0 9 v0 rfl rfl) h0
  obtain ⟨a1, rfl, rfl, rfl, w1⟩ := open_int Yba.underlying22 (hval 1 22 v1 rfl rfl) h1
  obtain ⟨a2, rfl, rfl, rfl, w2⟩ := open_string Yba.underlying9 (hval 2 9 v2 rfl rfl) h2
  obtain ⟨a3, rfl, rfl, rfl⟩ := open_bool Yba.underlying4 (hval 3 4 v3 rfl rfl) h3
  clear hA0 hval0
  simp only [List.append_nil] at hW'
  refine (walk a0 a1 a2 a3 w0 w1 w2 W).mono fun e W' ⟨he, hg⟩ => ?_
  subst he
  exact ⟨_, rfl, post_of_same (pa := []) (pv := []) hW' (fun _ _ _ => (trodAll_cons_mk (shut_bool Yba.underlying4 _) trodAll_mk0)) (fun sp _ => (trodAll_cons_mk (shut_string Yba.underlying9 w0) (trodAll_cons_mk (shut_int Yba.underlying22 w1) (trodAll_cons_mk (shut_string Yba.underlying9 w2) (trodAll_cons_mk (shut_bool Yba.underlying4 _) trodAll_mk0))))) (fun _ _ => rfl) rfl
    (hg.frame _) hg.2.1 (ok_one (by kernel_rfl) rfl (okWide_bool_mk Yba.underlying4 _))⟩

theorem over : Rows.lawS1106BRestIsRow.holds Yba.pinned (OpenSpec.ofChange Rows.lawS1106BRestIsSpec) :=
  OpenClaim.holds_of_wide 4 Yba.f4 rfl rfl rfl rfl rfl rfl rfl ⟨rfl, rfl, rfl, rfl, rfl⟩ rfl rfl rfl rfl rfl (by kernel_rfl) Yba.func4 (by kernel_rfl)
    (of_decide_eq_true (by kernel_rfl)) (by unfold Func.isWrapper; first | (rw [if_pos (by decide +kernel)]; kernel_rfl) | (rw [if_neg (by decide +kernel)]; exact ⟨rfl, rfl⟩))
    (fun os started H enc _ => lifted os started H enc)

/-- ████ THE STATEMENT ████ -/
theorem proved : Rows.LawS1106BRestIsSaid :=
  over
#print axioms proved
end Go.Proofs.Ybulkvwo.lawS1106BRestIs
