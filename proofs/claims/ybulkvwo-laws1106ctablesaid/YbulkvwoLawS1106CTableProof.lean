/-
  THE SHELL OF A PROOF OF 'Rows.LawS1106CTableSaid' ('example.com/spanreckon/spanreckon.LawS1106CTable'), WRITTEN BY PROGRAM (proof-skeleton.mjs) off the guide's own print for that function. Not trusted: Lean checks it.
  The hole is filled: the walk.
-/
import Derived.Test.YbulkvwoRows
import Derived.Test.YbulkvwoPair
import Derived.WalkKit
import Derived.ProofKit
import Derived.OpenShut
import Derived.ShutString
namespace Go.Proofs.Ybulkvwo.lawS1106CTable
open Go.ChangeShapes Go.WideShapes Go.ChangeAt Go.RowKit
open Go.ChangeMaps (open_string shut_string)
set_option linter.unusedVariables false      -- a walk need not use every 'w<i>' (that an integer argument fits its kind)

theorem own : ownKnob Yba.prog.godebug = none := by kernel_rfl

theorem byte_le (c : UInt8) : (c.toNat : Int) ≤ 255 := by
  have := c.toNat_lt
  omega

/-! ### STEP 1: THE WALK: the Go text returns true. 'Grown w w'': the world has at most new blocks (Derived/RowKit3.lean). Part the cases AHEAD of 'go_enter' where a test parts the walk; take each callee by a contract of your own. -/
theorem walk (a0 : Int) (a1 : Int) (a2 : ByteArray) (w0 : (Lit.int .u8 a0).wf = true) (w1 : (Lit.int .u8 a1).wf = true) (w2 : a2.size ≤ maxLen) (w : World) :
    Calls Yba.prog 5 #[.int .u8 a0, .int .u8 a1, .string a2] w fun e w' => e = .returned (.bool true) ∧ Grown w w' := by
  obtain ⟨p0, q0⟩ := bounds_u8 w0
  obtain ⟨p1, q1⟩ := bounds_u8 w1
  by_cases hl : a2.size ≤ 1024
  · have hi0 : (a0 % 14).toNat < ({ data := #[48, 49, 50, 51, 52, 53, 54, 55, 56, 57, 47, 58, 97, 32] } : ByteArray).size := by show _ < 14; omega
    have hi1 : (a1 % 14).toNat < ({ data := #[48, 49, 50, 51, 52, 53, 54, 55, 56, 57, 47, 58, 97, 32] } : ByteArray).size := by show _ < 14; omega
    obtain ⟨x, x0, x1, hx⟩ : ∃ x : Int, 0 ≤ x ∧ x ≤ 255 ∧ ((({ data := #[48, 49, 50, 51, 52, 53, 54, 55, 56, 57, 47, 58, 97, 32] } : ByteArray)[(a0 % 14).toNat]'hi0).toNat : Int) = x :=
      ⟨_, Int.natCast_nonneg _, byte_le _, rfl⟩
    obtain ⟨y, y0, y1, hy⟩ : ∃ y : Int, 0 ≤ y ∧ y ≤ 255 ∧ ((({ data := #[48, 49, 50, 51, 52, 53, 54, 55, 56, 57, 47, 58, 97, 32] } : ByteArray)[(a1 % 14).toNat]'hi1).toNat : Int) = y :=
      ⟨_, Int.natCast_nonneg _, byte_le _, rfl⟩
    obtain ⟨t, ht, hb, hconv⟩ := pair_string x y x0 x1 y0 y1 w
    have HB : Hid (∀ (u : ByteArray) (h0 : 0 < (t ++ u).size) (h1 : 1 < (t ++ u).size), (((t ++ u)[0]'h0).toNat : Int) = x ∧ (((t ++ u)[1]'h1).toNat : Int) = y) := hb
    clear hb
    have hsum : ¬ (t.size + a2.size > 9223372036854775807) := by omega
    go_enter Yba.func5, Yba.ntmps5
    go_wp2_with fail
    refine (check_pair t a2 x y x0 x1 y0 y1 ht HB.out _).mono ?_
    rintro e w' ⟨rfl, rfl⟩
    go_wp2
    go_ret
    exact ⟨rfl, by repeat (first | exact Grown.refl _ | apply Grown.drew | apply Grown.alloc)⟩
  · go_enter Yba.func5, Yba.ntmps5
    go_wp2
    go_ret
    exact ⟨rfl, Grown.refl _⟩

/-! ### THE ROW's STEP: WRITTEN OUT: LEAVE IT -/
set_option maxRecDepth 100000 in
theorem lifted (os : Os) (started : os.Started) (H : Type) (enc : TypeId × Value → H) :
    ReturnsInHanded {} Yba.checked os 5 .any (Rows.lawS1106CTableSpec.pre6 enc Yba.prog Yba.f5 Rows.lawS1106CTableRow.domain false) (Rows.lawS1106CTableSpec.post enc Yba.prog Yba.f5 false true false false) := by
  refine returnsInHanded_of_change (C := Yba.checked) own started (by kernel_rfl) Yba.func5
    (ChangeSpec.witness6 (enc := enc) (C := Yba.checked) false ⟨#[], #[.int .u8 0, .int .u8 0, .string ByteArray.empty], []⟩ 8 (by kernel_rfl) (by kernel_rfl) (by kernel_rfl) (by kernel_rfl)) ?_
  intro W base args ds gs before hval0 hW hcnd _
  have hval : ∀ (j : Nat) t v, Yba.f5.params[j]? = some t → args[j]? = some v → Value.okWide Yba.prog W .any base t v := hval0
  have hW' := hW
  obtain ⟨p, q, hA0, hV, rfl, hfz, hnd⟩ := hW
  have hA : DataW.TrodAll enc Yba.prog W 0 (fun _ => true) true Yba.f5.params.toList args.toList ds p := hA0
  rw [Yba.params5] at hA hval
  obtain ⟨v0, vs0, d0, ds0, p0, q0, hargs, rfl, rfl, h0, r0⟩ := trodAll_cons hA
  obtain ⟨v1, vs1, d1, ds1, p1, q1, rfl, rfl, rfl, h1, r1⟩ := trodAll_cons r0
  obtain ⟨v2, vs2, d2, ds2, p2, q2, rfl, rfl, rfl, h2, r2⟩ := trodAll_cons r1
  obtain ⟨rfl, rfl, rfl⟩ := trodAll_nil r2
  obtain rfl : args = #[v0, v1, v2] := by cases args; simp_all
  obtain ⟨rfl, rfl⟩ := trodVars_none hV
  obtain ⟨a0, rfl, rfl, rfl, w0⟩ := open_int Yba.underlying5 (hval 0 5 v0 rfl rfl) h0
  obtain ⟨a1, rfl, rfl, rfl, w1⟩ := open_int Yba.underlying5 (hval 1 5 v1 rfl rfl) h1
  obtain ⟨a2, rfl, rfl, rfl, w2⟩ := open_string Yba.underlying9 (hval 2 9 v2 rfl rfl) h2
  clear hA0 hval0
  simp only [List.append_nil] at hW'
  refine (walk a0 a1 a2 w0 w1 w2 W).mono fun e W' ⟨he, hg⟩ => ?_
  subst he
  exact ⟨_, rfl, post_of_same (pa := []) (pv := []) hW' (fun _ _ _ => (trodAll_cons_mk (shut_bool Yba.underlying4 _) trodAll_mk0)) (fun sp _ => (trodAll_cons_mk (shut_int Yba.underlying5 w0) (trodAll_cons_mk (shut_int Yba.underlying5 w1) (trodAll_cons_mk (shut_string Yba.underlying9 w2) trodAll_mk0)))) (fun _ _ => rfl) rfl
    (hg.frame _) hg.2.1 (ok_one (by kernel_rfl) rfl (okWide_bool_mk Yba.underlying4 _))⟩

theorem over : Rows.lawS1106CTableRow.holds Yba.pinned (OpenSpec.ofChange Rows.lawS1106CTableSpec) :=
  OpenClaim.holds_of_wide 5 Yba.f5 rfl rfl rfl rfl rfl rfl rfl ⟨rfl, rfl, rfl, rfl, rfl⟩ rfl rfl rfl rfl rfl (by kernel_rfl) Yba.func5 (by kernel_rfl)
    (of_decide_eq_true (by kernel_rfl)) (by unfold Func.isWrapper; first | (rw [if_pos (by decide +kernel)]; kernel_rfl) | (rw [if_neg (by decide +kernel)]; exact ⟨rfl, rfl⟩))
    (fun os started H enc _ => lifted os started H enc)

/-- ████ THE STATEMENT ████ -/
theorem proved : Rows.LawS1106CTableSaid :=
  over
#print axioms proved
end Go.Proofs.Ybulkvwo.lawS1106CTable
