/-
  The contracts of 'zzs1108alast' (5) and of the closure 'at' (6).
-/
import Derived.Test.YbulkvxqChecked
import Derived.Test.YbulkvxqPlain
import Derived.WalkKit
import Derived.WalkSpells
import Derived.Maps.OwnSet
namespace Go.Proofs.Ybulkvxq
open Go.RowKit Go.Maps

theorem ret_int {k : IntKind} {a b : Int} (h : a = b) : Ending.returned (.int k a) = .returned (.int k b) := by rw [h]

set_option maxHeartbeats 400000 in
theorem last_any (N : Nat → ByteArray) (n : Nat) (hn : n ≤ 1024) (b cap : Nat) (s : ByteArray) (w : World)
    (hc : ∀ i, i < n → w.cell? ⟨b, i, none⟩ = some (.string (N i))) :
    Calls Yba.prog 5 #[.slice (some ⟨b, 0, none⟩) n cap, .string s] w fun e w' => e = .returned (.int .i64 (lastTo N s n)) ∧ w' = w := by
  go_enter Yba.func5, Yba.ntmps5
  go_wp2
  go_loop [5] (fun j => (j = .int .i64 (-1) ∧ lastTo N s n = -1) ∨ ∃ k : Nat, k < n ∧ j = .int .i64 k ∧ lastTo N s n = lastTo N s (k + 1)) (fun j => (intOf j + 1).toNat)
  case atStart =>
    by_cases h0 : n = 0
    · subst h0; exact Or.inl ⟨rfl, rfl⟩
    · exact Or.inr ⟨n - 1, by omega, by go_num, by rw [show n - 1 + 1 = n from by omega]⟩
  case round =>
    rcases hrel with ⟨rfl, h⟩ | ⟨k, hk, rfl, h⟩
    · have H : Hid (lastTo N s n = -1) := h
      clear h
      go_wp2
      go_ret
      exact ⟨ret_int H.out.symm, rfl⟩
    · have H : Hid (lastTo N s n = lastTo N s (k + 1)) := h
      clear h
      have hck := hc k hk
      by_cases hs : same (N k) s = true
      · have H2 : Hid (lastTo N s n = (k : Int)) := H.out.trans (lastTo_pos N s k hs)
        have hb : ((N k).toList == s.toList) = true := hs
        clear hs
        go_wp2
        go_ret
        exact ⟨ret_int H2.out.symm, rfl⟩
      · have H2 : Hid (lastTo N s n = lastTo N s k) := H.out.trans (lastTo_neg N s k hs)
        have hb : ((N k).toList == s.toList) = false := by simpa [same] using hs
        clear hs
        go_wp2
        go_round
        case rel =>
          match k, H2 with
          | 0, H2 => exact Or.inl ⟨rfl, H2.out⟩
          | k + 1, H2 => exact Or.inr ⟨k, by omega, by go_num, H2.out⟩
        case measure => simp [intOf]

theorem keyed : Keyed Yba.prog 9 := string_keyed Yba.underlying9
theorem zero3 (w : World) : (zeroValue 3).run Yba.prog w = .ok (.int .i64 0) w := by kernel_rfl
theorem keyOf_str (s : ByteArray) (h : s.size ≤ maxLen) : keyOf Yba.prog 9 (.string s) = some (key s) := WideMaps.keyOf_string_mk Yba.underlying9 h

set_option maxHeartbeats 400000 in
/-- The closure 'at' where the node is there. -/
theorem at_ok (N : Nat → ByteArray) (n : Nat) (s : ByteArray) (hs : s.size ≤ maxLen) (bv bb bm bn q : Nat) (w : World)
    (cv : w.cell? ⟨bv, 0, none⟩ = some (.pointer (some ⟨bb, 0, none⟩))) (cm : w.cell? ⟨bb, 2, none⟩ = some (.map (some bm)))
    (hown : w.ownsMap Yba.prog 9 (plainElem Yba.prog 3) bm q (fillD N (fun i => (i : Int)) n)) (hl : 0 ≤ lastTo N s n) :
    Calls Yba.prog 6 #[.string s, .pointer (some ⟨bv, 0, none⟩), .pointer (some ⟨bn, 0, none⟩)] w fun e w' => e = .returned (.int .i64 (lastTo N s n)) ∧ w' = w := by
  have hh : has (fillD N (fun i => (i : Int)) n) (key s) = true := by rw [fillD_has]; simpa using hl
  have hat0 : (fillD N (fun i => (i : Int)) n).atKey (key s) (.lit (.int .i64 0)) = .lit (.int .i64 (lastTo N s n)) := by rw [fillD_at, lastVal_index N s n hl]
  generalize fillD N (fun i => (i : Int)) n = D at hown hh hat0
  have HA : Hid (D.atKey (key s) (.lit (.int .i64 0)) = .lit (.int .i64 (lastTo N s n))) := hat0
  clear hat0
  have hkey := keyOf_str s hs
  go_enter Yba.func6, Yba.ntmps6
  go_wp2_with (first | (at_lookup; refine wpList_lookup_own_ok_int _ rfl _ _ 29 rfl 9 3 .i64 keyed Yba.underlying29 Yba.underlying3 (zero3 _) bm q D rfl hown _ _ rfl hkey ?_; intro c hat hwc; replace hat : Hid (D.atKey (key s) (.lit (.int .i64 0)) = .lit (.int .i64 c)) := hat))
  go_ret
  refine ⟨ret_int ?_, rfl⟩
  have := hat.out.symm.trans HA.out
  simpa using this
end Go.Proofs.Ybulkvxq
