/-
  The contracts of '(*scanner).rest' (7) and '(*scanner).restIs' (8).
-/
import Derived.Test.YbulkvwoChecked
import Derived.Test.YbulkvwoPlain
import Derived.WalkKit
import Derived.WalkSpells
namespace Go.Proofs.Ybulkvwo
open Go.RowKit

theorem ret_str {a b : ByteArray} (h : a = b) : Ending.returned (.string a) = .returned (.string b) := by rw [h]

theorem extract_empty (s : ByteArray) : s.extract s.size s.size = ByteArray.empty := by
  apply ByteArray.ext
  simp

set_option maxHeartbeats 400000 in
theorem rest_any (s : ByteArray) (p : Nat) (hs : s.size ≤ maxLen) (hp : p ≤ s.size) (b : Nat) (w : World)
    (c0 : w.cell? ⟨b, 0, none⟩ = some (.string s)) (c1 : w.cell? ⟨b, 1, none⟩ = some (.int .i64 p)) :
    Calls Yba.prog 7 #[.pointer (some ⟨b, 0, none⟩)] w fun e w' => e = .returned (.string (s.extract (restAt s p) s.size)) ∧ w' = w := by
  unfold maxLen at hs
  go_enter Yba.func7, Yba.ntmps7
  go_wp2
  go_loop [3] (fun i => ∃ k : Nat, k ≤ s.size ∧ i = .int .i64 k ∧ restAt s k = restAt s p) (fun i => s.size - (intOf i).toNat)
  case atStart => exact ⟨p, hp, rfl, rfl⟩
  case round =>
    obtain ⟨k, hk, rfl, hr⟩ := hrel
    have HR : Hid (restAt s k = restAt s p) := hr
    clear hr
    by_cases hlt : k < s.size
    · by_cases hsp : s[k] = 32
      · have HS : Hid (restAt s (k + 1) = restAt s p) := (restAt_space s k hlt hsp).symm.trans HR.out
        have hb : (((s[k]).toNat : Int) == 32) = true := by rw [hsp]; rfl
        clear hsp
        go_wp2
        go_round
        case rel => exact ⟨k + 1, by omega, by go_num, HS.out⟩
        case measure => simp [intOf]; omega
      · have HS : Hid (restAt s p = k) := HR.out.symm.trans (restAt_other s k hlt hsp)
        have hb : (((s[k]).toNat : Int) == 32) = false := by
          rw [beq_eq_false_iff_ne]
          intro h
          apply hsp
          apply UInt8.toNat_inj.1
          have h2 : ((s[k]).toNat : Int) = 32 := h
          have h3 : (32 : UInt8).toNat = 32 := rfl
          omega
        clear hsp
        go_wp2
        go_ret
        exact ⟨ret_str (by rw [HS.out]), rfl⟩
    · obtain rfl : k = s.size := by omega
      have HS : Hid (restAt s p = s.size) := HR.out.symm.trans (restAt_end s)
      go_wp2
      go_ret
      exact ⟨ret_str (by rw [HS.out, extract_empty]), rfl⟩

set_option maxHeartbeats 400000 in
theorem restIs_yes (s t : ByteArray) (p : Nat) (hs : s.size ≤ maxLen) (hp : p ≤ s.size) (b : Nat) (w : World)
    (c0 : w.cell? ⟨b, 0, none⟩ = some (.string s)) (c1 : w.cell? ⟨b, 1, none⟩ = some (.int .i64 p)) (f1 : w.frozen? ⟨b, 1, none⟩ = false)
    (ht : ((s.extract (restAt s p) s.size).toList == t.toList) = true) :
    Calls Yba.prog 8 #[.pointer (some ⟨b, 0, none⟩), .string t] w fun e w' => e = .returned (.bool true) ∧ w' = w.setCell ⟨b, 1, none⟩ (.int .i64 s.size) := by
  go_enter Yba.func8, Yba.ntmps8
  go_wp2_with (go_at_call 7; refine (rest_any s p hs hp b _ c0 c1).mono ?_; rintro e w' ⟨rfl, rfl⟩)
  go_ret
  exact ⟨rfl, rfl⟩

set_option maxHeartbeats 400000 in
theorem restIs_no (s t : ByteArray) (p : Nat) (hs : s.size ≤ maxLen) (hp : p ≤ s.size) (b : Nat) (w : World)
    (c0 : w.cell? ⟨b, 0, none⟩ = some (.string s)) (c1 : w.cell? ⟨b, 1, none⟩ = some (.int .i64 p))
    (ht : ((s.extract (restAt s p) s.size).toList == t.toList) = false) :
    Calls Yba.prog 8 #[.pointer (some ⟨b, 0, none⟩), .string t] w fun e w' => e = .returned (.bool false) ∧ w' = w := by
  go_enter Yba.func8, Yba.ntmps8
  go_wp2_with (go_at_call 7; refine (rest_any s p hs hp b _ c0 c1).mono ?_; rintro e w' ⟨rfl, rfl⟩)
  go_ret
  exact ⟨rfl, rfl⟩

end Go.Proofs.Ybulkvwo
