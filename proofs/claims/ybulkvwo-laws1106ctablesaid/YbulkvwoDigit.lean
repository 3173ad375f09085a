/-
  The contracts of 'zzs1106cdigit' (11), 'readPair' (10), 'zzs1106ccheck' (9).
-/
import Derived.Test.YbulkvwoChecked
import Derived.WalkKit
import Derived.WalkSpells
import Derived.BigQuiet
import Derived.Deep.QuietTactic
namespace Go.Proofs.Ybulkvwo
open Go.RowKit

theorem ret_two {a b c d : Value} (h1 : a = c) (h2 : b = d) : Ending.returned (.tuple #[a, b]) = .returned (.tuple #[c, d]) := by rw [h1, h2]

theorem ten (k : Nat) (h : k < ({ data := #[48, 49, 50, 51, 52, 53, 54, 55, 56, 57] } : ByteArray).size) :
    ((({ data := #[48, 49, 50, 51, 52, 53, 54, 55, 56, 57] } : ByteArray)[k]'h).toNat : Int) = 48 + k := by
  have hk : k < 10 := h
  match k, hk with
  | 0, _ => rfl
  | 1, _ => rfl
  | 2, _ => rfl
  | 3, _ => rfl
  | 4, _ => rfl
  | 5, _ => rfl
  | 6, _ => rfl
  | 7, _ => rfl
  | 8, _ => rfl
  | 9, _ => rfl

set_option maxHeartbeats 400000 in
theorem digit_yes (c : Int) (h0 : 48 ≤ c) (h1 : c ≤ 57) (w : World) :
    Calls Yba.prog 11 #[.int .u8 c] w fun e w' => e = .returned (.tuple #[.int .i64 (c - 48), .bool true]) ∧ w' = w := by
  go_enter Yba.func11, Yba.ntmps11
  go_wp2
  go_loop [4] (fun i => ∃ k : Nat, k ≤ 9 ∧ (k : Int) ≤ c - 48 ∧ i = .int .i64 k) (fun i => 10 - (intOf i).toNat)
  case atStart => exact ⟨0, by omega, by omega, rfl⟩
  case round =>
    obtain ⟨k, hk, hck, rfl⟩ := hrel
    have hsz : k < ({ data := #[48, 49, 50, 51, 52, 53, 54, 55, 56, 57] } : ByteArray).size := by show k < 10; omega
    have ht := ten k hsz
    by_cases he : (k : Int) = c - 48
    · have hb : (((({ data := #[48, 49, 50, 51, 52, 53, 54, 55, 56, 57] } : ByteArray)[k]'hsz).toNat : Int) == c) = true := by
        rw [ht, beq_iff_eq]; omega
      have HE : Hid ((k : Int) = c - 48) := he
      clear ht he
      go_wp2
      go_ret2
      exact ⟨ret_two (by show Value.int .i64 (k : Int) = _; rw [HE.out]) rfl, rfl⟩
    · have hb : (((({ data := #[48, 49, 50, 51, 52, 53, 54, 55, 56, 57] } : ByteArray)[k]'hsz).toNat : Int) == c) = false := by
        rw [ht, beq_eq_false_iff_ne]; omega
      clear ht
      go_wp2
      go_round
      case rel => exact ⟨k + 1, by omega, by omega, by go_num⟩
      case measure => simp [intOf]; omega

set_option maxHeartbeats 400000 in
theorem digit_no (c : Int) (h0 : c < 48 ∨ 57 < c) (w : World) :
    Calls Yba.prog 11 #[.int .u8 c] w fun e w' => e = .returned (.tuple #[.int .i64 0, .bool false]) ∧ w' = w := by
  go_enter Yba.func11, Yba.ntmps11
  go_wp2
  go_loop [4] (fun i => ∃ k : Nat, k ≤ 10 ∧ i = .int .i64 k) (fun i => 10 - (intOf i).toNat)
  case atStart => exact ⟨0, by omega, rfl⟩
  case round =>
    obtain ⟨k, hk, rfl⟩ := hrel
    by_cases hlt : k < 10
    · have hsz : k < ({ data := #[48, 49, 50, 51, 52, 53, 54, 55, 56, 57] } : ByteArray).size := hlt
      have ht := ten k hsz
      have hb : (((({ data := #[48, 49, 50, 51, 52, 53, 54, 55, 56, 57] } : ByteArray)[k]'hsz).toNat : Int) == c) = false := by
        rw [ht, beq_eq_false_iff_ne]; omega
      clear ht
      go_wp2
      go_round
      case rel => exact ⟨k + 1, by omega, by go_num⟩
      case measure => simp [intOf]; omega
    · go_wp2
      go_ret2
      exact ⟨rfl, rfl⟩

set_option maxHeartbeats 400000 in
theorem readPair_yes (s : ByteArray) (x y : Int) (h0 : 0 < s.size) (h1 : 1 < s.size) (hx : ((s[0]'h0).toNat : Int) = x) (hy : ((s[1]'h1).toNat : Int) = y)
    (x0 : 48 ≤ x) (x1 : x ≤ 57) (y0 : 48 ≤ y) (y1 : y ≤ 57) (w : World) :
    Calls Yba.prog 10 #[.string s] w fun e w' => e = .returned (.tuple #[.int .i64 ((x - 48) * 10 + (y - 48)), .bool true]) ∧ w' = w.drew := by
  have i1 : (1 : Int) < (s.size : Int) := by omega
  have ex : (x - 48) % 256 = x - 48 := by omega
  have ey : (y - 48) % 256 = y - 48 := by omega
  go_enter Yba.func10, Yba.ntmps10
  go_wp2
  go_region
  go_wp2
  go_ret2
  exact ⟨ret_two rfl (by show Value.bool (decide (y - 48 ≤ 9)) = _; rw [decide_eq_true (by omega)]), rfl⟩

set_option maxHeartbeats 400000 in
theorem readPair_no (s : ByteArray) (x y : Int) (h0 : 0 < s.size) (h1 : 1 < s.size) (hx : ((s[0]'h0).toNat : Int) = x) (hy : ((s[1]'h1).toNat : Int) = y)
    (_x0 : 0 ≤ x) (x1 : x ≤ 255) (_y0 : 0 ≤ y) (y1 : y ≤ 255) (hno : x < 48 ∨ 57 < x ∨ y < 48 ∨ 57 < y) (w : World) :
    Calls Yba.prog 10 #[.string s] w fun e w' => ∃ n : Int, e = .returned (.tuple #[.int .i64 n, .bool false]) ∧ w' = w.drew := by
  have i1 : (1 : Int) < (s.size : Int) := by omega
  by_cases hc : (x - 48) % 256 ≤ 9
  · have hd : ¬ (y - 48) % 256 ≤ 9 := by omega
    go_enter Yba.func10, Yba.ntmps10
    go_wp2
    go_region
    go_wp2
    go_ret2
    exact ⟨_, ret_two rfl (by show Value.bool (decide ((y - 48) % 256 ≤ 9)) = _; rw [decide_eq_false (by omega)]), rfl⟩
  · go_enter Yba.func10, Yba.ntmps10
    go_wp2
    go_region
    go_wp2
    go_ret2
    exact ⟨⟨_, ret_two rfl rfl⟩, rfl⟩

set_option maxHeartbeats 400000 in
theorem check_true (s : ByteArray) (x y : Int) (h0 : 0 < s.size) (h1 : 1 < s.size) (hx : ((s[0]'h0).toNat : Int) = x) (hy : ((s[1]'h1).toNat : Int) = y)
    (x0 : 0 ≤ x) (x1 : x ≤ 255) (y0 : 0 ≤ y) (y1 : y ≤ 255) (w : World) :
    Calls Yba.prog 9 #[.string s] w fun e w' => e = .returned (.bool true) ∧ w' = w.drew := by
  have i1 : (1 : Int) < (s.size : Int) := by omega
  by_cases hxd : 48 ≤ x ∧ x ≤ 57
  · obtain ⟨a1, a2⟩ := hxd
    by_cases hyd : 48 ≤ y ∧ y ≤ 57
    · obtain ⟨b1, b2⟩ := hyd
      have hn : (((x - 48) * 10 + (y - 48)) != ((x - 48) * 10 + (y - 48))) = false := by simp
      go_enter Yba.func9, Yba.ntmps9
      go_wp2_with fail
      refine (readPair_yes s x y h0 h1 hx hy a1 a2 b1 b2 _).mono ?_
      rintro e w' ⟨rfl, rfl⟩
      go_wp2_with fail
      refine (digit_yes x a1 a2 _).mono ?_
      rintro e w' ⟨rfl, rfl⟩
      go_wp2_with fail
      refine (digit_yes y b1 b2 _).mono ?_
      rintro e w' ⟨rfl, rfl⟩
      go_wp2
      go_ret
      exact ⟨rfl, rfl⟩
    · go_enter Yba.func9, Yba.ntmps9
      go_wp2_with fail
      refine (readPair_no s x y h0 h1 hx hy x0 x1 y0 y1 (by omega) _).mono ?_
      rintro e w' ⟨n, rfl, rfl⟩
      go_wp2_with fail
      refine (digit_yes x a1 a2 _).mono ?_
      rintro e w' ⟨rfl, rfl⟩
      go_wp2_with fail
      refine (digit_no y (by omega) _).mono ?_
      rintro e w' ⟨rfl, rfl⟩
      go_wp2
      go_ret
      exact ⟨rfl, rfl⟩
  · by_cases hyd : 48 ≤ y ∧ y ≤ 57
    · obtain ⟨b1, b2⟩ := hyd
      go_enter Yba.func9, Yba.ntmps9
      go_wp2_with fail
      refine (readPair_no s x y h0 h1 hx hy x0 x1 y0 y1 (by omega) _).mono ?_
      rintro e w' ⟨n, rfl, rfl⟩
      go_wp2_with fail
      refine (digit_no x (by omega) _).mono ?_
      rintro e w' ⟨rfl, rfl⟩
      go_wp2_with fail
      refine (digit_yes y b1 b2 _).mono ?_
      rintro e w' ⟨rfl, rfl⟩
      go_wp2
      go_ret
      exact ⟨rfl, rfl⟩
    · go_enter Yba.func9, Yba.ntmps9
      go_wp2_with fail
      refine (readPair_no s x y h0 h1 hx hy x0 x1 y0 y1 (by omega) _).mono ?_
      rintro e w' ⟨n, rfl, rfl⟩
      go_wp2_with fail
      refine (digit_no x (by omega) _).mono ?_
      rintro e w' ⟨rfl, rfl⟩
      go_wp2_with fail
      refine (digit_no y (by omega) _).mono ?_
      rintro e w' ⟨rfl, rfl⟩
      go_wp2
      go_ret
      exact ⟨rfl, rfl⟩

end Go.Proofs.Ybulkvwo
