/-
  The small readers: 'zzs1121cbe' (14), (bigEndian).Uint16 (11), BEUint64 (18), BEPutUint64 (15), AddrFrom4 (16).
-/
import Derived.Test.YbulkweqDoorChecked
import Derived.WalkKit
import Derived.WalkSpells
import Derived.WalkLawsBesides
import Derived.Lib.EndianBits
import Derived.Stop.LaidErr
import Derived.Laws.BitsAllLaws
import Derived.Deep.QuietTactic
import Derived.Deep.OwnRows
namespace Go.Proofs.YbulkweqDoor
open Go.RowKit Go.Deep

theorem ret_int {k : IntKind} {a b : Int} (h : a = b) : Ending.returned (.int k a) = .returned (.int k b) := by rw [h]

theorem or_mul (a b i m : Nat) (hm : m = 2 ^ i) (h : a < m) : a ||| (b * m) = b * m + a := by
  subst hm
  rw [Nat.or_comm, ← Nat.shiftLeft_eq, Nat.shiftLeft_add_eq_or_of_lt h]
theorem i64_or (x0 x1 : Int) (a0 : 0 ≤ x0) (b0 : x0 < 256) (a1 : 0 ≤ x1) (b1 : x1 < 256) : bits .or .i64 (x0 * 256) x1 = x0 * 256 + x1 := by
  obtain ⟨n0, rfl⟩ := Int.eq_ofNat_of_zero_le a0
  obtain ⟨n1, rfl⟩ := Int.eq_ofNat_of_zero_le a1
  have hk : ∀ n : Int, 0 ≤ n → n < 2 ^ 63 → IntKind.i64.wrap n = n := fun n h0 h1 => by rw [IntKind.wrap_i64]; omega
  exact bits_join .i64 63 (by decide) hk 8 _ _ (by omega) (by omega) (by omega) (by omega) (by omega) (by omega)

set_option maxHeartbeats 400000 in
theorem be_any (fb i len cap : Nat) (x0 x1 : Int) (w : World) (hi : i + 1 < len) (hl : len ≤ 4096)
    (h0 : w.cell? ⟨fb, i, none⟩ = some (.int .u8 x0)) (h1 : w.cell? ⟨fb, i + 1, none⟩ = some (.int .u8 x1)) (a0 : 0 ≤ x0) (b0 : x0 < 256) (a1 : 0 ≤ x1) (b1 : x1 < 256) :
    Calls Ybad.prog 14 #[.slice (some ⟨fb, 0, none⟩) len cap, .int .i64 i] w fun e w' => e = .returned (.int .i64 (x0 * 256 + x1)) ∧ w' = w.drew := by
  have q0 : (i : Int) < (len : Int) := by omega
  have q1 : (i : Int) + 1 < (len : Int) := by omega
  have wr : IntKind.i64.wrap ((i : Int) + 1) = ((i + 1 : Nat) : Int) := by rw [IntKind.wrap_i64]; omega
  go_enter Ybad.func14, Ybad.ntmps14
  go_wp2
  go_region
  all_goals go_wp2
  all_goals (go_ret; exact ⟨ret_int (i64_or x0 x1 a0 b0 a1 b1), rfl⟩)

set_option maxHeartbeats 400000 in
theorem uint16_any (fb i n cap : Nat) (x0 x1 : Int) (w : World) (hi : 1 < n)
    (h0 : w.cell? ⟨fb, i, none⟩ = some (.int .u8 x0)) (h1 : w.cell? ⟨fb, i + 1, none⟩ = some (.int .u8 x1)) (a0 : 0 ≤ x0) (b0 : x0 < 256) (a1 : 0 ≤ x1) (b1 : x1 < 256) :
    Calls Ybad.prog 11 #[.agg #[], .slice (some ⟨fb, i, none⟩) n cap] w fun e w' => e = .returned (.int .u16 (x0 * 256 + x1)) ∧ w' = (w.alloc (.cells #[] 49)).drew := by
  have d0 := cell?_alloc_old (.cells #[] 49) h0
  have d1 := cell?_alloc_old (.cells #[] 49) h1
  have q0 : 0 < n := by omega
  have q1 : (1 : Int) < (n : Int) := by omega
  go_enter Ybad.func11, Ybad.ntmps11
  go_wp2
  go_region
  all_goals go_wp2
  all_goals (go_ret; refine ⟨ret_int ?_, rfl⟩; rw [u16_or8 (y := x1) (x := x0 * 256) (by omega) (by omega) (by omega) (by omega) (by omega)]; omega)

/-- The number that eight bytes spell. -/
def be8 (Z : Nat → Int) (o : Nat) : Int := Z (o + 7) + Z (o + 6) * 256 + Z (o + 5) * 65536 + Z (o + 4) * 16777216 + Z (o + 3) * 4294967296 + Z (o + 2) * 1099511627776 + Z (o + 1) * 281474976710656 + Z o * 72057594037927936

set_option maxHeartbeats 2000000 in
theorem beUint64_any (Z : Nat → Int) (hZ : ∀ i, 0 ≤ Z i ∧ Z i < 256) (fb i n cap o : Nat) (w : World) (hi : 8 ≤ n) (hc : ∀ k, k < 8 → w.cell? ⟨fb, i + k, none⟩ = some (.int .u8 (Z (o + k)))) :
    Calls Ybad.prog 18 #[.slice (some ⟨fb, i, none⟩) n cap] w fun e w' => e = .returned (.int .u64 (be8 Z o)) ∧ ∃ m, w' = w.drewN m := by
  have c0 : w.cell? ⟨fb, i, none⟩ = some (.int .u8 (Z o)) := hc 0 (by omega)
  have c1 := hc 1 (by omega)
  have c2 := hc 2 (by omega)
  have c3 := hc 3 (by omega)
  have c4 := hc 4 (by omega)
  have c5 := hc 5 (by omega)
  have c6 := hc 6 (by omega)
  have c7 := hc 7 (by omega)
  have h0 := hZ o
  have h1 := hZ (o + 1)
  have h2 := hZ (o + 2)
  have h3 := hZ (o + 3)
  have h4 := hZ (o + 4)
  have h5 := hZ (o + 5)
  have h6 := hZ (o + 6)
  have h7 := hZ (o + 7)
  clear hc hZ
  have hv : Hid (be8 Z o = Z (o + 7) + Z (o + 6) * 256 + Z (o + 5) * 65536 + Z (o + 4) * 16777216 + Z (o + 3) * 4294967296 + Z (o + 2) * 1099511627776 + Z (o + 1) * 281474976710656 + Z o * 72057594037927936) := rfl
  generalize be8 Z o = V at hv ⊢
  generalize Z o = z0 at *
  generalize Z (o + 1) = z1 at *
  generalize Z (o + 2) = z2 at *
  generalize Z (o + 3) = z3 at *
  generalize Z (o + 4) = z4 at *
  generalize Z (o + 5) = z5 at *
  generalize Z (o + 6) = z6 at *
  generalize Z (o + 7) = z7 at *
  have q0 : 0 < n := by omega
  have q1 : (1 : Int) < (n : Int) := by omega
  have q2 : (2 : Int) < (n : Int) := by omega
  have q3 : (3 : Int) < (n : Int) := by omega
  have q4 : (4 : Int) < (n : Int) := by omega
  have q5 : (5 : Int) < (n : Int) := by omega
  have q6 : (6 : Int) < (n : Int) := by omega
  have q7 : (7 : Int) < (n : Int) := by omega
  obtain ⟨h0a, h0b⟩ := h0
  obtain ⟨h1a, h1b⟩ := h1
  obtain ⟨h2a, h2b⟩ := h2
  obtain ⟨h3a, h3b⟩ := h3
  obtain ⟨h4a, h4b⟩ := h4
  obtain ⟨h5a, h5b⟩ := h5
  obtain ⟨h6a, h6b⟩ := h6
  obtain ⟨h7a, h7b⟩ := h7
  go_enter Ybad.func18, Ybad.ntmps18
  go_wp2
  go_quiet (fail)
  go_wp2
  go_ret
  refine ⟨ret_int ?_, _, rfl⟩
  simp (disch := omega) only [u64_wrap_id, u64_or8, u64_or16, u64_or24, u64_or32, u64_or40, u64_or48, u64_or56]
  rw [hv.out]
end Go.Proofs.YbulkweqDoor
