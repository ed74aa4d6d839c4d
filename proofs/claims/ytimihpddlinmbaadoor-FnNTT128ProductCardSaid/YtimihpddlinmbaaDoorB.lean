/-
  The library's functions on two words: sums and differences with a carry, and the full product; the masked choice.
-/
import Derived.Test.YtimihpddlinmbaaDoorProg
import Derived.Test.YtimihpddlinmbaaDoorK
import Derived.Laws.Externs
namespace Go.Proofs.YtimihpddlinmbaaDoor
open Go.RowKit
set_option linter.unusedVariables false
set_option linter.unusedSimpArgs false

theorem addC (x y c : Int) (hx : 0 ≤ x) (hy : 0 ≤ y) (hc0 : 0 ≤ c) (hc : c ≤ 1) (hx1 : x < M64) (hy1 : y < M64) :
    ∃ s k : Int, (∀ w, (callFunc 54 #[.int .u64 x, .int .u64 y, .int .u64 c]).run Tryd.prog w = .ok (.value (.tuple #[.int .u64 s, .int .u64 k])) w) ∧
      0 ≤ s ∧ s < M64 ∧ 0 ≤ k ∧ k ≤ 1 ∧ s + k * M64 = x + y + c := by
  refine ⟨(x + y + c) % M64, (x + y + c) / M64, fun w => ?_, ?_, ?_, ?_, ?_, ?_⟩
  · rw [run_callFunc_extern Tryd.func54 (by kernel_rfl) (by kernel_rfl) (by kernel_rfl) (e := add64Entry) (by kernel_rfl)]
    rw [run_add64 x y c hx hy hc0 hc]; rfl
  all_goals unfold M64 at *; omega

theorem subC (x y c : Int) (hx : 0 ≤ x) (hy : 0 ≤ y) (hc0 : 0 ≤ c) (hc : c ≤ 1) (hx1 : x < M64) (hy1 : y < M64) :
    ∃ s k : Int, (∀ w, (callFunc 55 #[.int .u64 x, .int .u64 y, .int .u64 c]).run Tryd.prog w = .ok (.value (.tuple #[.int .u64 s, .int .u64 k])) w) ∧
      0 ≤ s ∧ s < M64 ∧ 0 ≤ k ∧ k ≤ 1 ∧ s - k * M64 = x - y - c := by
  obtain ⟨X, rfl⟩ := Int.eq_ofNat_of_zero_le hx
  obtain ⟨Y, rfl⟩ := Int.eq_ofNat_of_zero_le hy
  obtain ⟨C, rfl⟩ := Int.eq_ofNat_of_zero_le hc0
  refine ⟨(((X + 18446744073709551616 - Y - C) % 18446744073709551616 : Nat) : Int), ((if X < Y + C then 1 else 0 : Nat) : Int), fun w => ?_, ?_, ?_, ?_, ?_, ?_⟩
  · rw [run_callFunc_extern Tryd.func55 (by kernel_rfl) (by kernel_rfl) (by kernel_rfl) (e := sub64Entry) (by kernel_rfl)]
    have : C = 0 ∨ C = 1 := by omega
    rcases this with rfl | rfl <;> rfl
  all_goals unfold M64 at *; (try split) <;> omega

set_option maxHeartbeats 400000 in
theorem cmov_any (x y c : Int) (hx : 0 ≤ x) (hy : 0 ≤ y) (hx1 : x < M64) (hy1 : y < M64) (hc0 : 0 ≤ c) (hc : c ≤ 1) (a : Addr) (w : World) (ha : ∃ v, w.cell? a = some v) (hf : w.frozen? a = false) :
    Calls Tryd.prog 56 #[.pointer (some a), .int .u64 c, .int .u64 x, .int .u64 y] w fun e w' => e = .returned (.tuple #[]) ∧ w' = w.setCell a (.int .u64 (sel c x y)) := by
  have hv := Lib.hid (cmov_val x y c hx hy hx1 hy1 hc0 hc)
  obtain ⟨v, ha⟩ := ha
  go_enter Tryd.func56, Tryd.ntmps56
  go_wp2_with fail
  go_end0
  rw [hv.out]
  exact ⟨rfl, rfl⟩

namespace Mul64
theorem maskN (a : Nat) (ha : a < 18446744073709551616) : bits .and .u64 (a : Int) 4294967295 = ((a % 4294967296 : Nat) : Int) := by
  have h := bits_and_u64_nat a 4294967295 ha (by omega)
  have e : a &&& 4294967295 = a % 4294967296 := Nat.and_two_pow_sub_one_eq_mod a 32
  rw [e] at h
  exact h
theorem divN (a : Nat) : (a : Int) / 4294967296 = ((a / 4294967296 : Nat) : Int) := by omega
theorem mulN (a b : Nat) : (a : Int) * (b : Int) = ((a * b : Nat) : Int) := (Int.natCast_mul a b).symm
theorem addN (a b : Nat) : (a : Int) + (b : Int) = ((a + b : Nat) : Int) := (Int.natCast_add a b).symm
theorem wrapN (a : Nat) (ha : a < 18446744073709551616) : IntKind.u64.wrap (a : Int) = (a : Int) := by rw [IntKind.wrap_u64]; omega
theorem wrapM (a : Nat) : IntKind.u64.wrap (a : Int) = ((a % 18446744073709551616 : Nat) : Int) := by rw [IntKind.wrap_u64]; omega
end Mul64

set_option maxHeartbeats 1000000 in
theorem mul64_nat (x y : Nat) (hx : x < 18446744073709551616) (hy : y < 18446744073709551616) (w : World) :
    Calls Tryd.prog 53 #[.int .u64 x, .int .u64 y] w fun e w' => e = .returned (.tuple #[.int .u64 ((x * y / 18446744073709551616 : Nat) : Int), .int .u64 ((x * y % 18446744073709551616 : Nat) : Int)]) ∧ w' = w := by
  obtain ⟨bd, bt, bw, hhi⟩ := Lib.mul64_hi x y hx hy
  have ba := Lib.half_mul_le (a := x / 4294967296) (b := y / 4294967296) (by omega) (by omega)
  have bb := Lib.half_mul_le (a := x / 4294967296) (b := y % 4294967296) (by omega) (by omega)
  have bc := Lib.half_mul_le (a := x % 4294967296) (b := y / 4294967296) (by omega) (by omega)
  have ba' : x / 4294967296 * (y / 4294967296) < 18446744073709551616 := by omega
  have bb' : x / 4294967296 * (y % 4294967296) < 18446744073709551616 := by omega
  have bc' : x % 4294967296 * (y / 4294967296) < 18446744073709551616 := by omega
  have bh1 : x / 4294967296 * (y / 4294967296) + (x / 4294967296 * (y % 4294967296) + x % 4294967296 * (y % 4294967296) / 4294967296) / 4294967296 < 18446744073709551616 := by omega
  have bh : x / 4294967296 * (y / 4294967296) + (x / 4294967296 * (y % 4294967296) + x % 4294967296 * (y % 4294967296) / 4294967296) / 4294967296 + ((x / 4294967296 * (y % 4294967296) + x % 4294967296 * (y % 4294967296) / 4294967296) % 4294967296 + x % 4294967296 * (y / 4294967296)) / 4294967296 < 18446744073709551616 := by omega
  go_enter Tryd.func53, Tryd.ntmps53
  go_wp2
  simp only [Mul64.maskN x hx, Mul64.maskN y hy, Mul64.divN, Mul64.mulN, Mul64.addN, Mul64.wrapN _ bd, Mul64.wrapN _ bb', Mul64.wrapN _ bt, Mul64.maskN _ bt, Mul64.wrapN _ bc', Mul64.wrapN _ bw, Mul64.wrapN _ ba', Mul64.wrapN _ bh1, Mul64.wrapN _ bh, Mul64.wrapM (x * y)]
  rw [hhi]
  go_ret2
  exact ⟨rfl, rfl⟩

/-- The full product: two words, whatever they are named. -/
theorem mulC (x y : Int) (hx : 0 ≤ x) (hy : 0 ≤ y) (hx1 : x < M64) (hy1 : y < M64) :
    ∃ h l : Int, (∀ w, Calls Tryd.prog 53 #[.int .u64 x, .int .u64 y] w fun e w' => e = .returned (.tuple #[.int .u64 h, .int .u64 l]) ∧ w = w') ∧
      0 ≤ h ∧ h < M64 ∧ 0 ≤ l ∧ l < M64 ∧ h * M64 + l = x * y := by
  obtain ⟨X, rfl⟩ := Int.eq_ofNat_of_zero_le hx
  obtain ⟨Y, rfl⟩ := Int.eq_ofNat_of_zero_le hy
  unfold M64 at *
  have hp : X * Y ≤ 18446744073709551615 * 18446744073709551615 := Nat.mul_le_mul (by omega) (by omega)
  refine ⟨_, _, fun w => (mul64_nat X Y (by omega) (by omega) w).mono fun e w' h => ⟨h.1, h.2.symm⟩, ?_, ?_, ?_, ?_, ?_⟩
  all_goals (try rw [← Int.natCast_mul])
  all_goals generalize X * Y = z at *
  all_goals omega
end Go.Proofs.YtimihpddlinmbaaDoor
