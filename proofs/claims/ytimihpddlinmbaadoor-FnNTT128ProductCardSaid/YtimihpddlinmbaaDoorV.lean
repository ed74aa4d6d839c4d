/-
  Powers of two, and the order of reversed bits.
-/
import Derived.Test.YtimihpddlinmbaaDoorProg
import Derived.Test.YtimihpddlinmbaaDoorK
namespace Go.Proofs.YtimihpddlinmbaaDoor
open Go.RowKit
set_option linter.unusedVariables false
set_option linter.unusedSimpArgs false

/-- One step of a reversal: neighbours of s bits change places. -/
def st (c s x : Int) : Int := bits .or .u64 (bits .and .u64 (x / s) c) (IntKind.u64.wrap (bits .and .u64 x c * s))
def revB (x : Int) : Int := bits .or .u64 (x / 4294967296) (IntKind.u64.wrap (x * 4294967296))
def revE (x : Int) : Int := revB (st 281470681808895 65536 (st 71777214294589695 256 (st 1085102592571150095 16 (st 3689348814741910323 4 (st 6148914691236517205 2 x)))))

/-- The lowest k bits of i, in the other order. -/
def brev : Nat → Nat → Nat
  | 0, _ => 0
  | k + 1, i => (i % 2) * 2 ^ k + brev k (i / 2)

/-- 2 to the power of 64 - k. -/
def dv : Nat → Int
  | 0 => 18446744073709551616
  | 1 => 9223372036854775808
  | 2 => 4611686018427387904
  | 3 => 2305843009213693952
  | 4 => 1152921504606846976
  | 5 => 576460752303423488
  | _ => 288230376151711744

set_option maxRecDepth 100000 in
set_option maxHeartbeats 1000000 in
theorem rev_val : ∀ k : Fin 7, ∀ i : Fin 64, i.val < 2 ^ k.val → revE ((i.val : Nat) : Int) / dv k.val = ((brev k.val i.val : Nat) : Int) ∧ 0 ≤ revE ((i.val : Nat) : Int) ∧ revE ((i.val : Nat) : Int) < 18446744073709551616 := by
  decide +kernel

set_option maxRecDepth 100000 in
set_option maxHeartbeats 1000000 in
theorem revBytes (x : Int) (h0 : 0 ≤ x) (w : World) :
    Calls Tryd.prog 69 #[.int .u64 x] w fun e w' => e = .returned (.int .u64 (revB (st 281470681808895 65536 (st 71777214294589695 256 x)))) ∧ w = w' := by
  go_enter Tryd.func69, Tryd.ntmps69
  go_wp2
  go_ret
  exact ⟨rfl, rfl⟩

set_option maxRecDepth 100000 in
set_option maxHeartbeats 1000000 in
theorem rev (x : Int) (h0 : 0 ≤ x) (hy : 0 ≤ st 1085102592571150095 16 (st 3689348814741910323 4 (st 6148914691236517205 2 x))) (w : World) :
    Calls Tryd.prog 66 #[.int .u64 x] w fun e w' => e = .returned (.int .u64 (revE x)) ∧ w = w' := by
  have HY := Lib.hid hy
  clear hy
  go_enter Tryd.func66, Tryd.ntmps66
  go_wp2_with fail
  refine (revBytes _ HY.out w).mono ?_
  rintro e w' ⟨rfl, rfl⟩
  go_wp2_with fail
  go_ret
  exact ⟨rfl, rfl⟩

set_option maxRecDepth 100000 in
set_option maxHeartbeats 1000000 in
theorem rev48 (x : Int) (h0 : 0 ≤ x) (hy : 0 ≤ st 1085102592571150095 16 (st 3689348814741910323 4 (st 6148914691236517205 2 x))) (w : World) :
    Calls Tryd.prog 48 #[.int .u64 x] w fun e w' => e = .returned (.int .u64 (revE x)) ∧ w = w' := by
  have HY := Lib.hid hy
  clear hy
  go_enter Tryd.func48, Tryd.ntmps48
  go_wp2_with fail
  refine (rev x h0 HY.out w).mono ?_
  rintro e w' ⟨rfl, rfl⟩
  go_wp2_with fail
  go_ret
  exact ⟨rfl, rfl⟩

theorem st_nonneg : ∀ i : Fin 64, 0 ≤ st 1085102592571150095 16 (st 3689348814741910323 4 (st 6148914691236517205 2 ((i.val : Nat) : Int))) := by decide +kernel

set_option maxRecDepth 100000 in
set_option maxHeartbeats 1000000 in
theorem bitRev_yes (k i : Nat) (hk : k < 7) (hi : i < 2 ^ k) (w : World) :
    Calls Tryd.prog 32 #[.int .u64 (i : Int), .int .u64 (k : Int)] w fun e w' => e = .returned (.int .u64 ((brev k i : Nat) : Int)) ∧ w = w' := by
  have hi64 : i < 64 := by
    have : 2 ^ k ≤ 2 ^ 6 := Nat.pow_le_pow_right (by omega) (by omega)
    omega
  obtain ⟨hv, hv0, hv1⟩ := rev_val ⟨k, hk⟩ ⟨i, hi64⟩ hi
  have K := rev48 (i : Int) (by omega) (st_nonneg ⟨i, hi64⟩) w
  obtain ⟨y, hy⟩ : ∃ y, y = revE (i : Int) := ⟨_, rfl⟩
  simp only at hv hv0 hv1
  rw [← hy] at hv hv0 hv1 K
  clear hy
  have HV := Lib.hid hv
  have HK := Lib.hid K
  have Hi := Lib.hid hi
  clear hv K hi hi64
  rcases k with _ | _ | _ | _ | _ | _ | _ | k
  all_goals try omega
  all_goals clear hk
  all_goals
    go_enter Tryd.func32, Tryd.ntmps32
    go_wp2_with fail
    refine HK.out.mono ?_
    rintro e w' ⟨rfl, rfl⟩
    go_wp2_with fail
    go_ret
    refine ⟨?_, rfl⟩
    rw [← HV.out]
    rfl

/-- Where the table of positions is looked at for a power of two. -/
def dbAt : Nat → Nat
  | 0 => 0
  | 1 => 1
  | 2 => 3
  | 3 => 7
  | 4 => 15
  | 5 => 31
  | _ => 63

set_option maxRecDepth 100000 in
set_option maxHeartbeats 1000000 in
theorem onesOf1 (w : World) : Calls Tryd.prog 45 #[.int .u64 1] w fun e w' => e = .returned (.int .i64 1) ∧ w = w' := by
  go_enter Tryd.func45, Tryd.ntmps45
  go_wp2
  go_ret
  refine ⟨?_, rfl⟩
  kernel_rfl

set_option maxRecDepth 100000 in
set_option maxHeartbeats 1000000 in
theorem tzOf1 (w : World) (hd : w.cell? ⟨6, dbAt 0, none⟩ = some (.int .u8 0)) : Calls Tryd.prog 46 #[.int .u64 1] w fun e w' => e = .returned (.int .i64 0) ∧ w = w' := by
  simp only [dbAt] at hd
  have e1 : bits BinOp.and IntKind.u64 1 (IntKind.u64.wrap (-1)) = 1 := by kernel_rfl
  go_enter Tryd.func46, Tryd.ntmps46
  go_wp2
  go_ret
  exact ⟨rfl, rfl⟩

set_option maxRecDepth 100000 in
set_option maxHeartbeats 1000000 in
theorem onesOf2 (w : World) : Calls Tryd.prog 45 #[.int .u64 2] w fun e w' => e = .returned (.int .i64 1) ∧ w = w' := by
  go_enter Tryd.func45, Tryd.ntmps45
  go_wp2
  go_ret
  refine ⟨?_, rfl⟩
  kernel_rfl

set_option maxRecDepth 100000 in
set_option maxHeartbeats 1000000 in
theorem tzOf2 (w : World) (hd : w.cell? ⟨6, dbAt 1, none⟩ = some (.int .u8 1)) : Calls Tryd.prog 46 #[.int .u64 2] w fun e w' => e = .returned (.int .i64 1) ∧ w = w' := by
  simp only [dbAt] at hd
  have e1 : bits BinOp.and IntKind.u64 2 (IntKind.u64.wrap (-2)) = 2 := by kernel_rfl
  go_enter Tryd.func46, Tryd.ntmps46
  go_wp2
  go_ret
  exact ⟨rfl, rfl⟩

set_option maxRecDepth 100000 in
set_option maxHeartbeats 1000000 in
theorem onesOf4 (w : World) : Calls Tryd.prog 45 #[.int .u64 4] w fun e w' => e = .returned (.int .i64 1) ∧ w = w' := by
  go_enter Tryd.func45, Tryd.ntmps45
  go_wp2
  go_ret
  refine ⟨?_, rfl⟩
  kernel_rfl

set_option maxRecDepth 100000 in
set_option maxHeartbeats 1000000 in
theorem tzOf4 (w : World) (hd : w.cell? ⟨6, dbAt 2, none⟩ = some (.int .u8 2)) : Calls Tryd.prog 46 #[.int .u64 4] w fun e w' => e = .returned (.int .i64 2) ∧ w = w' := by
  simp only [dbAt] at hd
  have e1 : bits BinOp.and IntKind.u64 4 (IntKind.u64.wrap (-4)) = 4 := by kernel_rfl
  go_enter Tryd.func46, Tryd.ntmps46
  go_wp2
  go_ret
  exact ⟨rfl, rfl⟩

set_option maxRecDepth 100000 in
set_option maxHeartbeats 1000000 in
theorem onesOf8 (w : World) : Calls Tryd.prog 45 #[.int .u64 8] w fun e w' => e = .returned (.int .i64 1) ∧ w = w' := by
  go_enter Tryd.func45, Tryd.ntmps45
  go_wp2
  go_ret
  refine ⟨?_, rfl⟩
  kernel_rfl

set_option maxRecDepth 100000 in
set_option maxHeartbeats 1000000 in
theorem tzOf8 (w : World) (hd : w.cell? ⟨6, dbAt 3, none⟩ = some (.int .u8 3)) : Calls Tryd.prog 46 #[.int .u64 8] w fun e w' => e = .returned (.int .i64 3) ∧ w = w' := by
  simp only [dbAt] at hd
  have e1 : bits BinOp.and IntKind.u64 8 (IntKind.u64.wrap (-8)) = 8 := by kernel_rfl
  go_enter Tryd.func46, Tryd.ntmps46
  go_wp2
  go_ret
  exact ⟨rfl, rfl⟩

set_option maxRecDepth 100000 in
set_option maxHeartbeats 1000000 in
theorem onesOf16 (w : World) : Calls Tryd.prog 45 #[.int .u64 16] w fun e w' => e = .returned (.int .i64 1) ∧ w = w' := by
  go_enter Tryd.func45, Tryd.ntmps45
  go_wp2
  go_ret
  refine ⟨?_, rfl⟩
  kernel_rfl

set_option maxRecDepth 100000 in
set_option maxHeartbeats 1000000 in
theorem tzOf16 (w : World) (hd : w.cell? ⟨6, dbAt 4, none⟩ = some (.int .u8 4)) : Calls Tryd.prog 46 #[.int .u64 16] w fun e w' => e = .returned (.int .i64 4) ∧ w = w' := by
  simp only [dbAt] at hd
  have e1 : bits BinOp.and IntKind.u64 16 (IntKind.u64.wrap (-16)) = 16 := by kernel_rfl
  go_enter Tryd.func46, Tryd.ntmps46
  go_wp2
  go_ret
  exact ⟨rfl, rfl⟩

set_option maxRecDepth 100000 in
set_option maxHeartbeats 1000000 in
theorem onesOf32 (w : World) : Calls Tryd.prog 45 #[.int .u64 32] w fun e w' => e = .returned (.int .i64 1) ∧ w = w' := by
  go_enter Tryd.func45, Tryd.ntmps45
  go_wp2
  go_ret
  refine ⟨?_, rfl⟩
  kernel_rfl

set_option maxRecDepth 100000 in
set_option maxHeartbeats 1000000 in
theorem tzOf32 (w : World) (hd : w.cell? ⟨6, dbAt 5, none⟩ = some (.int .u8 5)) : Calls Tryd.prog 46 #[.int .u64 32] w fun e w' => e = .returned (.int .i64 5) ∧ w = w' := by
  simp only [dbAt] at hd
  have e1 : bits BinOp.and IntKind.u64 32 (IntKind.u64.wrap (-32)) = 32 := by kernel_rfl
  go_enter Tryd.func46, Tryd.ntmps46
  go_wp2
  go_ret
  exact ⟨rfl, rfl⟩

set_option maxRecDepth 100000 in
set_option maxHeartbeats 1000000 in
theorem onesOf64 (w : World) : Calls Tryd.prog 45 #[.int .u64 64] w fun e w' => e = .returned (.int .i64 1) ∧ w = w' := by
  go_enter Tryd.func45, Tryd.ntmps45
  go_wp2
  go_ret
  refine ⟨?_, rfl⟩
  kernel_rfl

set_option maxRecDepth 100000 in
set_option maxHeartbeats 1000000 in
theorem tzOf64 (w : World) (hd : w.cell? ⟨6, dbAt 6, none⟩ = some (.int .u8 6)) : Calls Tryd.prog 46 #[.int .u64 64] w fun e w' => e = .returned (.int .i64 6) ∧ w = w' := by
  simp only [dbAt] at hd
  have e1 : bits BinOp.and IntKind.u64 64 (IntKind.u64.wrap (-64)) = 64 := by kernel_rfl
  go_enter Tryd.func46, Tryd.ntmps46
  go_wp2
  go_ret
  exact ⟨rfl, rfl⟩

/-- A power of two, and its exponent. -/
theorem next_yes (k n : Nat) (hk : k < 7) (hn : n = 2 ^ k) (w : World) (hd : w.cell? ⟨6, dbAt k, none⟩ = some (.int .u8 (k : Int))) :
    Calls Tryd.prog 31 #[.int .u64 (n : Int)] w fun e w' => e = .returned (.tuple #[.int .u64 (n : Int), .int .u64 (k : Int)]) ∧ w = w' := by
  subst hn
  rcases k with _ | _ | _ | _ | _ | _ | _ | k
  · have HD := Lib.hid (show w.cell? ⟨6, dbAt 0, none⟩ = some (.int .u8 0) from hd)
    clear hd hk
    show Calls Tryd.prog 31 #[.int .u64 1] w fun e w' => e = .returned (.tuple #[.int .u64 1, .int .u64 0]) ∧ w = w'
    go_enter Tryd.func31, Tryd.ntmps31
    go_wp2_with fail
    refine (onesOf1 w).mono ?_
    rintro e w' ⟨rfl, rfl⟩
    go_wp2_with fail
    refine (tzOf1 w HD.out).mono ?_
    rintro e w' ⟨rfl, rfl⟩
    go_wp2_with fail
    go_ret2
    exact ⟨rfl, rfl⟩
  · have HD := Lib.hid (show w.cell? ⟨6, dbAt 1, none⟩ = some (.int .u8 1) from hd)
    clear hd hk
    show Calls Tryd.prog 31 #[.int .u64 2] w fun e w' => e = .returned (.tuple #[.int .u64 2, .int .u64 1]) ∧ w = w'
    go_enter Tryd.func31, Tryd.ntmps31
    go_wp2_with fail
    refine (onesOf2 w).mono ?_
    rintro e w' ⟨rfl, rfl⟩
    go_wp2_with fail
    refine (tzOf2 w HD.out).mono ?_
    rintro e w' ⟨rfl, rfl⟩
    go_wp2_with fail
    go_ret2
    exact ⟨rfl, rfl⟩
  · have HD := Lib.hid (show w.cell? ⟨6, dbAt 2, none⟩ = some (.int .u8 2) from hd)
    clear hd hk
    show Calls Tryd.prog 31 #[.int .u64 4] w fun e w' => e = .returned (.tuple #[.int .u64 4, .int .u64 2]) ∧ w = w'
    go_enter Tryd.func31, Tryd.ntmps31
    go_wp2_with fail
    refine (onesOf4 w).mono ?_
    rintro e w' ⟨rfl, rfl⟩
    go_wp2_with fail
    refine (tzOf4 w HD.out).mono ?_
    rintro e w' ⟨rfl, rfl⟩
    go_wp2_with fail
    go_ret2
    exact ⟨rfl, rfl⟩
  · have HD := Lib.hid (show w.cell? ⟨6, dbAt 3, none⟩ = some (.int .u8 3) from hd)
    clear hd hk
    show Calls Tryd.prog 31 #[.int .u64 8] w fun e w' => e = .returned (.tuple #[.int .u64 8, .int .u64 3]) ∧ w = w'
    go_enter Tryd.func31, Tryd.ntmps31
    go_wp2_with fail
    refine (onesOf8 w).mono ?_
    rintro e w' ⟨rfl, rfl⟩
    go_wp2_with fail
    refine (tzOf8 w HD.out).mono ?_
    rintro e w' ⟨rfl, rfl⟩
    go_wp2_with fail
    go_ret2
    exact ⟨rfl, rfl⟩
  · have HD := Lib.hid (show w.cell? ⟨6, dbAt 4, none⟩ = some (.int .u8 4) from hd)
    clear hd hk
    show Calls Tryd.prog 31 #[.int .u64 16] w fun e w' => e = .returned (.tuple #[.int .u64 16, .int .u64 4]) ∧ w = w'
    go_enter Tryd.func31, Tryd.ntmps31
    go_wp2_with fail
    refine (onesOf16 w).mono ?_
    rintro e w' ⟨rfl, rfl⟩
    go_wp2_with fail
    refine (tzOf16 w HD.out).mono ?_
    rintro e w' ⟨rfl, rfl⟩
    go_wp2_with fail
    go_ret2
    exact ⟨rfl, rfl⟩
  · have HD := Lib.hid (show w.cell? ⟨6, dbAt 5, none⟩ = some (.int .u8 5) from hd)
    clear hd hk
    show Calls Tryd.prog 31 #[.int .u64 32] w fun e w' => e = .returned (.tuple #[.int .u64 32, .int .u64 5]) ∧ w = w'
    go_enter Tryd.func31, Tryd.ntmps31
    go_wp2_with fail
    refine (onesOf32 w).mono ?_
    rintro e w' ⟨rfl, rfl⟩
    go_wp2_with fail
    refine (tzOf32 w HD.out).mono ?_
    rintro e w' ⟨rfl, rfl⟩
    go_wp2_with fail
    go_ret2
    exact ⟨rfl, rfl⟩
  · have HD := Lib.hid (show w.cell? ⟨6, dbAt 6, none⟩ = some (.int .u8 6) from hd)
    clear hd hk
    show Calls Tryd.prog 31 #[.int .u64 64] w fun e w' => e = .returned (.tuple #[.int .u64 64, .int .u64 6]) ∧ w = w'
    go_enter Tryd.func31, Tryd.ntmps31
    go_wp2_with fail
    refine (onesOf64 w).mono ?_
    rintro e w' ⟨rfl, rfl⟩
    go_wp2_with fail
    refine (tzOf64 w HD.out).mono ?_
    rintro e w' ⟨rfl, rfl⟩
    go_wp2_with fail
    go_ret2
    exact ⟨rfl, rfl⟩
  · omega
end Go.Proofs.YtimihpddlinmbaaDoor
