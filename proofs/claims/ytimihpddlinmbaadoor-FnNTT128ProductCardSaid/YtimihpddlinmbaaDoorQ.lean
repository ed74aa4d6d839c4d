/-
  The reference: numbers out of bytes.
-/
import Derived.Test.YtimihpddlinmbaaDoorJ
import Derived.BigRegion
import Derived.Lib.EndianBits
namespace Go.Proofs.YtimihpddlinmbaaDoor
open Go.RowKit
set_option linter.unusedVariables false
set_option linter.unusedSimpArgs false

/-- A number of 128 bits, as the reference has it. -/
def wlo (x : Nat) : Value := .int .u64 ((lo64 x : Nat) : Int)
def whi (x : Nat) : Value := .int .u64 ((hi64 x : Nat) : Int)
def wv (x : Nat) : Value := .agg #[wlo x, whi x]

/-- What the first k bytes of x come to. -/
def low (x k : Nat) : Nat := x % 256 ^ k

theorem low_next (x k : Nat) : low x (k + 1) = low x k + bt x k * 256 ^ k := by
  unfold low bt
  rw [Nat.pow_succ, Nat.mod_mul]
  rw [Nat.mul_comm]

/-- A byte laid over the lower ones. -/
theorem or_byte (k x : Nat) (hk : k < 8) : bits BinOp.or IntKind.u64 ((low x k : Nat) : Int) (((bt x k : Nat) : Int) * (256 : Int) ^ k) = ((low x (k + 1) : Nat) : Int) := by
  have hV : bt x k < 256 := by unfold bt; omega
  have hL : low x k < 256 ^ k := Nat.mod_lt _ (Nat.pow_pos (by omega))
  rw [low_next]
  generalize bt x k = V at *
  generalize low x k = L at *
  rcases k with _ | _ | _ | _ | _ | _ | _ | _ | k
  · have : L = 0 := by simpa using hL
    subst this
    simp only [Int.pow_zero, Int.mul_one, Nat.pow_zero, Nat.mul_one]
    have := bits_or_u64_nat 0 V (by omega) (by omega)
    simpa using this
  all_goals try omega
  all_goals simp only [Nat.zero_add, Nat.reduceAdd, Nat.reducePow, Int.reducePow] at hL ⊢
  all_goals simp (disch := omega) only [u64_or8, u64_or16, u64_or24, u64_or32, u64_or40, u64_or48, u64_or56]
  all_goals omega

/-- One round's numbers. -/
theorem step_of (y v k : Nat) (hk : k < 8) (hv : bt y k = v) : ∃ L V N : Int, L = ((low y k : Nat) : Int) ∧ V = ((v : Nat) : Int) ∧ N = ((low y (k + 1) : Nat) : Int) ∧ bits BinOp.or IntKind.u64 L (V * (256 : Int) ^ k) = N ∧ 0 ≤ V ∧ V < 256 ∧ IntKind.u64.wrap V = V := by
  subst hv
  have h1 : ((bt y k : Nat) : Int) < 256 := by unfold bt; omega
  exact ⟨_, _, _, rfl, rfl, rfl, or_byte k y hk, by omega, h1, by rw [IntKind.wrap_u64]; omega⟩

/-- Two cells of one's own, stored. -/
theorem own_two {w w2 : World} {n : Nat} {x y u v : Value} (hb : Below w.heap.size w w2) (hn : w.heap.size ≤ n) (h0 : w2.cell? ⟨n, 0, none⟩ = some u) (h1 : w2.cell? ⟨n, 1, none⟩ = some v) :
    ∃ w3, w3 = (w2.setCell ⟨n, 0, none⟩ x).setCell ⟨n, 1, none⟩ y ∧ Below w.heap.size w w3 ∧ w3.cell? ⟨n, 0, none⟩ = some x ∧ w3.cell? ⟨n, 1, none⟩ = some y := by
  refine ⟨_, rfl, (hb.setCell hn _).setCell hn _, ?_, ?_⟩
  · rw [World.cell?_setCell_other _ _ _ _ (by simp)]; exact World.cell?_setCell_same _ _ _ h0
  · exact World.cell?_setCell_same _ _ _ (by rw [World.cell?_setCell_other _ _ _ _ (by simp)]; exact h1)

structure NumInv (w : World) (x k : Nat) (wr : World) : Prop where
  below : Below w.heap.size w wr
  size : w.heap.size + 2 ≤ wr.heap.size
  c0 : wr.cell? ⟨w.heap.size + 1, 0, none⟩ = some (.int .u64 ((low (lo64 x) (min k 8) : Nat) : Int))
  f0 : wr.frozen? ⟨w.heap.size + 1, 0, none⟩ = false
  c1 : wr.cell? ⟨w.heap.size + 1, 1, none⟩ = some (.int .u64 ((low (hi64 x) (k - 8) : Nat) : Int))
  f1 : wr.frozen? ⟨w.heap.size + 1, 1, none⟩ = false
  r0 : wr.cell? ⟨w.heap.size, 0, none⟩ = some (.int .u64 0)
  g0 : wr.frozen? ⟨w.heap.size, 0, none⟩ = false
  r1 : wr.cell? ⟨w.heap.size, 1, none⟩ = some (.int .u64 0)
  g1 : wr.frozen? ⟨w.heap.size, 1, none⟩ = false

theorem NumInv.next0 {w wr : World} {x k : Nat} {N : Int} (h : NumInv w x k wr) (hk : k < 8) (hN : N = ((low (lo64 x) (k + 1) : Nat) : Int)) : NumInv w x (k + 1) (wr.setCell ⟨w.heap.size + 1, 0, none⟩ (.int .u64 N)).drew := by
  have hd : ∀ p : Addr, ((wr.setCell ⟨w.heap.size + 1, 0, none⟩ (.int .u64 N)).drew).cell? p = (wr.setCell ⟨w.heap.size + 1, 0, none⟩ (.int .u64 N)).cell? p := fun _ => rfl
  have hf : ∀ p : Addr, ((wr.setCell ⟨w.heap.size + 1, 0, none⟩ (.int .u64 N)).drew).frozen? p = wr.frozen? p := fun p => World.frozen?_setCell _ _ _ _
  refine ⟨(h.below.setCell (by show w.heap.size ≤ w.heap.size + 1; omega) _).drew, by have := h.size; simp; omega, ?_, by rw [hf]; exact h.f0, ?_, by rw [hf]; exact h.f1, ?_, by rw [hf]; exact h.g0, ?_, by rw [hf]; exact h.g1⟩
  · rw [hd, World.cell?_setCell_same _ _ _ h.c0, hN, Nat.min_eq_left (by omega)]
  · rw [hd, World.cell?_setCell_other _ _ _ _ (by simp), h.c1, show k + 1 - 8 = k - 8 by omega]
  · rw [hd, World.cell?_setCell_other _ _ _ _ (by simp), h.r0]
  · rw [hd, World.cell?_setCell_other _ _ _ _ (by simp), h.r1]
theorem NumInv.next1 {w wr : World} {x k : Nat} {N : Int} (h : NumInv w x k wr) (hk : 8 ≤ k) (hN : N = ((low (hi64 x) (k - 8 + 1) : Nat) : Int)) : NumInv w x (k + 1) (wr.setCell ⟨w.heap.size + 1, 1, none⟩ (.int .u64 N)).drew := by
  have hd : ∀ p : Addr, ((wr.setCell ⟨w.heap.size + 1, 1, none⟩ (.int .u64 N)).drew).cell? p = (wr.setCell ⟨w.heap.size + 1, 1, none⟩ (.int .u64 N)).cell? p := fun _ => rfl
  have hf : ∀ p : Addr, ((wr.setCell ⟨w.heap.size + 1, 1, none⟩ (.int .u64 N)).drew).frozen? p = wr.frozen? p := fun p => World.frozen?_setCell _ _ _ _
  refine ⟨(h.below.setCell (by show w.heap.size ≤ w.heap.size + 1; omega) _).drew, by have := h.size; simp; omega, ?_, by rw [hf]; exact h.f0, ?_, by rw [hf]; exact h.f1, ?_, by rw [hf]; exact h.g0, ?_, by rw [hf]; exact h.g1⟩
  · rw [hd, World.cell?_setCell_other _ _ _ _ (by simp), h.c0, Nat.min_eq_right hk, Nat.min_eq_right (by omega)]
  · rw [hd, World.cell?_setCell_same _ _ _ h.c1, hN, show k + 1 - 8 = k - 8 + 1 by omega]
  · rw [hd, World.cell?_setCell_other _ _ _ _ (by simp), h.r0]
  · rw [hd, World.cell?_setCell_other _ _ _ _ (by simp), h.r1]

set_option maxRecDepth 100000 in
set_option maxHeartbeats 2000000 in
theorem number (x b o cp : Nat) (hx : x < W8) (w : World) (h : By w b o 16 x) :
    Calls Tryd.prog 38 #[.slice (some ⟨b, o, none⟩) 16 cp] w fun e w' => e = .returned (wv x) ∧ Below w.heap.size w w' := by
  have H := Lib.hid h
  have HX := Lib.hid hx
  clear h hx
  go_enter Tryd.func38, Tryd.ntmps38
  go_wp2_with fail
  have hi : NumInv w x 0 ((w.alloc (.cells #[Value.int IntKind.u64 0, Value.int IntKind.u64 0] 35)).alloc (.cells #[Value.int IntKind.u64 0, Value.int IntKind.u64 0] 35)) := by
    have e : ∀ y, low y 0 = 0 := fun y => by unfold low; omega
    refine ⟨((Below.refl _ w).alloc (Nat.le_refl _) _).alloc (by simp) _, by simp, ?_, box_free (by simp), ?_, box_free (by simp), cell_past _ (box_cell rfl rfl), free_past _ (by simp) (box_free rfl), cell_past _ (box_cell rfl rfl), free_past _ (by simp) (box_free rfl)⟩
    · rw [Nat.zero_min, e]; exact box_cell (by simp) rfl
    · rw [Nat.zero_sub, e]; exact box_cell (by simp) rfl
  generalize (w.alloc (.cells #[Value.int IntKind.u64 0, Value.int IntKind.u64 0] 35)).alloc (.cells #[Value.int IntKind.u64 0, Value.int IntKind.u64 0] 35) = w1 at *
  go_loopw [9] (fun i wr => ∃ k : Nat, k ≤ 16 ∧ i = .int .i64 k ∧ NumInv w x k wr) (fun i _ => 16 - (intOf i).toNat)
  case atStart => exact ⟨0, by omega, rfl, hi⟩
  case round =>
    obtain ⟨k, hk, rfl, hinv⟩ := hrel
    have HI := Lib.hid hinv
    clear hinv hi
    by_cases hlt : k < 16
    · have hcase : k = 0 ∨ k = 1 ∨ k = 2 ∨ k = 3 ∨ k = 4 ∨ k = 5 ∨ k = 6 ∨ k = 7 ∨ k = 8 ∨ k = 9 ∨ k = 10 ∨ k = 11 ∨ k = 12 ∨ k = 13 ∨ k = 14 ∨ k = 15 := by omega
      have hy := (H.out k hlt)
      rw [← Below.cell HI.out.below (p := ⟨b, o + k, none⟩) (By.lt (by omega) H.out)] at hy
      have f0 := HI.out.f0
      have f1 := HI.out.f1
      clear hk hlt
      rcases hcase with rfl | rfl | rfl | rfl | rfl | rfl | rfl | rfl | rfl | rfl | rfl | rfl | rfl | rfl | rfl | rfl
      · obtain ⟨L, V, N, hL, hV, hN, hor, hV0, hV1, hw⟩ := step_of (lo64 x) (bt x 0) 0 (by omega) (bt_lo x 0 (by omega))
        have cc : wr.cell? ⟨w.heap.size + 1, 0, none⟩ = some (.int .u64 L) := by rw [hL]; exact HI.out.c0
        rw [← hV] at hy
        have HN := Lib.hid hN
        clear hL hV hN
        simp only [Nat.add_zero, Int.pow_zero, Int.mul_one, Int.reducePow] at hy hor
        go_wp2_with fail
        go_region
        have hi2 := HI.out.next0 (by omega) HN.out
        generalize (wr.setCell ⟨w.heap.size + 1, 0, none⟩ (.int .u64 N)).drew = w5 at *
        have HI2 := Lib.hid hi2
        clear hi2 hy hor hw cc f0 f1
        go_wp2_with fail
        go_roundw
        case rel => exact ⟨1, by omega, by go_num, HI2.out⟩
        case measure => simp [intOf]
      · obtain ⟨L, V, N, hL, hV, hN, hor, hV0, hV1, hw⟩ := step_of (lo64 x) (bt x 1) 1 (by omega) (bt_lo x 1 (by omega))
        have cc : wr.cell? ⟨w.heap.size + 1, 0, none⟩ = some (.int .u64 L) := by rw [hL]; exact HI.out.c0
        rw [← hV] at hy
        have HN := Lib.hid hN
        clear hL hV hN
        simp only [Nat.add_zero, Int.pow_zero, Int.mul_one, Int.reducePow] at hy hor
        have hw2 : IntKind.u64.wrap (V * 256) = V * 256 := by rw [IntKind.wrap_u64]; omega
        go_wp2_with fail
        go_region
        have hi2 := HI.out.next0 (by omega) HN.out
        generalize (wr.setCell ⟨w.heap.size + 1, 0, none⟩ (.int .u64 N)).drew = w5 at *
        have HI2 := Lib.hid hi2
        clear hi2 hy hor hw hw2 cc f0 f1
        go_wp2_with fail
        go_roundw
        case rel => exact ⟨2, by omega, by go_num, HI2.out⟩
        case measure => simp [intOf]
      · obtain ⟨L, V, N, hL, hV, hN, hor, hV0, hV1, hw⟩ := step_of (lo64 x) (bt x 2) 2 (by omega) (bt_lo x 2 (by omega))
        have cc : wr.cell? ⟨w.heap.size + 1, 0, none⟩ = some (.int .u64 L) := by rw [hL]; exact HI.out.c0
        rw [← hV] at hy
        have HN := Lib.hid hN
        clear hL hV hN
        simp only [Nat.add_zero, Int.pow_zero, Int.mul_one, Int.reducePow] at hy hor
        have hw2 : IntKind.u64.wrap (V * 65536) = V * 65536 := by rw [IntKind.wrap_u64]; omega
        go_wp2_with fail
        go_region
        have hi2 := HI.out.next0 (by omega) HN.out
        generalize (wr.setCell ⟨w.heap.size + 1, 0, none⟩ (.int .u64 N)).drew = w5 at *
        have HI2 := Lib.hid hi2
        clear hi2 hy hor hw hw2 cc f0 f1
        go_wp2_with fail
        go_roundw
        case rel => exact ⟨3, by omega, by go_num, HI2.out⟩
        case measure => simp [intOf]
      · obtain ⟨L, V, N, hL, hV, hN, hor, hV0, hV1, hw⟩ := step_of (lo64 x) (bt x 3) 3 (by omega) (bt_lo x 3 (by omega))
        have cc : wr.cell? ⟨w.heap.size + 1, 0, none⟩ = some (.int .u64 L) := by rw [hL]; exact HI.out.c0
        rw [← hV] at hy
        have HN := Lib.hid hN
        clear hL hV hN
        simp only [Nat.add_zero, Int.pow_zero, Int.mul_one, Int.reducePow] at hy hor
        have hw2 : IntKind.u64.wrap (V * 16777216) = V * 16777216 := by rw [IntKind.wrap_u64]; omega
        go_wp2_with fail
        go_region
        have hi2 := HI.out.next0 (by omega) HN.out
        generalize (wr.setCell ⟨w.heap.size + 1, 0, none⟩ (.int .u64 N)).drew = w5 at *
        have HI2 := Lib.hid hi2
        clear hi2 hy hor hw hw2 cc f0 f1
        go_wp2_with fail
        go_roundw
        case rel => exact ⟨4, by omega, by go_num, HI2.out⟩
        case measure => simp [intOf]
      · obtain ⟨L, V, N, hL, hV, hN, hor, hV0, hV1, hw⟩ := step_of (lo64 x) (bt x 4) 4 (by omega) (bt_lo x 4 (by omega))
        have cc : wr.cell? ⟨w.heap.size + 1, 0, none⟩ = some (.int .u64 L) := by rw [hL]; exact HI.out.c0
        rw [← hV] at hy
        have HN := Lib.hid hN
        clear hL hV hN
        simp only [Nat.add_zero, Int.pow_zero, Int.mul_one, Int.reducePow] at hy hor
        have hw2 : IntKind.u64.wrap (V * 4294967296) = V * 4294967296 := by rw [IntKind.wrap_u64]; omega
        go_wp2_with fail
        go_region
        have hi2 := HI.out.next0 (by omega) HN.out
        generalize (wr.setCell ⟨w.heap.size + 1, 0, none⟩ (.int .u64 N)).drew = w5 at *
        have HI2 := Lib.hid hi2
        clear hi2 hy hor hw hw2 cc f0 f1
        go_wp2_with fail
        go_roundw
        case rel => exact ⟨5, by omega, by go_num, HI2.out⟩
        case measure => simp [intOf]
      · obtain ⟨L, V, N, hL, hV, hN, hor, hV0, hV1, hw⟩ := step_of (lo64 x) (bt x 5) 5 (by omega) (bt_lo x 5 (by omega))
        have cc : wr.cell? ⟨w.heap.size + 1, 0, none⟩ = some (.int .u64 L) := by rw [hL]; exact HI.out.c0
        rw [← hV] at hy
        have HN := Lib.hid hN
        clear hL hV hN
        simp only [Nat.add_zero, Int.pow_zero, Int.mul_one, Int.reducePow] at hy hor
        have hw2 : IntKind.u64.wrap (V * 1099511627776) = V * 1099511627776 := by rw [IntKind.wrap_u64]; omega
        go_wp2_with fail
        go_region
        have hi2 := HI.out.next0 (by omega) HN.out
        generalize (wr.setCell ⟨w.heap.size + 1, 0, none⟩ (.int .u64 N)).drew = w5 at *
        have HI2 := Lib.hid hi2
        clear hi2 hy hor hw hw2 cc f0 f1
        go_wp2_with fail
        go_roundw
        case rel => exact ⟨6, by omega, by go_num, HI2.out⟩
        case measure => simp [intOf]
      · obtain ⟨L, V, N, hL, hV, hN, hor, hV0, hV1, hw⟩ := step_of (lo64 x) (bt x 6) 6 (by omega) (bt_lo x 6 (by omega))
        have cc : wr.cell? ⟨w.heap.size + 1, 0, none⟩ = some (.int .u64 L) := by rw [hL]; exact HI.out.c0
        rw [← hV] at hy
        have HN := Lib.hid hN
        clear hL hV hN
        simp only [Nat.add_zero, Int.pow_zero, Int.mul_one, Int.reducePow] at hy hor
        have hw2 : IntKind.u64.wrap (V * 281474976710656) = V * 281474976710656 := by rw [IntKind.wrap_u64]; omega
        go_wp2_with fail
        go_region
        have hi2 := HI.out.next0 (by omega) HN.out
        generalize (wr.setCell ⟨w.heap.size + 1, 0, none⟩ (.int .u64 N)).drew = w5 at *
        have HI2 := Lib.hid hi2
        clear hi2 hy hor hw hw2 cc f0 f1
        go_wp2_with fail
        go_roundw
        case rel => exact ⟨7, by omega, by go_num, HI2.out⟩
        case measure => simp [intOf]
      · obtain ⟨L, V, N, hL, hV, hN, hor, hV0, hV1, hw⟩ := step_of (lo64 x) (bt x 7) 7 (by omega) (bt_lo x 7 (by omega))
        have cc : wr.cell? ⟨w.heap.size + 1, 0, none⟩ = some (.int .u64 L) := by rw [hL]; exact HI.out.c0
        rw [← hV] at hy
        have HN := Lib.hid hN
        clear hL hV hN
        simp only [Nat.add_zero, Int.pow_zero, Int.mul_one, Int.reducePow] at hy hor
        have hw2 : IntKind.u64.wrap (V * 72057594037927936) = V * 72057594037927936 := by rw [IntKind.wrap_u64]; omega
        go_wp2_with fail
        go_region
        have hi2 := HI.out.next0 (by omega) HN.out
        generalize (wr.setCell ⟨w.heap.size + 1, 0, none⟩ (.int .u64 N)).drew = w5 at *
        have HI2 := Lib.hid hi2
        clear hi2 hy hor hw hw2 cc f0 f1
        go_wp2_with fail
        go_roundw
        case rel => exact ⟨8, by omega, by go_num, HI2.out⟩
        case measure => simp [intOf]
      · obtain ⟨L, V, N, hL, hV, hN, hor, hV0, hV1, hw⟩ := step_of (hi64 x) (bt x 8) 0 (by omega) (bt_hi x 0)
        have cc : wr.cell? ⟨w.heap.size + 1, 1, none⟩ = some (.int .u64 L) := by rw [hL]; exact HI.out.c1
        rw [← hV] at hy
        have HN := Lib.hid hN
        clear hL hV hN
        simp only [Nat.add_zero, Int.pow_zero, Int.mul_one, Int.reducePow] at hy hor
        go_wp2_with fail
        go_region
        have hi2 := HI.out.next1 (by omega) HN.out
        generalize (wr.setCell ⟨w.heap.size + 1, 1, none⟩ (.int .u64 N)).drew = w5 at *
        have HI2 := Lib.hid hi2
        clear hi2 hy hor hw cc f0 f1
        go_wp2_with fail
        go_roundw
        case rel => exact ⟨9, by omega, by go_num, HI2.out⟩
        case measure => simp [intOf]
      · obtain ⟨L, V, N, hL, hV, hN, hor, hV0, hV1, hw⟩ := step_of (hi64 x) (bt x 9) 1 (by omega) (bt_hi x 1)
        have cc : wr.cell? ⟨w.heap.size + 1, 1, none⟩ = some (.int .u64 L) := by rw [hL]; exact HI.out.c1
        rw [← hV] at hy
        have HN := Lib.hid hN
        clear hL hV hN
        simp only [Nat.add_zero, Int.pow_zero, Int.mul_one, Int.reducePow] at hy hor
        have hw2 : IntKind.u64.wrap (V * 256) = V * 256 := by rw [IntKind.wrap_u64]; omega
        go_wp2_with fail
        go_region
        have hi2 := HI.out.next1 (by omega) HN.out
        generalize (wr.setCell ⟨w.heap.size + 1, 1, none⟩ (.int .u64 N)).drew = w5 at *
        have HI2 := Lib.hid hi2
        clear hi2 hy hor hw hw2 cc f0 f1
        go_wp2_with fail
        go_roundw
        case rel => exact ⟨10, by omega, by go_num, HI2.out⟩
        case measure => simp [intOf]
      · obtain ⟨L, V, N, hL, hV, hN, hor, hV0, hV1, hw⟩ := step_of (hi64 x) (bt x 10) 2 (by omega) (bt_hi x 2)
        have cc : wr.cell? ⟨w.heap.size + 1, 1, none⟩ = some (.int .u64 L) := by rw [hL]; exact HI.out.c1
        rw [← hV] at hy
        have HN := Lib.hid hN
        clear hL hV hN
        simp only [Nat.add_zero, Int.pow_zero, Int.mul_one, Int.reducePow] at hy hor
        have hw2 : IntKind.u64.wrap (V * 65536) = V * 65536 := by rw [IntKind.wrap_u64]; omega
        go_wp2_with fail
        go_region
        have hi2 := HI.out.next1 (by omega) HN.out
        generalize (wr.setCell ⟨w.heap.size + 1, 1, none⟩ (.int .u64 N)).drew = w5 at *
        have HI2 := Lib.hid hi2
        clear hi2 hy hor hw hw2 cc f0 f1
        go_wp2_with fail
        go_roundw
        case rel => exact ⟨11, by omega, by go_num, HI2.out⟩
        case measure => simp [intOf]
      · obtain ⟨L, V, N, hL, hV, hN, hor, hV0, hV1, hw⟩ := step_of (hi64 x) (bt x 11) 3 (by omega) (bt_hi x 3)
        have cc : wr.cell? ⟨w.heap.size + 1, 1, none⟩ = some (.int .u64 L) := by rw [hL]; exact HI.out.c1
        rw [← hV] at hy
        have HN := Lib.hid hN
        clear hL hV hN
        simp only [Nat.add_zero, Int.pow_zero, Int.mul_one, Int.reducePow] at hy hor
        have hw2 : IntKind.u64.wrap (V * 16777216) = V * 16777216 := by rw [IntKind.wrap_u64]; omega
        go_wp2_with fail
        go_region
        have hi2 := HI.out.next1 (by omega) HN.out
        generalize (wr.setCell ⟨w.heap.size + 1, 1, none⟩ (.int .u64 N)).drew = w5 at *
        have HI2 := Lib.hid hi2
        clear hi2 hy hor hw hw2 cc f0 f1
        go_wp2_with fail
        go_roundw
        case rel => exact ⟨12, by omega, by go_num, HI2.out⟩
        case measure => simp [intOf]
      · obtain ⟨L, V, N, hL, hV, hN, hor, hV0, hV1, hw⟩ := step_of (hi64 x) (bt x 12) 4 (by omega) (bt_hi x 4)
        have cc : wr.cell? ⟨w.heap.size + 1, 1, none⟩ = some (.int .u64 L) := by rw [hL]; exact HI.out.c1
        rw [← hV] at hy
        have HN := Lib.hid hN
        clear hL hV hN
        simp only [Nat.add_zero, Int.pow_zero, Int.mul_one, Int.reducePow] at hy hor
        have hw2 : IntKind.u64.wrap (V * 4294967296) = V * 4294967296 := by rw [IntKind.wrap_u64]; omega
        go_wp2_with fail
        go_region
        have hi2 := HI.out.next1 (by omega) HN.out
        generalize (wr.setCell ⟨w.heap.size + 1, 1, none⟩ (.int .u64 N)).drew = w5 at *
        have HI2 := Lib.hid hi2
        clear hi2 hy hor hw hw2 cc f0 f1
        go_wp2_with fail
        go_roundw
        case rel => exact ⟨13, by omega, by go_num, HI2.out⟩
        case measure => simp [intOf]
      · obtain ⟨L, V, N, hL, hV, hN, hor, hV0, hV1, hw⟩ := step_of (hi64 x) (bt x 13) 5 (by omega) (bt_hi x 5)
        have cc : wr.cell? ⟨w.heap.size + 1, 1, none⟩ = some (.int .u64 L) := by rw [hL]; exact HI.out.c1
        rw [← hV] at hy
        have HN := Lib.hid hN
        clear hL hV hN
        simp only [Nat.add_zero, Int.pow_zero, Int.mul_one, Int.reducePow] at hy hor
        have hw2 : IntKind.u64.wrap (V * 1099511627776) = V * 1099511627776 := by rw [IntKind.wrap_u64]; omega
        go_wp2_with fail
        go_region
        have hi2 := HI.out.next1 (by omega) HN.out
        generalize (wr.setCell ⟨w.heap.size + 1, 1, none⟩ (.int .u64 N)).drew = w5 at *
        have HI2 := Lib.hid hi2
        clear hi2 hy hor hw hw2 cc f0 f1
        go_wp2_with fail
        go_roundw
        case rel => exact ⟨14, by omega, by go_num, HI2.out⟩
        case measure => simp [intOf]
      · obtain ⟨L, V, N, hL, hV, hN, hor, hV0, hV1, hw⟩ := step_of (hi64 x) (bt x 14) 6 (by omega) (bt_hi x 6)
        have cc : wr.cell? ⟨w.heap.size + 1, 1, none⟩ = some (.int .u64 L) := by rw [hL]; exact HI.out.c1
        rw [← hV] at hy
        have HN := Lib.hid hN
        clear hL hV hN
        simp only [Nat.add_zero, Int.pow_zero, Int.mul_one, Int.reducePow] at hy hor
        have hw2 : IntKind.u64.wrap (V * 281474976710656) = V * 281474976710656 := by rw [IntKind.wrap_u64]; omega
        go_wp2_with fail
        go_region
        have hi2 := HI.out.next1 (by omega) HN.out
        generalize (wr.setCell ⟨w.heap.size + 1, 1, none⟩ (.int .u64 N)).drew = w5 at *
        have HI2 := Lib.hid hi2
        clear hi2 hy hor hw hw2 cc f0 f1
        go_wp2_with fail
        go_roundw
        case rel => exact ⟨15, by omega, by go_num, HI2.out⟩
        case measure => simp [intOf]
      · obtain ⟨L, V, N, hL, hV, hN, hor, hV0, hV1, hw⟩ := step_of (hi64 x) (bt x 15) 7 (by omega) (bt_hi x 7)
        have cc : wr.cell? ⟨w.heap.size + 1, 1, none⟩ = some (.int .u64 L) := by rw [hL]; exact HI.out.c1
        rw [← hV] at hy
        have HN := Lib.hid hN
        clear hL hV hN
        simp only [Nat.add_zero, Int.pow_zero, Int.mul_one, Int.reducePow] at hy hor
        have hw2 : IntKind.u64.wrap (V * 72057594037927936) = V * 72057594037927936 := by rw [IntKind.wrap_u64]; omega
        go_wp2_with fail
        go_region
        have hi2 := HI.out.next1 (by omega) HN.out
        generalize (wr.setCell ⟨w.heap.size + 1, 1, none⟩ (.int .u64 N)).drew = w5 at *
        have HI2 := Lib.hid hi2
        clear hi2 hy hor hw hw2 cc f0 f1
        go_wp2_with fail
        go_roundw
        case rel => exact ⟨16, by omega, by go_num, HI2.out⟩
        case measure => simp [intOf]
    · obtain rfl : k = 16 := by omega
      have c0 := HI.out.c0
      have c1 := HI.out.c1
      have r0 := HI.out.r0
      have r1 := HI.out.r1
      have g0 := HI.out.g0
      have g1 := HI.out.g1
      have e0 : low (lo64 x) (min 16 8) = lo64 x := Nat.mod_eq_of_lt (lo64_small x)
      have e1 : low (hi64 x) (16 - 8) = hi64 x := Nat.mod_eq_of_lt (hi64_small HX.out)
      rw [e0] at c0
      rw [e1] at c1
      clear e0 e1
      go_wp2_with fail
      obtain ⟨w5, hw5⟩ : ∃ w5, w5 = (wr.setCell ⟨w.heap.size, 0, none⟩ (.int .u64 ((lo64 x : Nat) : Int))).setCell ⟨w.heap.size, 1, none⟩ (.int .u64 ((hi64 x : Nat) : Int)) := ⟨_, rfl⟩
      have d1 : w5.cell? ⟨w.heap.size, 1, none⟩ = some (.int .u64 ((hi64 x : Nat) : Int)) := by
        rw [hw5]; exact World.cell?_setCell_same _ _ _ (by rw [World.cell?_setCell_other _ _ _ _ (by simp)]; exact r1)
      have d0 : w5.cell? ⟨w.heap.size, 0, none⟩ = some (.int .u64 ((lo64 x : Nat) : Int)) := by
        rw [hw5, World.cell?_setCell_other _ _ _ _ (by simp)]; exact World.cell?_setCell_same _ _ _ r0
      have hb5 : Below w.heap.size w w5 := by
        rw [hw5]; exact (HI.out.below.setCell (Nat.le_refl _) _).setCell (Nat.le_refl _) _
      rw [← hw5]
      unfold wv wlo whi
      clear hw5
      exact bodyPost_ret (v := .agg #[.int .u64 ((lo64 x : Nat) : Int), .int .u64 ((hi64 x : Nat) : Int)]) (by simp [results, Tryd.results38, go_sem, d0, d1]) rfl ⟨rfl, hb5⟩
end Go.Proofs.YtimihpddlinmbaaDoor
