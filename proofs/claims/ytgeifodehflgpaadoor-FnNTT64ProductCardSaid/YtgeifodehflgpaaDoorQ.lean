/-
  The reference: numbers out of bytes, the field's constants, and what is below the order.
-/
import Derived.Test.YtgeifodehflgpaaDoorJ
import Derived.BigRegion
import Derived.Lib.EndianBits
namespace Go.Proofs.YtgeifodehflgpaaDoor
open Go.RowKit
set_option linter.unusedVariables false
set_option linter.unusedSimpArgs false

/-- A number of 128 bits, as the reference has it. -/
def lo64 (x : Nat) : Nat := x % 18446744073709551616
def hi64 (x : Nat) : Nat := x / 18446744073709551616
theorem lo64_lt {x : Nat} (h : x < 18446744073709551616) : lo64 x = x := Nat.mod_eq_of_lt h
theorem hi64_lt {x : Nat} (h : x < 18446744073709551616) : hi64 x = 0 := Nat.div_eq_of_lt h
def wlo (x : Nat) : Value := .int .u64 ((lo64 x : Nat) : Int)
def whi (x : Nat) : Value := .int .u64 ((hi64 x : Nat) : Int)
def wv (x : Nat) : Value := .agg #[wlo x, whi x]

/-- What the first k bytes of x come to. -/
def low (x k : Nat) : Nat := x % 256 ^ k

theorem low_next (x k : Nat) : low x (k + 1) = low x k + bt x k * 256 ^ k := by
  unfold low bt
  rw [Nat.pow_succ, Nat.mod_mul]
  rw [Nat.mul_comm]

/-- A byte laid over the lower ones. -/
theorem or_byte (k x : Nat) (hk : k < 8) : bits BinOp.or IntKind.u64 ((low x k : Nat) : Int) (((bt x k : Nat) : Int) * (256 : Int) ^ k) = ((low x (k + 1) : Nat) : Int) := by
  have hV : bt x k < 256 := by unfold bt; omega
  have hL : low x k < 256 ^ k := Nat.mod_lt _ (Nat.pow_pos (by omega))
  rw [low_next]
  generalize bt x k = V at *
  generalize low x k = L at *
  rcases k with _ | _ | _ | _ | _ | _ | _ | _ | k
  · have : L = 0 := by simpa using hL
    subst this
    simp only [Int.pow_zero, Int.mul_one, Nat.pow_zero, Nat.mul_one]
    have := bits_or_u64_nat 0 V (by omega) (by omega)
    simpa using this
  all_goals try omega
  all_goals simp only [Nat.zero_add, Nat.reduceAdd, Nat.reducePow, Int.reducePow] at hL ⊢
  all_goals simp (disch := omega) only [u64_or8, u64_or16, u64_or24, u64_or32, u64_or40, u64_or48, u64_or56]
  all_goals omega

/-- Two cells of one's own, stored. -/
theorem own_two {w w2 : World} {n : Nat} {x y u v : Value} (hb : Below w.heap.size w w2) (hn : w.heap.size ≤ n) (h0 : w2.cell? ⟨n, 0, none⟩ = some u) (h1 : w2.cell? ⟨n, 1, none⟩ = some v) :
    ∃ w3, w3 = (w2.setCell ⟨n, 0, none⟩ x).setCell ⟨n, 1, none⟩ y ∧ Below w.heap.size w w3 ∧ w3.cell? ⟨n, 0, none⟩ = some x ∧ w3.cell? ⟨n, 1, none⟩ = some y := by
  refine ⟨_, rfl, (hb.setCell hn _).setCell hn _, ?_, ?_⟩
  · rw [World.cell?_setCell_other _ _ _ _ (by simp)]; exact World.cell?_setCell_same _ _ _ h0
  · exact World.cell?_setCell_same _ _ _ (by rw [World.cell?_setCell_other _ _ _ _ (by simp)]; exact h1)

structure NumInv (w : World) (x k : Nat) (wr : World) : Prop where
  below : Below w.heap.size w wr
  size : w.heap.size + 2 ≤ wr.heap.size
  c0 : wr.cell? ⟨w.heap.size + 1, 0, none⟩ = some (wlo (low x k))
  f0 : wr.frozen? ⟨w.heap.size + 1, 0, none⟩ = false
  c1 : wr.cell? ⟨w.heap.size + 1, 1, none⟩ = some (whi (low x k))
  f1 : wr.frozen? ⟨w.heap.size + 1, 1, none⟩ = false
  r0 : wr.cell? ⟨w.heap.size, 0, none⟩ = some (.int .u64 0)
  g0 : wr.frozen? ⟨w.heap.size, 0, none⟩ = false
  r1 : wr.cell? ⟨w.heap.size, 1, none⟩ = some (.int .u64 0)
  g1 : wr.frozen? ⟨w.heap.size, 1, none⟩ = false

theorem NumInv.next {w wr : World} {x k : Nat} {N : Int} (h : NumInv w x k wr) (hx : x < 18446744073709551616) (hN : N = ((low x (k + 1) : Nat) : Int)) : NumInv w x (k + 1) (wr.setCell ⟨w.heap.size + 1, 0, none⟩ (.int .u64 N)).drew := by
  have hl : low x (k + 1) < 18446744073709551616 := Nat.lt_of_le_of_lt (Nat.mod_le _ _) hx
  have hl0 : low x k < 18446744073709551616 := Nat.lt_of_le_of_lt (Nat.mod_le _ _) hx
  have hd : ∀ p : Addr, ((wr.setCell ⟨w.heap.size + 1, 0, none⟩ (.int .u64 N)).drew).cell? p = (wr.setCell ⟨w.heap.size + 1, 0, none⟩ (.int .u64 N)).cell? p := fun _ => rfl
  have hf : ∀ p : Addr, ((wr.setCell ⟨w.heap.size + 1, 0, none⟩ (.int .u64 N)).drew).frozen? p = wr.frozen? p := fun p => World.frozen?_setCell _ _ _ _
  refine ⟨(h.below.setCell (by show w.heap.size ≤ w.heap.size + 1; omega) _).drew, by have := h.size; simp; omega, ?_, by rw [hf]; exact h.f0, ?_, by rw [hf]; exact h.f1, ?_, by rw [hf]; exact h.g0, ?_, by rw [hf]; exact h.g1⟩
  · rw [hd, World.cell?_setCell_same _ _ _ h.c0, hN]
    unfold wlo; rw [lo64_lt hl]
  · rw [hd, World.cell?_setCell_other _ _ _ _ (by simp), h.c1]
    unfold whi; rw [hi64_lt hl, hi64_lt hl0]
  · rw [hd, World.cell?_setCell_other _ _ _ _ (by simp), h.r0]
  · rw [hd, World.cell?_setCell_other _ _ _ _ (by simp), h.r1]

set_option maxRecDepth 100000 in
set_option maxHeartbeats 1000000 in
theorem number (x b o cp : Nat) (hx : x < 18446744073709551616) (w : World) (h : By w b o 8 x) :
    Calls Tryd.prog 38 #[.slice (some ⟨b, o, none⟩) 8 cp] w fun e w' => e = .returned (wv x) ∧ Below w.heap.size w w' := by
  have H := Lib.hid h
  have HX := Lib.hid hx
  clear h hx
  go_enter Tryd.func38, Tryd.ntmps38
  go_wp2_with fail
  have hi : NumInv w x 0 ((w.alloc (.cells #[Value.int IntKind.u64 0, Value.int IntKind.u64 0] 35)).alloc (.cells #[Value.int IntKind.u64 0, Value.int IntKind.u64 0] 35)) := by
    have e : low x 0 = 0 := by unfold low; omega
    refine ⟨((Below.refl _ w).alloc (Nat.le_refl _) _).alloc (by simp) _, by simp, ?_, box_free (by simp), ?_, box_free (by simp), cell_past _ (box_cell rfl rfl), free_past _ (by simp) (box_free rfl), cell_past _ (box_cell rfl rfl), free_past _ (by simp) (box_free rfl)⟩
    · rw [e]; exact box_cell (by simp) rfl
    · rw [e]; exact box_cell (by simp) rfl
  generalize (w.alloc (.cells #[Value.int IntKind.u64 0, Value.int IntKind.u64 0] 35)).alloc (.cells #[Value.int IntKind.u64 0, Value.int IntKind.u64 0] 35) = w1 at *
  go_loopw [9] (fun i wr => ∃ k : Nat, k ≤ 8 ∧ i = .int .i64 k ∧ NumInv w x k wr) (fun i _ => 8 - (intOf i).toNat)
  case atStart => exact ⟨0, by omega, rfl, hi⟩
  case round =>
    obtain ⟨k, hk, rfl, hinv⟩ := hrel
    have HI := Lib.hid hinv
    clear hinv hi
    by_cases hlt : k < 8
    · have hy := (H.out k hlt)
      rw [← Below.cell HI.out.below (p := ⟨b, o + k, none⟩) (By.lt (by omega) H.out)] at hy
      have c0 := HI.out.c0
      have c1 := HI.out.c1
      have f0 := HI.out.f0
      have f1 := HI.out.f1
      unfold wlo at c0
      unfold whi at c1
      obtain ⟨L, hL⟩ : ∃ L : Int, L = ((low x k : Nat) : Int) := ⟨_, rfl⟩
      obtain ⟨V, hV⟩ : ∃ V : Int, V = ((bt x k : Nat) : Int) := ⟨_, rfl⟩
      obtain ⟨N, hN⟩ : ∃ N : Int, N = ((low x (k + 1) : Nat) : Int) := ⟨_, rfl⟩
      have hlow : low x k < 18446744073709551616 := Nat.lt_of_le_of_lt (Nat.mod_le _ _) HX.out
      rw [lo64_lt hlow, ← hL] at c0
      rw [← hV] at hy
      have hor := or_byte k x hlt
      rw [← hL, ← hV, ← hN] at hor
      have hV0 : 0 ≤ V := by rw [hV]; omega
      have hV1 : V < 256 := by rw [hV]; unfold bt; omega
      have hw : IntKind.u64.wrap V = V := by rw [IntKind.wrap_u64]; omega
      have HN := Lib.hid hN
      clear hL hV hN hlow
      rcases k with _ | _ | _ | _ | _ | _ | _ | _ | k
      · simp only [Nat.add_zero, Nat.zero_add, Nat.reduceAdd, Int.pow_zero, Int.mul_one, Int.reducePow] at hy hor
        go_wp2_with fail
        go_region
        have hi2 := HI.out.next HX.out HN.out
        generalize (wr.setCell ⟨w.heap.size + 1, 0, none⟩ (.int .u64 N)).drew = w5 at *
        have HI2 := Lib.hid hi2
        clear hi2 hy hor hw c0 c1 f0 f1
        go_wp2_with fail
        go_roundw
        case rel => exact ⟨1, by omega, by go_num, HI2.out⟩
        case measure => simp [intOf]
      · simp only [Nat.add_zero, Nat.zero_add, Nat.reduceAdd, Int.pow_zero, Int.mul_one, Int.reducePow] at hy hor
        have hw2 : IntKind.u64.wrap (V * 256) = V * 256 := by rw [IntKind.wrap_u64]; omega
        go_wp2_with fail
        go_region
        have hi2 := HI.out.next HX.out HN.out
        generalize (wr.setCell ⟨w.heap.size + 1, 0, none⟩ (.int .u64 N)).drew = w5 at *
        have HI2 := Lib.hid hi2
        clear hi2 hy hor hw hw2 c0 c1 f0 f1
        go_wp2_with fail
        go_roundw
        case rel => exact ⟨2, by omega, by go_num, HI2.out⟩
        case measure => simp [intOf]
      · simp only [Nat.add_zero, Nat.zero_add, Nat.reduceAdd, Int.pow_zero, Int.mul_one, Int.reducePow] at hy hor
        have hw2 : IntKind.u64.wrap (V * 65536) = V * 65536 := by rw [IntKind.wrap_u64]; omega
        go_wp2_with fail
        go_region
        have hi2 := HI.out.next HX.out HN.out
        generalize (wr.setCell ⟨w.heap.size + 1, 0, none⟩ (.int .u64 N)).drew = w5 at *
        have HI2 := Lib.hid hi2
        clear hi2 hy hor hw hw2 c0 c1 f0 f1
        go_wp2_with fail
        go_roundw
        case rel => exact ⟨3, by omega, by go_num, HI2.out⟩
        case measure => simp [intOf]
      · simp only [Nat.add_zero, Nat.zero_add, Nat.reduceAdd, Int.pow_zero, Int.mul_one, Int.reducePow] at hy hor
        have hw2 : IntKind.u64.wrap (V * 16777216) = V * 16777216 := by rw [IntKind.wrap_u64]; omega
        go_wp2_with fail
        go_region
        have hi2 := HI.out.next HX.out HN.out
        generalize (wr.setCell ⟨w.heap.size + 1, 0, none⟩ (.int .u64 N)).drew = w5 at *
        have HI2 := Lib.hid hi2
        clear hi2 hy hor hw hw2 c0 c1 f0 f1
        go_wp2_with fail
        go_roundw
        case rel => exact ⟨4, by omega, by go_num, HI2.out⟩
        case measure => simp [intOf]
      · simp only [Nat.add_zero, Nat.zero_add, Nat.reduceAdd, Int.pow_zero, Int.mul_one, Int.reducePow] at hy hor
        have hw2 : IntKind.u64.wrap (V * 4294967296) = V * 4294967296 := by rw [IntKind.wrap_u64]; omega
        go_wp2_with fail
        go_region
        have hi2 := HI.out.next HX.out HN.out
        generalize (wr.setCell ⟨w.heap.size + 1, 0, none⟩ (.int .u64 N)).drew = w5 at *
        have HI2 := Lib.hid hi2
        clear hi2 hy hor hw hw2 c0 c1 f0 f1
        go_wp2_with fail
        go_roundw
        case rel => exact ⟨5, by omega, by go_num, HI2.out⟩
        case measure => simp [intOf]
      · simp only [Nat.add_zero, Nat.zero_add, Nat.reduceAdd, Int.pow_zero, Int.mul_one, Int.reducePow] at hy hor
        have hw2 : IntKind.u64.wrap (V * 1099511627776) = V * 1099511627776 := by rw [IntKind.wrap_u64]; omega
        go_wp2_with fail
        go_region
        have hi2 := HI.out.next HX.out HN.out
        generalize (wr.setCell ⟨w.heap.size + 1, 0, none⟩ (.int .u64 N)).drew = w5 at *
        have HI2 := Lib.hid hi2
        clear hi2 hy hor hw hw2 c0 c1 f0 f1
        go_wp2_with fail
        go_roundw
        case rel => exact ⟨6, by omega, by go_num, HI2.out⟩
        case measure => simp [intOf]
      · simp only [Nat.add_zero, Nat.zero_add, Nat.reduceAdd, Int.pow_zero, Int.mul_one, Int.reducePow] at hy hor
        have hw2 : IntKind.u64.wrap (V * 281474976710656) = V * 281474976710656 := by rw [IntKind.wrap_u64]; omega
        go_wp2_with fail
        go_region
        have hi2 := HI.out.next HX.out HN.out
        generalize (wr.setCell ⟨w.heap.size + 1, 0, none⟩ (.int .u64 N)).drew = w5 at *
        have HI2 := Lib.hid hi2
        clear hi2 hy hor hw hw2 c0 c1 f0 f1
        go_wp2_with fail
        go_roundw
        case rel => exact ⟨7, by omega, by go_num, HI2.out⟩
        case measure => simp [intOf]
      · simp only [Nat.add_zero, Nat.zero_add, Nat.reduceAdd, Int.pow_zero, Int.mul_one, Int.reducePow] at hy hor
        have hw2 : IntKind.u64.wrap (V * 72057594037927936) = V * 72057594037927936 := by rw [IntKind.wrap_u64]; omega
        go_wp2_with fail
        go_region
        have hi2 := HI.out.next HX.out HN.out
        generalize (wr.setCell ⟨w.heap.size + 1, 0, none⟩ (.int .u64 N)).drew = w5 at *
        have HI2 := Lib.hid hi2
        clear hi2 hy hor hw hw2 c0 c1 f0 f1
        go_wp2_with fail
        go_roundw
        case rel => exact ⟨8, by omega, by go_num, HI2.out⟩
        case measure => simp [intOf]
      · omega
    · obtain rfl : k = 8 := by omega
      have c0 := HI.out.c0
      have c1 := HI.out.c1
      have r0 := HI.out.r0
      have r1 := HI.out.r1
      have g0 := HI.out.g0
      have g1 := HI.out.g1
      have e : low x 8 = x := Nat.mod_eq_of_lt HX.out
      rw [e] at c0 c1
      unfold wlo at c0
      unfold whi at c1
      clear e
      go_wp2_with fail
      obtain ⟨w5, hw5⟩ : ∃ w5, w5 = (wr.setCell ⟨w.heap.size, 0, none⟩ (.int .u64 ((lo64 x : Nat) : Int))).setCell ⟨w.heap.size, 1, none⟩ (.int .u64 ((hi64 x : Nat) : Int)) := ⟨_, rfl⟩
      have d1 : w5.cell? ⟨w.heap.size, 1, none⟩ = some (.int .u64 ((hi64 x : Nat) : Int)) := by
        rw [hw5]; exact World.cell?_setCell_same _ _ _ (by rw [World.cell?_setCell_other _ _ _ _ (by simp)]; exact r1)
      have d0 : w5.cell? ⟨w.heap.size, 0, none⟩ = some (.int .u64 ((lo64 x : Nat) : Int)) := by
        rw [hw5, World.cell?_setCell_other _ _ _ _ (by simp)]; exact World.cell?_setCell_same _ _ _ r0
      have hb5 : Below w.heap.size w w5 := by
        rw [hw5]; exact (HI.out.below.setCell (Nat.le_refl _) _).setCell (Nat.le_refl _) _
      rw [← hw5]
      unfold wv wlo whi
      clear hw5
      exact bodyPost_ret (v := .agg #[.int .u64 ((lo64 x : Nat) : Int), .int .u64 ((hi64 x : Nat) : Int)]) (by simp [results, Tryd.results38, go_sem, d0, d1]) rfl ⟨rfl, hb5⟩
end Go.Proofs.YtgeifodehflgpaaDoor
