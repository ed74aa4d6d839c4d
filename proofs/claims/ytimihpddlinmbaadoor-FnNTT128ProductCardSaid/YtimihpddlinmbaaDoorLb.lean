/-
  The reference: a product in the field, bit by bit.
-/
import Derived.Test.YtimihpddlinmbaaDoorLa
import Derived.BigRegion
import Derived.WalkSmall
namespace Go.Proofs.YtimihpddlinmbaaDoor
open Go.RowKit
set_option linter.unusedVariables false
set_option linter.unusedSimpArgs false

structure MulInv (w : World) (p x y : Nat) (n h : Int) (z : Nat) (wr : World) : Prop where
  below : Below w.heap.size w wr
  size : w.heap.size + 1 + 1 + 1 + 1 < wr.heap.size
  p0 : wr.cell? ⟨w.heap.size, 0, none⟩ = some (wlo p)
  p1 : wr.cell? ⟨w.heap.size, 1, none⟩ = some (whi p)
  p2 : wr.cell? ⟨w.heap.size, 2, none⟩ = some (.int .i64 n)
  p3 : wr.cell? ⟨w.heap.size, 3, none⟩ = some (.int .i64 h)
  x0 : wr.cell? ⟨w.heap.size + 1, 0, none⟩ = some (wlo x)
  x1 : wr.cell? ⟨w.heap.size + 1, 1, none⟩ = some (whi x)
  y0 : wr.cell? ⟨w.heap.size + 1 + 1, 0, none⟩ = some (wlo y)
  y1 : wr.cell? ⟨w.heap.size + 1 + 1, 1, none⟩ = some (whi y)
  r0 : wr.cell? ⟨w.heap.size + 1 + 1 + 1, 0, none⟩ = some (.int .u64 0)
  r1 : wr.cell? ⟨w.heap.size + 1 + 1 + 1, 1, none⟩ = some (.int .u64 0)
  g0 : wr.frozen? ⟨w.heap.size + 1 + 1 + 1, 0, none⟩ = false
  g1 : wr.frozen? ⟨w.heap.size + 1 + 1 + 1, 1, none⟩ = false
  o0 : wr.cell? ⟨w.heap.size + 1 + 1 + 1 + 1, 0, none⟩ = some (wlo z)
  o1 : wr.cell? ⟨w.heap.size + 1 + 1 + 1 + 1, 1, none⟩ = some (whi z)
  f0 : wr.frozen? ⟨w.heap.size + 1 + 1 + 1 + 1, 0, none⟩ = false
  f1 : wr.frozen? ⟨w.heap.size + 1 + 1 + 1 + 1, 1, none⟩ = false

theorem MulInv.keep {w wr w' : World} {p x y z : Nat} {n h : Int} (i : MulInv w p x y n h z wr) (hb : Below wr.heap.size wr w') : MulInv w p x y n h z w' := by
  have hs := i.size
  have k : ∀ b o, b < wr.heap.size → w'.cell? ⟨b, o, none⟩ = wr.cell? ⟨b, o, none⟩ := fun b o hbo => hb.cell hbo
  have q : ∀ b o, b < wr.heap.size → w'.frozen? ⟨b, o, none⟩ = wr.frozen? ⟨b, o, none⟩ := fun b o hbo => hb.frozen hbo
  exact ⟨i.below.trans (hb.mono i.below.size), by have := hb.size; omega, by rw [k _ _ (by omega)]; exact i.p0, by rw [k _ _ (by omega)]; exact i.p1, by rw [k _ _ (by omega)]; exact i.p2, by rw [k _ _ (by omega)]; exact i.p3,
    by rw [k _ _ (by omega)]; exact i.x0, by rw [k _ _ (by omega)]; exact i.x1, by rw [k _ _ (by omega)]; exact i.y0, by rw [k _ _ (by omega)]; exact i.y1, by rw [k _ _ (by omega)]; exact i.r0, by rw [k _ _ (by omega)]; exact i.r1,
    by rw [q _ _ (by omega)]; exact i.g0, by rw [q _ _ (by omega)]; exact i.g1, by rw [k _ _ (by omega)]; exact i.o0, by rw [k _ _ (by omega)]; exact i.o1, by rw [q _ _ (by omega)]; exact i.f0, by rw [q _ _ (by omega)]; exact i.f1⟩

/-- A number laid into the running product's box. -/
theorem MulInv.put {w wr : World} {p x y z u : Nat} {n h : Int} (i : MulInv w p x y n h z wr) :
    MulInv w p x y n h u ((wr.setCell ⟨w.heap.size + 1 + 1 + 1 + 1, 0, none⟩ (wlo u)).setCell ⟨w.heap.size + 1 + 1 + 1 + 1, 1, none⟩ (whi u)) := by
  have q : ∀ a, ((wr.setCell ⟨w.heap.size + 1 + 1 + 1 + 1, 0, none⟩ (wlo u)).setCell ⟨w.heap.size + 1 + 1 + 1 + 1, 1, none⟩ (whi u)).frozen? a = wr.frozen? a := fun a => by rw [World.frozen?_setCell, World.frozen?_setCell]
  have k : ∀ b o, b ≠ w.heap.size + 1 + 1 + 1 + 1 → ((wr.setCell ⟨w.heap.size + 1 + 1 + 1 + 1, 0, none⟩ (wlo u)).setCell ⟨w.heap.size + 1 + 1 + 1 + 1, 1, none⟩ (whi u)).cell? ⟨b, o, none⟩ = wr.cell? ⟨b, o, none⟩ := fun b o hbo => by
    rw [World.cell?_setCell_other _ _ _ _ (by intro e; injection e; omega), World.cell?_setCell_other _ _ _ _ (by intro e; injection e; omega)]
  have d1 : (wr.setCell ⟨w.heap.size + 1 + 1 + 1 + 1, 0, none⟩ (wlo u)).cell? ⟨w.heap.size + 1 + 1 + 1 + 1, 1, none⟩ = some (whi z) := by rw [World.cell?_setCell_other _ _ _ _ (by simp)]; exact i.o1
  exact ⟨(i.below.setCell (by show w.heap.size ≤ w.heap.size + 1 + 1 + 1 + 1; omega) _).setCell (by show w.heap.size ≤ w.heap.size + 1 + 1 + 1 + 1; omega) _, by have := i.size; simp; omega,
    by rw [k _ _ (by omega)]; exact i.p0, by rw [k _ _ (by omega)]; exact i.p1, by rw [k _ _ (by omega)]; exact i.p2, by rw [k _ _ (by omega)]; exact i.p3,
    by rw [k _ _ (by omega)]; exact i.x0, by rw [k _ _ (by omega)]; exact i.x1, by rw [k _ _ (by omega)]; exact i.y0, by rw [k _ _ (by omega)]; exact i.y1, by rw [k _ _ (by omega)]; exact i.r0, by rw [k _ _ (by omega)]; exact i.r1,
    by rw [q]; exact i.g0, by rw [q]; exact i.g1, by rw [World.cell?_setCell_other _ _ _ _ (by simp)]; exact World.cell?_setCell_same _ _ _ i.o0, World.cell?_setCell_same _ _ _ d1, by rw [q]; exact i.f0, by rw [q]; exact i.f1⟩

theorem MulInv.start (w : World) (p x y : Nat) (n h : Int) :
    MulInv w p x y n h 0 (((((w.alloc (.cells #[wlo p, whi p, .int .i64 n, .int .i64 h] 37)).alloc (.cells #[wlo x, whi x] 35)).alloc (.cells #[wlo y, whi y] 35)).alloc (.cells #[Value.int .u64 0, .int .u64 0] 35)).alloc (.cells #[Value.int .u64 0, .int .u64 0] 35)) := by
  refine ⟨(alloc4 _ _ _ _ _).alloc (by simp; omega) _, by simp, ?_, ?_, ?_, ?_, ?_, ?_, ?_, ?_, ?_, ?_, ?_, ?_, ?_, ?_, ?_, ?_⟩
  · exact cell_past _ (cell_past _ (cell_past _ (cell_past _ (box_cell rfl rfl))))
  · exact cell_past _ (cell_past _ (cell_past _ (cell_past _ (box_cell rfl rfl))))
  · exact cell_past _ (cell_past _ (cell_past _ (cell_past _ (box_cell rfl rfl))))
  · exact cell_past _ (cell_past _ (cell_past _ (cell_past _ (box_cell rfl rfl))))
  · exact cell_past _ (cell_past _ (cell_past _ (box_cell (by simp) rfl)))
  · exact cell_past _ (cell_past _ (cell_past _ (box_cell (by simp) rfl)))
  · exact cell_past _ (cell_past _ (box_cell (by simp) rfl))
  · exact cell_past _ (cell_past _ (box_cell (by simp) rfl))
  · exact cell_past _ (box_cell (by simp) rfl)
  · exact cell_past _ (box_cell (by simp) rfl)
  · exact free_past _ (by simp) (box_free (by simp))
  · exact free_past _ (by simp) (box_free (by simp))
  · exact box_cell (by simp) rfl
  · exact box_cell (by simp) rfl
  · exact box_free (by simp)
  · exact box_free (by simp)

theorem mul_step (p x y k : Nat) : (x * (y / 2 ^ k)) % p = if y / 2 ^ k % 2 = 1 then (((x * (y / 2 ^ (k + 1))) % p + (x * (y / 2 ^ (k + 1))) % p) % p + x) % p else ((x * (y / 2 ^ (k + 1))) % p + (x * (y / 2 ^ (k + 1))) % p) % p := by
  have e : y / 2 ^ (k + 1) = y / 2 ^ k / 2 := by rw [Nat.pow_succ, Nat.div_div_eq_div_mul]
  rw [e]
  generalize y / 2 ^ k = t
  rw [← Nat.add_mod]
  have h2 : t = t / 2 * 2 + t % 2 := by omega
  split
  · rename_i h
    rw [Nat.mod_add_mod]
    congr 1
    conv => lhs; rw [h2, h]
    rw [Nat.mul_add, Nat.mul_one]; congr 1
    rw [← Nat.mul_assoc, Nat.mul_two]
  · rename_i h
    congr 1
    conv => lhs; rw [h2, show t % 2 = 0 by omega]
    rw [Nat.add_zero, ← Nat.mul_assoc, Nat.mul_two]

set_option maxRecDepth 100000 in
set_option maxHeartbeats 1000000 in
theorem fmul_yes (p x y nb : Nat) (h : Int) (hp : p < 340282366920938463463374607431768211456) (hx : x < p) (hy : y < 2 ^ nb) (hn : nb ≤ 128) (w : World) :
    Calls Tryd.prog 26 #[fv p nb h, wv x, wv y] w fun e w' => e = .returned (wv ((x * y) % p)) ∧ Below w.heap.size w w' := by
  have hi := MulInv.start w p x y nb h
  have HN := Lib.hid hn
  have HP := Lib.hid hp
  have HX := Lib.hid hx
  have HY := Lib.hid hy
  clear hp hx hy
  unfold fv wv
  unfold wlo whi at *
  go_enter Tryd.func26, Tryd.ntmps26
  go_wp2_with fail
  generalize hw1 : (((((w.alloc (.cells #[.int .u64 ((lo64 p : Nat) : Int), .int .u64 ((hi64 p : Nat) : Int), .int .i64 nb, .int .i64 h] 37)).alloc (.cells #[.int .u64 ((lo64 x : Nat) : Int), .int .u64 ((hi64 x : Nat) : Int)] 35)).alloc (.cells #[.int .u64 ((lo64 y : Nat) : Int), .int .u64 ((hi64 y : Nat) : Int)] 35)).alloc (.cells #[Value.int .u64 0, .int .u64 0] 35)).alloc (.cells #[Value.int .u64 0, .int .u64 0] 35)) = w1 at *
  clear hw1 hn
  go_loopw [8] (fun i wr => ∃ j : Nat, j ≤ nb ∧ i = .int .i64 ((j : Int) - 1) ∧ MulInv w p x y nb h ((x * (y / 2 ^ j)) % p) wr) (fun i _ => (intOf i + 1).toNat)
  case atStart => exact ⟨nb, Nat.le_refl _, rfl, by rw [Nat.div_eq_of_lt HY.out, Nat.mul_zero, Nat.zero_mod]; exact hi⟩
  case round =>
    obtain ⟨j, hj, rfl, hinv⟩ := hrel
    have HI := Lib.hid hinv
    clear hinv hi
    rcases j with _ | k
    · have e1 : ((0 : Nat) : Int) - 1 = -1 := by omega
      rw [e1]
      clear e1
      have e2 : (x * (y / 2 ^ 0)) % p = (x * y) % p := by rw [Nat.pow_zero, Nat.div_one]
      rw [e2] at HI
      clear e2
      obtain ⟨z, hz⟩ : ∃ z, z = (x * y) % p := ⟨_, rfl⟩
      rw [← hz] at HI
      have HZ := Lib.hid hz
      clear hz
      have o0 := HI.out.o0
      have o1 := HI.out.o1
      have r0 := HI.out.r0
      have r1 := HI.out.r1
      have g0 := HI.out.g0
      have g1 := HI.out.g1
      unfold wlo at o0
      unfold whi at o1
      obtain ⟨w5, hw5, hb5, d0, d1⟩ := own_two (x := .int .u64 ((lo64 z : Nat) : Int)) (y := .int .u64 ((hi64 z : Nat) : Int)) HI.out.below (show w.heap.size ≤ w.heap.size + 1 + 1 + 1 by omega) HI.out.r0 HI.out.r1
      have D := Lib.hid (And.intro d0 (And.intro d1 (And.intro hw5 hb5)))
      clear d0 d1 hw5 hb5
      go_wp2_with fail
      rw [← D.out.2.2.1]
      exact bodyPost_ret (v := .agg #[.int .u64 ((lo64 z : Nat) : Int), .int .u64 ((hi64 z : Nat) : Int)]) (by simp [results, Tryd.results26, go_sem, D.out.1, D.out.2.1]) rfl ⟨by rw [HZ.out], D.out.2.2.2⟩
    · have e1 : ((k + 1 : Nat) : Int) - 1 = (k : Int) := by omega
      rw [e1]
      clear e1
      have hz : (x * (y / 2 ^ (k + 1))) % p < p := Nat.mod_lt _ (by have := HX.out; omega)
      have hpw := mul_step p x y k
      generalize (x * (y / 2 ^ (k + 1))) % p = z at *
      have hz2 : (z + z) % p < p := Nat.mod_lt _ (by have := HX.out; omega)
      have K1 := Lib.hid (add_yes p z z nb h HP.out hz hz wr)
      generalize (z + z) % p = z2 at *
      have HZ2 := Lib.hid hz2
      have K2 := Lib.hid (fun w => add_yes p z2 x nb h HP.out hz2 HX.out w)
      generalize (z2 + x) % p = z3 at *
      have hwk : wrap64 ((k : Int) - 1) = (k : Int) - 1 := by unfold wrap64; have := HN.out; omega
      have HZ := Lib.hid hz
      have HPW := Lib.hid hpw
      clear hz hpw hz2
      have p0 := HI.out.p0
      have p1 := HI.out.p1
      have p2 := HI.out.p2
      have p3 := HI.out.p3
      have o0 := HI.out.o0
      have o1 := HI.out.o1
      have f0 := HI.out.f0
      have f1 := HI.out.f1
      unfold wlo at p0 o0
      unfold whi at p1 o1
      go_wp2_with fail
      unfold fv wv wlo whi at K1
      refine K1.out.mono ?_
      rintro e w2 ⟨rfl, hb2⟩
      have I2 := HI.out.keep hb2
      have I3 := Lib.hid (I2.put (u := z2))
      have hq : wrap64 ((k : Int) / 64) = ((k / 64 : Nat) : Int) := by unfold wrap64; have := HN.out; omega
      have hr : wrap64 ((k : Int) % 64) = ((k % 64 : Nat) : Int) := by unfold wrap64; omega
      have hq2 : k / 64 < 2 := by have := HN.out; omega
      obtain ⟨W, hW, hWb, hWl⟩ : ∃ W : Nat, w2.cell? ⟨w.heap.size + 1 + 1, k / 64, none⟩ = some (.int .u64 (W : Int)) ∧ W / 2 ^ (k % 64) % 2 = y / 2 ^ k % 2 ∧ W < 18446744073709551616 := by
        rcases (show k / 64 = 0 ∨ k / 64 = 1 by omega) with e | e
        · refine ⟨lo64 y, by rw [e]; exact I2.y0, ?_, Nat.mod_lt _ (by omega)⟩
          have e2 : k % 64 = k := by omega
          rw [e2]
          unfold lo64
          obtain ⟨d, hd⟩ : ∃ d, 18446744073709551616 = 2 ^ k * 2 * d := ⟨2 ^ (63 - k), by rw [Nat.mul_assoc, ← Nat.pow_succ', ← Nat.pow_add, show k + (63 - k + 1) = 64 by omega]⟩
          rw [hd, Nat.mul_assoc, Nat.mod_mul_right_div_self, Nat.mod_mul_right_mod]
        · refine ⟨hi64 y, by rw [e]; exact I2.y1, ?_, by unfold hi64; have := Nat.pow_le_pow_right (show 0 < 2 by omega) HN.out; have := HY.out; omega⟩
          unfold hi64
          rw [Nat.div_div_eq_div_mul]
          congr 2
          rw [show (18446744073709551616 : Nat) = 2 ^ 64 from rfl, ← Nat.pow_add]
          congr 1; omega
      obtain ⟨q, hq0⟩ : ∃ q, q = k / 64 := ⟨_, rfl⟩
      obtain ⟨r, hr0⟩ : ∃ r, r = k % 64 := ⟨_, rfl⟩
      rw [← hq0] at hq hq2 hW
      have hand : ∀ c : Nat, y / 2 ^ k % 2 = c → bits BinOp.and IntKind.u64 ((W : Int) / 2 ^ (k % 64)) 1 = (c : Int) := by
        intro c hc
        rw [← hWb] at hc
        have e : (W : Int) / 2 ^ (k % 64) = ((W / 2 ^ (k % 64) : Nat) : Int) := by simp
        have h1 : W / 2 ^ (k % 64) ≤ W := Nat.div_le_self _ _
        rw [e, ← hc]
        clear e
        generalize W / 2 ^ (k % 64) = V at *
        rw [and_one_u64 _ (by omega) (by omega)]; rfl
      clear hb2 HI K1 p0 p1 p2 p3 o0 o1 f0 f1 hq0 hr0 hr hWb hWl
      have I3 := Lib.hid (I2.put (u := z2))
      have p0 := I2.p0
      have p1 := I2.p1
      have p2 := I2.p2
      have p3 := I2.p3
      have x0 := I2.x0
      have x1 := I2.x1
      have f0 := I2.f0
      have f1 := I2.f1
      have o0 := I2.o0
      have o1 := I2.o1
      unfold wlo at o0 p0 x0
      unfold whi at o1 p1 x1
      clear I2
      unfold wlo whi at I3
      by_cases hbit : y / 2 ^ k % 2 = 1
      · have hand1 := hand 1 hbit
        rw [if_pos hbit] at HPW
        clear hand hbit
        unfold fv wv wlo whi at K2
        go_wp2_with fail
        generalize (w2.setCell ⟨w.heap.size + 1 + 1 + 1 + 1, 0, none⟩ (.int .u64 ((lo64 z2 : Nat) : Int))).setCell ⟨w.heap.size + 1 + 1 + 1 + 1, 1, none⟩ (.int .u64 ((hi64 z2 : Nat) : Int)) = w3 at *
        refine (K2.out w3).mono ?_
        rintro e w4 ⟨rfl, hb4⟩
        have I4 := I3.out.keep hb4
        have I5 := Lib.hid (I4.put (u := z3))
        clear hb4 K2 p0 p1 p2 p3 x0 x1 o0 o1 f0 f1 hW I3
        have f0 := I4.f0
        have f1 := I4.f1
        have o0 := I4.o0
        have o1 := I4.o1
        unfold wlo at o0 I5
        unfold whi at o1 I5
        clear I4
        go_wp2_with fail
        go_roundw
        case rel => exact ⟨k, by omega, by go_num, by rw [HPW.out]; exact I5.out⟩
        case measure => simp [intOf]; omega
      · have hand1 := hand 0 (by omega)
        rw [if_neg hbit] at HPW
        clear hand hbit
        go_wp2_with fail
        refine ⟨⟨k, by omega, by rw [hwk], by rw [HPW.out]; exact I3.out⟩, ?_⟩
        simp [intOf]
        omega
end Go.Proofs.YtimihpddlinmbaaDoor
