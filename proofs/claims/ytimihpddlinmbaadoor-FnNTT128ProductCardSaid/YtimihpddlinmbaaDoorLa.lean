/-
  The reference: a difference and a sum of numbers of two words.
-/
import Derived.Test.YtimihpddlinmbaaDoorS
namespace Go.Proofs.YtimihpddlinmbaaDoor
open Go.RowKit
set_option linter.unusedVariables false
set_option linter.unusedSimpArgs false

theorem alloc4 (w : World) (a b c d : Obj) : Below w.heap.size w ((((w.alloc a).alloc b).alloc c).alloc d) :=
  ((((Below.refl _ w).alloc (Nat.le_refl _) _).alloc (by simp) _).alloc (by simp; omega) _).alloc (by simp; omega) _

set_option maxRecDepth 100000 in
set_option maxHeartbeats 1000000 in
theorem less_any (a0 a1 b0 b1 r0 s1 s2 : Int) (h0 : IntKind.u64.wrap (a0 - b0) = r0) (h1 : IntKind.u64.wrap (a1 - b1) = s1) (h2 : IntKind.u64.wrap (s1 - 1) = s2) (w : World) :
    Calls Tryd.prog 27 #[.agg #[.int .u64 a0, .int .u64 a1], .agg #[.int .u64 b0, .int .u64 b1]] w fun e w' => e = .returned (.agg #[.int .u64 r0, .int .u64 (if a0 < b0 then s2 else s1)]) ∧ Below w.heap.size w w' := by
  by_cases h3 : a0 < b0
  · have h4 : decide (a0 < b0) = true := by simp [h3]
    rw [if_pos h3]
    clear h3
    go_enter Tryd.func27, Tryd.ntmps27
    go_wp2_with fail
    exact bodyPost_ret (v := _) (by simp [results, Tryd.results27, go_sem]) rfl ⟨rfl, alloc4 _ _ _ _ _⟩
  · have h4 : decide (a0 < b0) = false := by simp [h3]
    rw [if_neg h3]
    clear h3
    go_enter Tryd.func27, Tryd.ntmps27
    go_wp2_with fail
    exact bodyPost_ret (v := _) (by simp [results, Tryd.results27, go_sem]) rfl ⟨rfl, alloc4 _ _ _ _ _⟩

theorem wsplit (x : Nat) (hx : x < 340282366920938463463374607431768211456) : ((lo64 x : Nat) : Int) + 18446744073709551616 * ((hi64 x : Nat) : Int) = (x : Int) ∧ 0 ≤ ((lo64 x : Nat) : Int) ∧ ((lo64 x : Nat) : Int) < 18446744073709551616 ∧ 0 ≤ ((hi64 x : Nat) : Int) ∧ ((hi64 x : Nat) : Int) < 18446744073709551616 := by
  unfold lo64 hi64; omega
theorem wjoin {x : Nat} {a b : Int} (ha : 0 ≤ a) (ha1 : a < 18446744073709551616) (h : a + 18446744073709551616 * b = (x : Int)) : a = ((lo64 x : Nat) : Int) ∧ b = ((hi64 x : Nat) : Int) := by
  unfold lo64 hi64; omega

theorem less_yes (x y : Nat) (hy : y ≤ x) (hx : x < 340282366920938463463374607431768211456) (w : World) :
    Calls Tryd.prog 27 #[wv x, wv y] w fun e w' => e = .returned (wv (x - y)) ∧ Below w.heap.size w w' := by
  unfold wv wlo whi
  obtain ⟨ex, x0, x1, x2, x3⟩ := wsplit x hx
  obtain ⟨ey, y0, y1, y2, y3⟩ := wsplit y (by omega)
  refine (less_any _ _ _ _ _ _ _ rfl rfl rfl w).mono ?_
  rintro e w' ⟨rfl, hb⟩
  refine ⟨?_, hb⟩
  rw [IntKind.wrap_u64, IntKind.wrap_u64, IntKind.wrap_u64]
  generalize ((lo64 x : Nat) : Int) = a0 at *
  generalize ((hi64 x : Nat) : Int) = a1 at *
  generalize ((lo64 y : Nat) : Int) = b0 at *
  generalize ((hi64 y : Nat) : Int) = b1 at *
  have hj := wjoin (x := x - y) (a := (a0 - b0) % 18446744073709551616) (b := if a0 < b0 then ((a1 - b1) % 18446744073709551616 - 1) % 18446744073709551616 else (a1 - b1) % 18446744073709551616) (by omega) (by omega) (by split <;> omega)
  rw [← hj.1, ← hj.2]

/-- Whether it is below. -/
theorem below_yes (x y : Nat) (hx : x < 340282366920938463463374607431768211456) (hy : y < 340282366920938463463374607431768211456) (w : World) :
    Calls Tryd.prog 28 #[wv x, wv y] w fun e w' => e = .returned (.bool (decide (x < y))) ∧ Below w.heap.size w w' := by
  unfold wv wlo whi
  obtain ⟨ex, x0, x1, x2, x3⟩ := wsplit x hx
  obtain ⟨ey, y0, y1, y2, y3⟩ := wsplit y hy
  refine (below_any _ _ _ _ w).mono ?_
  rintro e w' ⟨rfl, hb⟩
  refine ⟨?_, hb⟩
  congr 2
  unfold blw
  generalize ((lo64 x : Nat) : Int) = a0 at *
  generalize ((hi64 x : Nat) : Int) = a1 at *
  generalize ((lo64 y : Nat) : Int) = b0 at *
  generalize ((hi64 y : Nat) : Int) = b1 at *
  rw [Bool.eq_iff_iff]
  simp
  omega

/-- The field's value, by its order. -/
def fv (p : Nat) (n h : Int) : Value := .agg #[wlo p, whi p, .int .i64 n, .int .i64 h]

/-- The boxes of a sum's call: the two numbers, and the result. -/
structure AddBox (w : World) (n x y : Nat) : Prop where
  a0 : w.cell? ⟨n + 1, 0, none⟩ = some (wlo x)
  a1 : w.cell? ⟨n + 1, 1, none⟩ = some (whi x)
  b0 : w.cell? ⟨n + 1 + 1, 0, none⟩ = some (wlo y)
  b1 : w.cell? ⟨n + 1 + 1, 1, none⟩ = some (whi y)
  r0 : w.cell? ⟨n + 1 + 1 + 1, 0, none⟩ = some (.int .u64 0)
  r1 : w.cell? ⟨n + 1 + 1 + 1, 1, none⟩ = some (.int .u64 0)
  f0 : w.frozen? ⟨n + 1 + 1 + 1, 0, none⟩ = false
  f1 : w.frozen? ⟨n + 1 + 1 + 1, 1, none⟩ = false

theorem AddBox.keep {w w' : World} {n x y : Nat} (h : AddBox w n x y) (hb : Below w.heap.size w w') : AddBox w' n x y := by
  have h0 : n + 1 + 1 + 1 < w.heap.size := cell_lt h.r0
  have h1 : n + 1 < w.heap.size := cell_lt h.a0
  have h2 : n + 1 + 1 < w.heap.size := cell_lt h.b0
  exact ⟨by rw [hb.cell h1]; exact h.a0, by rw [hb.cell h1]; exact h.a1, by rw [hb.cell h2]; exact h.b0, by rw [hb.cell h2]; exact h.b1, by rw [hb.cell h0]; exact h.r0, by rw [hb.cell h0]; exact h.r1,
    by rw [hb.frozen h0]; exact h.f0, by rw [hb.frozen h0]; exact h.f1⟩

theorem AddBox.mk' (w : World) (x y : Nat) (o : Obj) :
    AddBox ((((w.alloc o).alloc (.cells #[wlo x, whi x] 35)).alloc (.cells #[wlo y, whi y] 35)).alloc (.cells #[Value.int .u64 0, .int .u64 0] 35)) w.heap.size x y := by
  refine ⟨cell_past _ (cell_past _ (box_cell (by simp) rfl)), cell_past _ (cell_past _ (box_cell (by simp) rfl)), cell_past _ (box_cell (by simp) rfl), cell_past _ (box_cell (by simp) rfl), box_cell (by simp) rfl, box_cell (by simp) rfl, box_free (by simp), box_free (by simp)⟩

/-- A number laid into the result's box. -/
theorem AddBox.put {w w1 : World} {n x y : Nat} {u v : Value} (h : AddBox w1 n x y) (hb : Below w.heap.size w w1) (hn : w.heap.size ≤ n) :
    ∃ w3, w3 = (w1.setCell ⟨n + 1 + 1 + 1, 0, none⟩ u).setCell ⟨n + 1 + 1 + 1, 1, none⟩ v ∧ Below w.heap.size w w3 ∧ w3.cell? ⟨n + 1 + 1 + 1, 0, none⟩ = some u ∧ w3.cell? ⟨n + 1 + 1 + 1, 1, none⟩ = some v :=
  own_two hb (by omega) h.r0 h.r1

set_option maxRecDepth 100000 in
set_option maxHeartbeats 1000000 in
theorem add_big (p x y : Nat) (n h : Int) (hp : p < 340282366920938463463374607431768211456) (hx : x < p) (hy : y < p) (hc : p ≤ x + y) (w : World) :
    Calls Tryd.prog 13 #[fv p n h, wv x, wv y] w fun e w' => e = .returned (wv (x + y - p)) ∧ Below w.heap.size w w' := by
  have K1 := Lib.hid (fun w => less_yes p y (by omega) hp w)
  have K2 := Lib.hid (fun w => below_yes x (p - y) (by omega) (by omega) w)
  have K3 := Lib.hid (fun w => less_yes x (p - y) (by omega) (by omega) w)
  have e1 : decide (x < p - y) = false := by simp; omega
  have e2 : x - (p - y) = x + y - p := by omega
  rw [e1] at K2
  rw [e2] at K3
  clear e1 e2 hc hx hy hp
  obtain ⟨w1, hw1⟩ : ∃ w1, w1 = ((((w.alloc (.cells #[wlo p, whi p, .int .i64 n, .int .i64 h] 37)).alloc (.cells #[wlo x, whi x] 35)).alloc (.cells #[wlo y, whi y] 35)).alloc (.cells #[Value.int .u64 0, .int .u64 0] 35)) := ⟨_, rfl⟩
  have X1 := Lib.hid (show AddBox w1 w.heap.size x y by rw [hw1]; exact AddBox.mk' _ _ _ _)
  have B1 := Lib.hid (show Below w.heap.size w w1 by rw [hw1]; exact alloc4 _ _ _ _ _)
  unfold fv wv wlo whi at *
  go_enter Tryd.func13, Tryd.ntmps13
  go_wp2_with fail
  rw [← hw1]
  clear hw1
  refine (K1.out w1).mono ?_
  rintro e w2 ⟨rfl, hb2⟩
  have X2 := X1.out.keep hb2
  have B2 := Lib.hid (B1.out.trans (hb2.mono B1.out.size))
  have a0 := cell_past (.cells #[Value.int IntKind.u64 ((lo64 (p - y) : Nat) : Int), Value.int IntKind.u64 ((hi64 (p - y) : Nat) : Int)] 35) X2.a0
  have a1 := cell_past (.cells #[Value.int IntKind.u64 ((lo64 (p - y) : Nat) : Int), Value.int IntKind.u64 ((hi64 (p - y) : Nat) : Int)] 35) X2.a1
  have X2' := Lib.hid X2
  unfold wlo at a0
  unfold whi at a1
  clear hb2 X1 B1 K1 X2
  go_wp2_with fail
  have hb2a := (Below.refl w2.heap.size w2).alloc (Nat.le_refl _) (Obj.cells #[Value.int IntKind.u64 ((lo64 (p - y) : Nat) : Int), Value.int IntKind.u64 ((hi64 (p - y) : Nat) : Int)] 35)
  have q0 : (w2.alloc (Obj.cells #[Value.int IntKind.u64 ((lo64 (p - y) : Nat) : Int), Value.int IntKind.u64 ((hi64 (p - y) : Nat) : Int)] 35)).cell? ⟨w2.heap.size, 0, none⟩ = some (Value.int IntKind.u64 ((lo64 (p - y) : Nat) : Int)) := box_cell rfl rfl
  have q1 : (w2.alloc (Obj.cells #[Value.int IntKind.u64 ((lo64 (p - y) : Nat) : Int), Value.int IntKind.u64 ((hi64 (p - y) : Nat) : Int)] 35)).cell? ⟨w2.heap.size, 1, none⟩ = some (Value.int IntKind.u64 ((hi64 (p - y) : Nat) : Int)) := box_cell rfl rfl
  have X2a := X2'.out.keep hb2a
  have B2a := Lib.hid (B2.out.trans (hb2a.mono B2.out.size))
  refine (K2.out _).mono ?_
  rintro e w3 ⟨rfl, hb3⟩
  have X3 := X2a.keep hb3
  have B3 := Lib.hid (B2a.out.trans (hb3.mono B2a.out.size))
  rw [← hb3.cell (cell_lt q0)] at q0
  rw [← hb3.cell (cell_lt q1)] at q1
  have c0 := X3.a0
  have c1 := X3.a1
  have X3' := Lib.hid X3
  unfold wlo at c0
  unfold whi at c1
  clear hb3 X2' X2a B2 B2a K2 hb2a a0 a1 X3
  go_wp2_with fail
  refine (K3.out w3).mono ?_
  rintro e w4 ⟨rfl, hb4⟩
  have X4 := X3'.out.keep hb4
  have B4 := Lib.hid (B3.out.trans (hb4.mono B3.out.size))
  clear hb4 X3' B3 K3 q0 q1 c0 c1
  have g0 := X4.f0
  have g1 := X4.f1
  have r0 := X4.r0
  have r1 := X4.r1
  obtain ⟨w5, hw5, hb5, d0, d1⟩ := X4.put (u := .int .u64 ((lo64 (x + y - p) : Nat) : Int)) (v := .int .u64 ((hi64 (x + y - p) : Nat) : Int)) B4.out (Nat.le_refl _)
  have D := Lib.hid (And.intro d0 (And.intro d1 (And.intro hw5 hb5)))
  clear d0 d1 hw5 hb5 X4
  go_wp2_with fail
  rw [← D.out.2.2.1]
  exact bodyPost_ret (v := .agg #[.int .u64 ((lo64 (x + y - p) : Nat) : Int), .int .u64 ((hi64 (x + y - p) : Nat) : Int)]) (by simp [results, Tryd.results13, go_sem, D.out.1, D.out.2.1]) rfl ⟨rfl, D.out.2.2.2⟩

set_option maxRecDepth 100000 in
set_option maxHeartbeats 1000000 in
theorem add_small (p x y : Nat) (n h : Int) (hp : p < 340282366920938463463374607431768211456) (hx : x < p) (hy : y < p) (hc : x + y < p) (w : World) :
    Calls Tryd.prog 13 #[fv p n h, wv x, wv y] w fun e w' => e = .returned (wv (x + y)) ∧ Below w.heap.size w w' := by
  have K1 := Lib.hid (fun w => less_yes p y (by omega) hp w)
  have K2 := Lib.hid (fun w => below_yes x (p - y) (by omega) (by omega) w)
  have e1 : decide (x < p - y) = true := by simp; omega
  rw [e1] at K2
  obtain ⟨ex, x0, x1, x2, x3⟩ := wsplit x (by omega)
  obtain ⟨ey, y0, y1, y2, y3⟩ := wsplit y (by omega)
  obtain ⟨w1, hw1⟩ : ∃ w1, w1 = ((((w.alloc (.cells #[wlo p, whi p, .int .i64 n, .int .i64 h] 37)).alloc (.cells #[wlo x, whi x] 35)).alloc (.cells #[wlo y, whi y] 35)).alloc (.cells #[Value.int .u64 0, .int .u64 0] 35)) := ⟨_, rfl⟩
  have X1 := Lib.hid (show AddBox w1 w.heap.size x y by rw [hw1]; exact AddBox.mk' _ _ _ _)
  have B1 := Lib.hid (show Below w.heap.size w w1 by rw [hw1]; exact alloc4 _ _ _ _ _)
  -- the words of the sum
  obtain ⟨s0, hs0⟩ : ∃ s0, s0 = IntKind.u64.wrap (((lo64 x : Nat) : Int) + ((lo64 y : Nat) : Int)) := ⟨_, rfl⟩
  obtain ⟨s1, hs1⟩ : ∃ s1, s1 = IntKind.u64.wrap (((hi64 x : Nat) : Int) + ((hi64 y : Nat) : Int)) := ⟨_, rfl⟩
  obtain ⟨s2, hs2⟩ : ∃ s2, s2 = IntKind.u64.wrap (s1 + 1) := ⟨_, rfl⟩
  have hj := wjoin (x := x + y) (a := s0) (b := if s0 < ((lo64 x : Nat) : Int) then s2 else s1) (by rw [hs0, IntKind.wrap_u64]; omega) (by rw [hs0, IntKind.wrap_u64]; omega) (by
    rw [hs2, hs1, hs0, IntKind.wrap_u64, IntKind.wrap_u64, IntKind.wrap_u64]
    split <;> omega)
  have HJ := Lib.hid hj
  clear e1 hc hx hy hp ex x0 x1 x2 x3 ey y0 y1 y2 y3 hj
  have hs0' := hs0.symm
  have hs1' := hs1.symm
  have hs2' := hs2.symm
  clear hs0 hs1 hs2
  unfold fv wv wlo whi at *
  by_cases hlt : s0 < ((lo64 x : Nat) : Int)
  · have hd : decide (s0 < ((lo64 x : Nat) : Int)) = true := by simp [hlt]
    rw [if_pos hlt] at HJ
    clear hlt
    go_enter Tryd.func13, Tryd.ntmps13
    go_wp2_with fail
    rw [← hw1]
    clear hw1
    refine (K1.out w1).mono ?_
    rintro e w2 ⟨rfl, hb2⟩
    have X2 := X1.out.keep hb2
    have B2 := Lib.hid (B1.out.trans (hb2.mono B1.out.size))
    have a0 := cell_past (.cells #[Value.int IntKind.u64 ((lo64 (p - y) : Nat) : Int), Value.int IntKind.u64 ((hi64 (p - y) : Nat) : Int)] 35) X2.a0
    have a1 := cell_past (.cells #[Value.int IntKind.u64 ((lo64 (p - y) : Nat) : Int), Value.int IntKind.u64 ((hi64 (p - y) : Nat) : Int)] 35) X2.a1
    have X2' := Lib.hid X2
    unfold wlo at a0
    unfold whi at a1
    clear hb2 X1 B1 K1 X2
    go_wp2_with fail
    have hb2a := (Below.refl w2.heap.size w2).alloc (Nat.le_refl _) (Obj.cells #[Value.int IntKind.u64 ((lo64 (p - y) : Nat) : Int), Value.int IntKind.u64 ((hi64 (p - y) : Nat) : Int)] 35)
    have X2a := X2'.out.keep hb2a
    have B2a := Lib.hid (B2.out.trans (hb2a.mono B2.out.size))
    refine (K2.out _).mono ?_
    rintro e w3 ⟨rfl, hb3⟩
    have X3 := X2a.keep hb3
    have B3 := Lib.hid (B2a.out.trans (hb3.mono B2a.out.size))
    have c0 := X3.a0
    have c1 := X3.a1
    have d0 := X3.b0
    have d1 := X3.b1
    have g0 := X3.f0
    have g1 := X3.f1
    have r0 := X3.r0
    have r1 := X3.r1
    have X3' := Lib.hid X3
    unfold wlo at c0 d0
    unfold whi at c1 d1
    have e0 := cell_past (.cells #[Value.int IntKind.u64 s0, Value.int IntKind.u64 s1] 35) c0
    have hb4 := (Below.refl w3.heap.size w3).alloc (Nat.le_refl _) (Obj.cells #[Value.int IntKind.u64 s0, Value.int IntKind.u64 s2] 35)
    have X4 := X3.keep hb4
    have B4 := B3.out.trans (hb4.mono B3.out.size)
    clear r0 r1 g0 g1
    have g0 := X4.f0
    have g1 := X4.f1
    have r0 := X4.r0
    have r1 := X4.r1
    obtain ⟨w5, hw5, hb5, q0, q1⟩ := X4.put (u := .int .u64 s0) (v := .int .u64 s2) B4 (Nat.le_refl _)
    have D := Lib.hid (And.intro q0 (And.intro q1 (And.intro hw5 hb5)))
    clear hb3 X2' X2a B2 B2a K2 hb2a a0 a1 X3 q0 q1 hw5 hb5 X4 B4 hb4
    go_wp2_with fail
    rw [← D.out.2.2.1, ← HJ.out.1, ← HJ.out.2]
    exact bodyPost_ret (v := .agg #[.int .u64 s0, .int .u64 s2]) (by simp [results, Tryd.results13, go_sem, D.out.1, D.out.2.1]) rfl ⟨rfl, D.out.2.2.2⟩
  · have hd : decide (s0 < ((lo64 x : Nat) : Int)) = false := by simp [hlt]
    rw [if_neg hlt] at HJ
    clear hlt
    go_enter Tryd.func13, Tryd.ntmps13
    go_wp2_with fail
    rw [← hw1]
    clear hw1
    refine (K1.out w1).mono ?_
    rintro e w2 ⟨rfl, hb2⟩
    have X2 := X1.out.keep hb2
    have B2 := Lib.hid (B1.out.trans (hb2.mono B1.out.size))
    have a0 := cell_past (.cells #[Value.int IntKind.u64 ((lo64 (p - y) : Nat) : Int), Value.int IntKind.u64 ((hi64 (p - y) : Nat) : Int)] 35) X2.a0
    have a1 := cell_past (.cells #[Value.int IntKind.u64 ((lo64 (p - y) : Nat) : Int), Value.int IntKind.u64 ((hi64 (p - y) : Nat) : Int)] 35) X2.a1
    have X2' := Lib.hid X2
    unfold wlo at a0
    unfold whi at a1
    clear hb2 X1 B1 K1 X2
    go_wp2_with fail
    have hb2a := (Below.refl w2.heap.size w2).alloc (Nat.le_refl _) (Obj.cells #[Value.int IntKind.u64 ((lo64 (p - y) : Nat) : Int), Value.int IntKind.u64 ((hi64 (p - y) : Nat) : Int)] 35)
    have X2a := X2'.out.keep hb2a
    have B2a := Lib.hid (B2.out.trans (hb2a.mono B2.out.size))
    refine (K2.out _).mono ?_
    rintro e w3 ⟨rfl, hb3⟩
    have X3 := X2a.keep hb3
    have B3 := Lib.hid (B2a.out.trans (hb3.mono B2a.out.size))
    have c0 := X3.a0
    have c1 := X3.a1
    have d0 := X3.b0
    have d1 := X3.b1
    have g0 := X3.f0
    have g1 := X3.f1
    have r0 := X3.r0
    have r1 := X3.r1
    have X3' := Lib.hid X3
    unfold wlo at c0 d0
    unfold whi at c1 d1
    have e0 := cell_past (.cells #[Value.int IntKind.u64 s0, Value.int IntKind.u64 s1] 35) c0
    have hb4 := (Below.refl w3.heap.size w3).alloc (Nat.le_refl _) (Obj.cells #[Value.int IntKind.u64 s0, Value.int IntKind.u64 s1] 35)
    have X4 := X3.keep hb4
    have B4 := B3.out.trans (hb4.mono B3.out.size)
    clear r0 r1 g0 g1
    have g0 := X4.f0
    have g1 := X4.f1
    have r0 := X4.r0
    have r1 := X4.r1
    obtain ⟨w5, hw5, hb5, q0, q1⟩ := X4.put (u := .int .u64 s0) (v := .int .u64 s1) B4 (Nat.le_refl _)
    have D := Lib.hid (And.intro q0 (And.intro q1 (And.intro hw5 hb5)))
    clear hb3 X2' X2a B2 B2a K2 hb2a a0 a1 X3 q0 q1 hw5 hb5 X4 B4 hb4
    go_wp2_with fail
    rw [← D.out.2.2.1, ← HJ.out.1, ← HJ.out.2]
    exact bodyPost_ret (v := .agg #[.int .u64 s0, .int .u64 s1]) (by simp [results, Tryd.results13, go_sem, D.out.1, D.out.2.1]) rfl ⟨rfl, D.out.2.2.2⟩

/-- A sum in the field. -/
theorem add_yes (p x y : Nat) (n h : Int) (hp : p < 340282366920938463463374607431768211456) (hx : x < p) (hy : y < p) (w : World) :
    Calls Tryd.prog 13 #[fv p n h, wv x, wv y] w fun e w' => e = .returned (wv ((x + y) % p)) ∧ Below w.heap.size w w' := by
  by_cases hc : p ≤ x + y
  · rw [show (x + y) % p = x + y - p by rw [Nat.mod_eq_sub_mod hc, Nat.mod_eq_of_lt (by omega)]]
    exact add_big p x y n h hp hx hy hc w
  · rw [Nat.mod_eq_of_lt (by omega)]
    exact add_small p x y n h hp hx hy (by omega) w
end Go.Proofs.YtimihpddlinmbaaDoor
