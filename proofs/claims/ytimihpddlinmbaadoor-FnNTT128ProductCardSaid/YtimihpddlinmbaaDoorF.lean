/-
  The field of 128 bits: its numbers, an element in memory (two words), and the three functions on words (fiatMont.go): sum, difference, Montgomery product.
-/
import Derived.Test.YtimihpddlinmbaaDoorB
namespace Go.Proofs.YtimihpddlinmbaaDoor
open Go.RowKit
set_option linter.unusedVariables false
set_option linter.unusedSimpArgs false

/-- The order, and the inverse of 2^128 modulo it. -/
def P : Nat := 340282366920938462946865773367900766209
def ri : Nat := 340282366920938462430356939304033321744
/-- Montgomery's product. -/
def mt (x y : Nat) : Nat := x * y * ri % P
def ad (x y : Nat) : Nat := (x + y) % P
def sb (x y : Nat) : Nat := (x + (P - y)) % P

theorem P_pos : 0 < P := by unfold P; omega
theorem mt_lt (x y : Nat) : mt x y < P := Nat.mod_lt _ P_pos
theorem ad_lt (x y : Nat) : ad x y < P := Nat.mod_lt _ P_pos
theorem sb_lt (x y : Nat) : sb x y < P := Nat.mod_lt _ P_pos

/-- The two words of a number. -/
def lo64 (x : Nat) : Nat := x % 18446744073709551616
def hi64 (x : Nat) : Nat := x / 18446744073709551616

/-- The number x lies at block b, from place o on. -/
def El (w : World) (b o x : Nat) : Prop := w.cell? ⟨b, o, none⟩ = some (.int .u64 ((lo64 x : Nat) : Int)) ∧ w.cell? ⟨b, o + 1, none⟩ = some (.int .u64 ((hi64 x : Nat) : Int))
/-- There an element may be written. -/
def Wt (w : World) (b o : Nat) : Prop := ((∃ v, w.cell? ⟨b, o, none⟩ = some v) ∧ w.frozen? ⟨b, o, none⟩ = false) ∧ (∃ v, w.cell? ⟨b, o + 1, none⟩ = some v) ∧ w.frozen? ⟨b, o + 1, none⟩ = false
def lim (x : Nat) : List Value := [.int .u64 ((lo64 x : Nat) : Int), .int .u64 ((hi64 x : Nat) : Int)]

theorem lim_len (x : Nat) : (lim x).length = 2 := rfl
theorem lim_same (x y : Nat) : (lim x).length = (lim y).length := by rw [lim_len, lim_len]
theorem El.keep {w w' : World} {B b o x : Nat} (h : Below B w w') (hb : b < B) (he : El w b o x) : El w' b o x := by
  unfold El; rw [h.cell (p := ⟨b, o, none⟩) hb, h.cell (p := ⟨b, o + 1, none⟩) hb]; exact he
theorem Wt.keep {w w' : World} {B b o : Nat} (h : Below B w w') (hb : b < B) (he : Wt w b o) : Wt w' b o := by
  unfold Wt; rw [h.cell (p := ⟨b, o, none⟩) hb, h.cell (p := ⟨b, o + 1, none⟩) hb, h.frozen (p := ⟨b, o, none⟩) hb, h.frozen (p := ⟨b, o + 1, none⟩) hb]; exact he
theorem El.lt {w : World} {b o x : Nat} (h : El w b o x) : b < w.heap.size := cell_lt h.1
theorem Wt.lt {w : World} {b o : Nat} (h : Wt w b o) : b < w.heap.size := by obtain ⟨⟨⟨v, h⟩, _⟩, _⟩ := h; exact cell_lt h
/-- Where it was written, it lies. -/
theorem El.of_wr {w w' : World} {b o x : Nat} (ho : Wt w b o) (h : Wr w b o (lim x) w') : El w' b o x := by
  obtain ⟨⟨⟨v, hv⟩, _⟩, ⟨u, hu⟩, _⟩ := ho
  have hin : ∀ j, j < (lim x).length → (w.cell? ⟨b, o + j, none⟩).isSome = true := fun j hj => by
    rw [lim_len] at hj
    rcases j with _ | _ | j
    · rw [Nat.add_zero, hv]; rfl
    · rw [hu]; rfl
    · omega
  exact ⟨Wr.in h hin (cell_lt hv) 0 (by rw [lim_len]; omega), Wr.in h hin (cell_lt hv) 1 (by rw [lim_len]; omega)⟩
theorem Wt.of_wr {w w' : World} {b o x : Nat} (ho : Wt w b o) (h : Wr w b o (lim x) w') : Wt w' b o :=
  ⟨⟨⟨_, (El.of_wr ho h).1⟩, by rw [Wr.frozen h (Wt.lt ho)]; exact ho.1.2⟩, ⟨_, (El.of_wr ho h).2⟩, by rw [Wr.frozen h (Wt.lt ho)]; exact ho.2.2⟩
/-- Elsewhere all is as it was. -/
theorem El.wr_out {w w' : World} {b o c u x : Nat} {y : Nat} (h : Wr w b o (lim y) w') (hd : c = b → u + 1 < o ∨ o + 1 < u) (he : El w c u x) : El w' c u x := by
  have hl := El.lt he
  unfold El
  rw [Wr.out (p := ⟨c, u, none⟩) h hl (fun e => by have := hd e; rw [lim_len]; show u < o ∨ o + 2 ≤ u; omega), Wr.out (p := ⟨c, u + 1, none⟩) h hl (fun e => by have := hd e; rw [lim_len]; show u + 1 < o ∨ o + 2 ≤ u + 1; omega)]
  exact he
theorem Wt.wr_out {w w' : World} {b o c u : Nat} {y : Nat} (h : Wr w b o (lim y) w') (hd : c = b → u + 1 < o ∨ o + 1 < u) (he : Wt w c u) : Wt w' c u := by
  have hl := Wt.lt he
  unfold Wt
  rw [Wr.out (p := ⟨c, u, none⟩) h hl (fun e => by have := hd e; rw [lim_len]; show u < o ∨ o + 2 ≤ u; omega), Wr.out (p := ⟨c, u + 1, none⟩) h hl (fun e => by have := hd e; rw [lim_len]; show u + 1 < o ∨ o + 2 ≤ u + 1; omega),
    Wr.frozen (p := ⟨c, u, none⟩) h hl, Wr.frozen (p := ⟨c, u + 1, none⟩) h hl]
  exact he
/-- A box that was just made. -/
theorem El.box {w : World} {n x : Nat} {t : TypeId} {cs : Array Value} (hn : n = w.heap.size) (hc : cs = #[.int .u64 ((lo64 x : Nat) : Int), .int .u64 ((hi64 x : Nat) : Int)]) : El (w.alloc (.cells cs t (0, 0))) n 0 x := by
  subst hc; exact ⟨box_cell hn rfl, box_cell hn rfl⟩
theorem Wt.box {w : World} {n : Nat} {t : TypeId} {v u : Value} (hn : n = w.heap.size) : Wt (w.alloc (.cells #[v, u] t (0, 0))) n 0 := ⟨⟨⟨_, box_cell hn rfl⟩, box_free hn⟩, ⟨_, box_cell hn rfl⟩, box_free hn⟩

theorem split128 (x : Nat) (hx : x < P) : ∃ a b : Int, a = ((lo64 x : Nat) : Int) ∧ b = ((hi64 x : Nat) : Int) ∧ 0 ≤ a ∧ a < 18446744073709551616 ∧ 0 ≤ b ∧ b < 18446744073709551616 ∧ a + b * 18446744073709551616 = (x : Int) := by
  refine ⟨_, _, rfl, rfl, ?_⟩
  unfold P at hx
  unfold lo64 hi64
  omega
theorem join128 {x : Nat} {a b : Int} (ha : 0 ≤ a) (ha1 : a < 18446744073709551616) (h : a + b * 18446744073709551616 = (x : Int)) : a = ((lo64 x : Nat) : Int) ∧ b = ((hi64 x : Nat) : Int) := by
  unfold lo64 hi64; omega

theorem emod_of {v z q : Int} (P : Int) (h0 : 0 ≤ v) (h1 : v < P) (h : v = z + q * P) : v = z % P := by
  rw [show z = v + (-q) * P by rw [h, Int.neg_mul]; omega, Int.add_mul_emod_self_right, Int.emod_eq_of_lt h0 h1]

theorem add_num (a0 a1 b0 b1 x1 x2 x3 x4 x5 x6 x7 x8 d x10 : Int) (ha : a0 + a1 * 18446744073709551616 < 340282366920938462946865773367900766209) (hb : b0 + b1 * 18446744073709551616 < 340282366920938462946865773367900766209)
  (p0 : 0 ≤ a0) (p1 : 0 ≤ a1) (p2 : 0 ≤ b0) (p3 : 0 ≤ b1)
  (q1 : 0 ≤ x1) (r1 : x1 < 18446744073709551616) (q2 : 0 ≤ x2) (r2 : x2 ≤ 1) (e1 : x1 + x2 * 18446744073709551616 = a0 + b0 + 0)
  (q3 : 0 ≤ x3) (r3 : x3 < 18446744073709551616) (q4 : 0 ≤ x4) (r4 : x4 ≤ 1) (e2 : x3 + x4 * 18446744073709551616 = a1 + b1 + x2)
  (q5 : 0 ≤ x5) (r5 : x5 < 18446744073709551616) (q6 : 0 ≤ x6) (r6 : x6 ≤ 1) (e3 : x5 - x6 * 18446744073709551616 = x1 - 1 - 0)
  (q7 : 0 ≤ x7) (r7 : x7 < 18446744073709551616) (q8 : 0 ≤ x8) (r8 : x8 ≤ 1) (e4 : x7 - x8 * 18446744073709551616 = x3 - 18446744073709551588 - x6)
  (q9 : 0 ≤ d) (r9 : d < 18446744073709551616) (q10 : 0 ≤ x10) (r10 : x10 ≤ 1) (e5 : d - x10 * 18446744073709551616 = x4 - 0 - x8) :
  (if x10 = 0 then x5 else x1) + (if x10 = 0 then x7 else x3) * 18446744073709551616 = ((a0 + a1 * 18446744073709551616) + (b0 + b1 * 18446744073709551616)) % 340282366920938462946865773367900766209 := by
  have k4 : x4 = 0 ∨ x4 = 1 := by omega
  have k8 : x8 = 0 ∨ x8 = 1 := by omega
  have k10 : x10 = 0 ∨ x10 = 1 := by omega
  rcases k10 with rfl | rfl
  · rw [if_pos rfl, if_pos rfl]
    refine emod_of _ ?_ ?_ (q := -1) ?_ <;> rcases k4 with rfl | rfl <;> rcases k8 with rfl | rfl <;> omega
  · rw [if_neg (by omega), if_neg (by omega)]
    refine emod_of _ ?_ ?_ (q := 0) ?_ <;> rcases k4 with rfl | rfl <;> rcases k8 with rfl | rfl <;> omega

theorem sub_num (a0 a1 b0 b1 x3 x4 x5 x6 m0 m1 x8 x9 x10 d : Int) (ha : a0 + a1 * 18446744073709551616 < 340282366920938462946865773367900766209) (hb : b0 + b1 * 18446744073709551616 < 340282366920938462946865773367900766209)
  (p0 : 0 ≤ a0) (p1 : 0 ≤ a1) (p2 : 0 ≤ b0) (p3 : 0 ≤ b1)
  (q3 : 0 ≤ x3) (r3 : x3 < 18446744073709551616) (q4 : 0 ≤ x4) (r4 : x4 ≤ 1) (e1 : x3 - x4 * 18446744073709551616 = a0 - b0 - 0)
  (q5 : 0 ≤ x5) (r5 : x5 < 18446744073709551616) (q6 : 0 ≤ x6) (r6 : x6 ≤ 1) (e2 : x5 - x6 * 18446744073709551616 = a1 - b1 - x4)
  (h0 : m0 = if x6 = 0 then 0 else 1) (h1 : m1 = if x6 = 0 then 0 else 18446744073709551588)
  (q8 : 0 ≤ x8) (r8 : x8 < 18446744073709551616) (q9 : 0 ≤ x9) (r9 : x9 ≤ 1) (e3 : x8 + x9 * 18446744073709551616 = x3 + m0 + 0)
  (q10 : 0 ≤ x10) (r10 : x10 < 18446744073709551616) (q11 : 0 ≤ d) (r11 : d ≤ 1) (e4 : x10 + d * 18446744073709551616 = x5 + m1 + x9) :
  x8 + x10 * 18446744073709551616 = ((a0 + a1 * 18446744073709551616) + (340282366920938462946865773367900766209 - (b0 + b1 * 18446744073709551616))) % 340282366920938462946865773367900766209 := by
  have k6 : x6 = 0 ∨ x6 = 1 := by omega
  rcases k6 with rfl | rfl
  · simp only [if_true] at h0 h1
    subst h0; subst h1
    refine emod_of _ ?_ ?_ (q := -1) ?_ <;> omega
  · rw [if_neg (by omega)] at h0 h1
    subst h0; subst h1
    refine emod_of _ ?_ ?_ (q := 0) ?_ <;> omega

/-- A box of one cell, made and written. -/
theorem box_set {w0 w1 : World} {t : TypeId} {u x : Value} {fr : Nat × Nat} (hw : w1 = (w0.alloc (.cells #[u] t fr)).setCell ⟨w0.heap.size, 0, none⟩ x) :
    Below w0.heap.size w0 w1 ∧ w1.cell? ⟨w0.heap.size, 0, none⟩ = some x ∧ w1.heap.size = w0.heap.size + 1 := by
  refine ⟨?_, ?_, by rw [hw]; simp⟩
  · rw [hw]
    exact ((Below.refl _ w0).alloc (Nat.le_refl _) _).setCell (Nat.le_refl _) _
  · rw [hw]; exact World.cell?_setCell_same _ _ _ (box_cell rfl rfl)
/-- Two boxes of the call's own hold what is to be written; the place to be written to is as it was. -/
structure TwoBox (w w2 : World) (n1 n2 b o : Nat) (v1 v2 : Int) : Prop where
  below : Below w.heap.size w w2
  c1 : w2.cell? ⟨n1, 0, none⟩ = some (.int .u64 v1)
  c2 : w2.cell? ⟨n2, 0, none⟩ = some (.int .u64 v2)
  o0 : ∃ v, w2.cell? ⟨b, o, none⟩ = some v
  f0 : w2.frozen? ⟨b, o, none⟩ = false
  o1 : ∃ v, w2.cell? ⟨b, o + 1, none⟩ = some v
  f1 : w2.frozen? ⟨b, o + 1, none⟩ = false
theorem TwoBox.of {w w1 w2 : World} {n1 b o : Nat} {v1 v2 : Int} (h1 : Below w.heap.size w w1) (c1 : w1.cell? ⟨n1, 0, none⟩ = some (.int .u64 v1)) (h2 : Below w1.heap.size w1 w2) (c2 : w2.cell? ⟨w1.heap.size, 0, none⟩ = some (.int .u64 v2)) (ho : Wt w b o) :
    TwoBox w w2 n1 w1.heap.size b o v1 v2 := by
  have hb := h1.trans (h2.mono h1.size)
  have hk := Wt.keep hb ho.lt ho
  exact ⟨hb, by rw [h2.cell (cell_lt c1)]; exact c1, c2, hk.1.1, hk.1.2, hk.2.1, hk.2.2⟩
theorem Wr.two' {w w2 : World} {b o x : Nat} {v1 v2 : Int} (h : Below w.heap.size w w2) (hb : b < w.heap.size) (e1 : v1 = ((lo64 x : Nat) : Int)) (e2 : v2 = ((hi64 x : Nat) : Int)) :
    Wr w b o (lim x) ((w2.setCell ⟨b, o, none⟩ (.int .u64 v1)).drew.setCell ⟨b, o + 1, none⟩ (.int .u64 v2)).drew := by
  subst e1; subst e2
  exact Wr.two h hb ⟨rfl, rfl, rfl, Nat.le_refl _, fun _ _ => rfl⟩

theorem w64 {a : Int} (h : a < 18446744073709551616) : a < M64 := h

set_option maxRecDepth 100000 in
set_option maxHeartbeats 1000000 in
theorem fiatAdd (x y b o ba oa bb ob : Nat) (hx : x < P) (hy : y < P) (w : World) (ha : El w ba oa x) (hb : El w bb ob y) (ho : Wt w b o) :
    Calls Tryd.prog 49 #[.pointer (some ⟨b, o, none⟩), .pointer (some ⟨ba, oa, none⟩), .pointer (some ⟨bb, ob, none⟩)] w fun e w' => e = .returned (.tuple #[]) ∧ Wr w b o (lim (ad x y)) w' := by
  obtain ⟨⟨⟨v, ho⟩, hf⟩, ⟨u, ho'⟩, hf'⟩ := ho
  obtain ⟨ha, ha'⟩ := ha
  obtain ⟨hb, hb'⟩ := hb
  obtain ⟨a0, a1, ea0, ea1, p0, p1, p2, p3, ea⟩ := split128 x hx
  obtain ⟨b0, b1, eb0, eb1, s0, s1, s2, s3, eb⟩ := split128 y hy
  rw [← ea0] at ha
  rw [← ea1] at ha'
  rw [← eb0] at hb
  rw [← eb1] at hb'
  obtain ⟨x1, x2, h1, q1, r1, q2, t2, e1⟩ := addC a0 b0 0 p0 s0 (by omega) (by omega) (w64 p1) (w64 s1)
  obtain ⟨x3, x4, h2, q3, r3, q4, t4, e2⟩ := addC a1 b1 x2 p2 s2 q2 t2 (w64 p3) (w64 s3)
  obtain ⟨x5, x6, h3, q5, r5, q6, t6, e3⟩ := subC x1 1 0 q1 (by omega) (by omega) (by omega) r1 (by unfold M64; omega)
  obtain ⟨x7, x8, h4, q7, r7, q8, t8, e4⟩ := subC x3 18446744073709551588 x6 q3 (by omega) q6 t6 r3 (by unfold M64; omega)
  obtain ⟨d, x10, h5, q9, r9, q10, t10, e5⟩ := subC x4 0 x8 q4 (by omega) q8 t8 (by unfold M64; omega) (by unfold M64; omega)
  have hr : sel x10 x5 x1 + sel x10 x7 x3 * 18446744073709551616 = ((ad x y : Nat) : Int) := by
    unfold M64 at *; unfold P at *; unfold sel ad P
    rw [add_num a0 a1 b0 b1 x1 x2 x3 x4 x5 x6 x7 x8 d x10 (by omega) (by omega) p0 p2 s0 s2 q1 r1 q2 t2 e1 q3 r3 q4 t4 e2 q5 r5 q6 t6 e3 q7 r7 q8 t8 e4 q9 r9 q10 t10 e5, ea, eb]
    omega
  have hj := join128 (x := ad x y) (by unfold sel; split <;> assumption) (by unfold M64 at *; unfold sel; split <;> assumption) hr
  have HR := Lib.hid hj
  have HO := Lib.hid (cell_lt ho)
  have HW := Lib.hid (show Wt w b o from ⟨⟨⟨v, ho⟩, hf⟩, ⟨u, ho'⟩, hf'⟩)
  obtain ⟨v1, hv1⟩ : ∃ v1, v1 = sel x10 x5 x1 := ⟨_, rfl⟩
  obtain ⟨v2, hv2⟩ : ∃ v2, v2 = sel x10 x7 x3 := ⟨_, rfl⟩
  have HV1 := Lib.hid hv1
  have HV2 := Lib.hid hv2
  clear hj hr e1 e2 e3 e4 e5 ea eb ea0 ea1 eb0 eb1 p0 p1 p2 p3 s0 s1 s2 s3 ho ho' hf hf' hv1 hv2
  go_enter Tryd.func49, Tryd.ntmps49
  go_wp2_with fail
  go_quiet (fail)
  go_wp2_with fail
  go_quiet (fail)
  clear ha ha' hb hb'
  go_wp2_with fail
  refine (cmov_any x5 x1 x10 q5 q1 r5 r1 q10 t10 _ _ ?hc ?hf).mono ?_
  case hc => exact ⟨.int .u64 0, box_cell rfl rfl⟩
  case hf => exact box_free rfl
  rintro e w1 ⟨rfl, hw⟩
  obtain ⟨hb1, c1, hs1⟩ := box_set (w0 := w.drewN _) hw
  have B1 := Lib.hid (Below.trans (Below.drewN w.heap.size w _) hb1)
  have C1 := Lib.hid (show w1.cell? ⟨w.heap.size, 0, none⟩ = some (.int .u64 (sel x10 x5 x1)) from c1)
  rw [← HV1.out] at C1
  clear hw hb1 c1 hs1
  go_wp2_with fail
  refine (cmov_any x7 x3 x10 q7 q3 r7 r3 q10 t10 _ _ ?hc2 ?hf2).mono ?_
  case hc2 => exact ⟨.int .u64 0, box_cell rfl rfl⟩
  case hf2 => exact box_free rfl
  rintro e w2 ⟨rfl, hw⟩
  obtain ⟨hb2, c2, _⟩ := box_set hw
  rw [← HV2.out] at c2
  obtain ⟨n2, hn2⟩ : ∃ n2, n2 = w1.heap.size := ⟨_, rfl⟩
  have T2 := TwoBox.of B1.out C1.out hb2 c2 HW.out
  rw [← hn2] at T2 ⊢
  have hne : n2 ≠ b := by have := B1.out.size; have := HO.out; omega
  have hne' : b ≠ n2 := fun e => hne e.symm
  clear hw hb2 c2 hn2
  obtain ⟨tb, k1, k2, ⟨g0, o0⟩, f0, ⟨g1, o1⟩, f1⟩ := T2
  have TB := Lib.hid tb
  clear tb
  go_wp2_with fail
  go_region
  go_wp2_with fail
  go_region
  go_end0
  refine ⟨rfl, Wr.two' TB.out HO.out (by rw [HV1.out]; exact HR.out.1) (by rw [HV2.out]; exact HR.out.2)⟩

theorem mask_lo (c : Int) (h : c = 0 ∨ c = 1) : bits BinOp.and IntKind.u64 (sel c 0 18446744073709551615) 1 = if c = 0 then 0 else 1 := by
  rcases h with rfl | rfl <;> unfold sel <;> simp <;> rfl
theorem mask_hi (c : Int) (h : c = 0 ∨ c = 1) : bits BinOp.and IntKind.u64 (sel c 0 18446744073709551615) 18446744073709551588 = if c = 0 then 0 else 18446744073709551588 := by
  rcases h with rfl | rfl <;> unfold sel <;> simp <;> rfl

set_option maxRecDepth 100000 in
set_option maxHeartbeats 1000000 in
theorem fiatSub (x y b o ba oa bb ob : Nat) (hx : x < P) (hy : y < P) (w : World) (ha : El w ba oa x) (hb : El w bb ob y) (ho : Wt w b o) :
    Calls Tryd.prog 50 #[.pointer (some ⟨b, o, none⟩), .pointer (some ⟨ba, oa, none⟩), .pointer (some ⟨bb, ob, none⟩)] w fun e w' => e = .returned (.tuple #[]) ∧ Wr w b o (lim (sb x y)) w' := by
  have HW := Lib.hid ho
  obtain ⟨ha, ha'⟩ := ha
  obtain ⟨hb, hb'⟩ := hb
  obtain ⟨a0, a1, ea0, ea1, p0, p1, p2, p3, ea⟩ := split128 x hx
  obtain ⟨b0, b1, eb0, eb1, s0, s1, s2, s3, eb⟩ := split128 y hy
  rw [← ea0] at ha
  rw [← ea1] at ha'
  rw [← eb0] at hb
  rw [← eb1] at hb'
  obtain ⟨x3, x4, h1, q3, r3, q4, t4, e1⟩ := subC a0 b0 0 p0 s0 (by omega) (by omega) (w64 p1) (w64 s1)
  obtain ⟨x5, x6, h2, q5, r5, q6, t6, e2⟩ := subC a1 b1 x4 p2 s2 q4 t4 (w64 p3) (w64 s3)
  obtain ⟨m0, hm0⟩ : ∃ m0 : Int, m0 = if x6 = 0 then 0 else 1 := ⟨_, rfl⟩
  obtain ⟨m1, hm1⟩ : ∃ m1 : Int, m1 = if x6 = 0 then 0 else 18446744073709551588 := ⟨_, rfl⟩
  have hm00 : 0 ≤ m0 ∧ m0 < M64 := by rw [hm0]; unfold M64; split <;> omega
  have hm10 : 0 ≤ m1 ∧ m1 < M64 := by rw [hm1]; unfold M64; split <;> omega
  obtain ⟨x8, x9, h3, q8, r8, q9, t9, e3⟩ := addC x3 m0 0 q3 hm00.1 (by omega) (by omega) r3 hm00.2
  obtain ⟨x10, d, h4, q10, r10, q11, t11, e4⟩ := addC x5 m1 x9 q5 hm10.1 q9 t9 r5 hm10.2
  have hr : x8 + x10 * 18446744073709551616 = ((sb x y : Nat) : Int) := by
    unfold M64 at *; unfold P at *; unfold sb P
    rw [sub_num a0 a1 b0 b1 x3 x4 x5 x6 m0 m1 x8 x9 x10 d (by omega) (by omega) p0 p2 s0 s2 q3 r3 q4 t4 e1 q5 r5 q6 t6 e2 hm0 hm1 q8 r8 q9 t9 e3 q10 r10 q11 t11 e4, ea, eb]
    omega
  have HR := Lib.hid (join128 (x := sb x y) q8 r8 hr)
  have ML := mask_lo x6 (by omega)
  have MH := mask_hi x6 (by omega)
  rw [← hm0] at ML
  rw [← hm1] at MH
  obtain ⟨m, hm⟩ : ∃ m : Int, m = sel x6 0 18446744073709551615 := ⟨_, rfl⟩
  rw [← hm] at ML MH
  have HM := Lib.hid hm
  have HO := Lib.hid ho.lt
  clear hr e1 e2 e3 e4 ea eb ea0 ea1 eb0 eb1 p0 p1 p2 p3 s0 s1 s2 s3 ho hm0 hm1 hm00 hm10 hm
  go_enter Tryd.func50, Tryd.ntmps50
  go_wp2_with fail
  clear ha ha' hb hb'
  refine (cmov_any 0 18446744073709551615 x6 (by omega) (by omega) (by unfold M64; omega) (by unfold M64; omega) q6 t6 _ _ ?hc ?hf).mono ?_
  case hc => exact ⟨.int .u64 0, box_cell rfl rfl⟩
  case hf => exact box_free rfl
  rintro e w1 ⟨rfl, hw⟩
  obtain ⟨hb1, c1, hs1⟩ := box_set hw
  rw [← HM.out] at c1
  have hk := HW.out.keep hb1 HO.out
  obtain ⟨⟨⟨g0, o0⟩, f0⟩, ⟨g1, o1⟩, f1⟩ := hk
  have B1 := Lib.hid hb1
  have hne : w.heap.size ≠ b := by have := HO.out; omega
  clear hw hb1 hs1
  go_wp2_with fail
  go_end0
  refine ⟨rfl, ?_⟩
  rw [HR.out.1, HR.out.2]
  exact Wr.two B1.out HO.out (Below.refl _ _)

/-- One row of the product of two words by one. -/
theorem row_num (z0 z1 x3 x4 x5 x6 x7 x8 x9 : Int) (hz1' : z1 ≤ 18446744073709551615 * 18446744073709551615)
  (a3 : 0 ≤ x3) (b3 : x3 < 18446744073709551616) (a4 : 0 ≤ x4) (e1 : x4 * 18446744073709551616 + x3 = z1)
  (e2 : x6 * 18446744073709551616 + x5 = z0) (a8 : 0 ≤ x8) (b8 : x8 ≤ 1) (e3 : x7 + x8 * 18446744073709551616 = x6 + x3 + 0) (e9 : x9 = (x8 + x4) % 18446744073709551616) :
  x5 + x7 * 18446744073709551616 + x9 * 340282366920938463463374607431768211456 = z0 + z1 * 18446744073709551616 ∧ 0 ≤ x9 ∧ x9 < 18446744073709551616 := by
  have : x9 = x8 + x4 := by omega
  omega
/-- One reduction: a multiple of the order is added, and the lowest word, then 0, goes. -/
theorem red_num (t0 t1 t2 h m q l s k1 r0 k2 r1 k3 : Int) (a0 : 0 ≤ s) (b0 : s < 18446744073709551616)
  (e1 : h * 18446744073709551616 + m = t0 * 18446744073709551615) (e2 : q * 18446744073709551616 + l = m * 18446744073709551588)
  (e3 : s + k1 * 18446744073709551616 = t0 + m + 0) (e4 : r0 + k2 * 18446744073709551616 = t1 + l + k1) (e5 : r1 + k3 * 18446744073709551616 = t2 + q + k2) :
  (r0 + r1 * 18446744073709551616 + k3 * 340282366920938463463374607431768211456) * 18446744073709551616 = t0 + t1 * 18446744073709551616 + t2 * 340282366920938463463374607431768211456 + m * 340282366920938462946865773367900766209 := by
  have : s = 0 := by
    have h1 : s = (t0 - h - k1) * 18446744073709551616 := by omega
    omega
  omega
theorem mont_eq {v z q : Int} (h0 : 0 ≤ v) (h1 : v < 340282366920938462946865773367900766209) (h : v * 340282366920938463463374607431768211456 = z + q * 340282366920938462946865773367900766209) : v = (z * 340282366920938462430356939304033321744) % 340282366920938462946865773367900766209 :=
  emod_of _ h0 h1 (q := q * 340282366920938462430356939304033321744 - 340282366920938462946865773367900766207 * v) (by omega)
theorem fin_num (z V Q r0 r1 r2 x44 x45 x46 x47 d x49 : Int) (hz0 : 0 ≤ z) (hz : z ≤ 340282366920938462946865773367900766208 * 340282366920938462946865773367900766208) (hQ0 : 0 ≤ Q) (hQ : Q < 340282366920938463463374607431768211456)
  (hV : V * 340282366920938463463374607431768211456 = z + Q * 340282366920938462946865773367900766209) (eV : V = r0 + r1 * 18446744073709551616 + r2 * 340282366920938463463374607431768211456)
  (a0 : 0 ≤ r0) (b0 : r0 < 18446744073709551616) (a1 : 0 ≤ r1) (b1 : r1 < 18446744073709551616) (a2 : 0 ≤ r2)
  (q5 : 0 ≤ x44) (r5 : x44 < 18446744073709551616) (q6 : 0 ≤ x45) (r6 : x45 ≤ 1) (e3 : x44 - x45 * 18446744073709551616 = r0 - 1 - 0)
  (q7 : 0 ≤ x46) (r7 : x46 < 18446744073709551616) (q8 : 0 ≤ x47) (r8 : x47 ≤ 1) (e4 : x46 - x47 * 18446744073709551616 = r1 - 18446744073709551588 - x45)
  (q9 : 0 ≤ d) (r9 : d < 18446744073709551616) (q10 : 0 ≤ x49) (r10 : x49 ≤ 1) (e5 : d - x49 * 18446744073709551616 = r2 - 0 - x47) :
  (if x49 = 0 then x44 else r0) + (if x49 = 0 then x46 else r1) * 18446744073709551616 = (z * 340282366920938462430356939304033321744) % 340282366920938462946865773367900766209 := by
  have h2 : V < 2 * 340282366920938462946865773367900766209 := by omega
  have k2 : r2 = 0 ∨ r2 = 1 := by omega
  have k8 : x47 = 0 ∨ x47 = 1 := by omega
  have k10 : x49 = 0 ∨ x49 = 1 := by omega
  rcases k10 with rfl | rfl
  · rw [if_pos rfl, if_pos rfl]
    have e : x44 + x46 * 18446744073709551616 = V - 340282366920938462946865773367900766209 := by rcases k2 with rfl | rfl <;> rcases k8 with rfl | rfl <;> omega
    refine mont_eq ?_ ?_ (q := Q - 340282366920938463463374607431768211456) ?_
    · omega
    · omega
    · rw [e]; omega
  · rw [if_neg (by omega), if_neg (by omega)]
    have e : r0 + r1 * 18446744073709551616 = V := by rcases k2 with rfl | rfl <;> rcases k8 with rfl | rfl <;> omega
    refine mont_eq ?_ ?_ (q := Q) ?_
    · omega
    · rcases k2 with rfl | rfl <;> rcases k8 with rfl | rfl <;> omega
    · rw [e]; exact hV
end Go.Proofs.YtimihpddlinmbaaDoor
