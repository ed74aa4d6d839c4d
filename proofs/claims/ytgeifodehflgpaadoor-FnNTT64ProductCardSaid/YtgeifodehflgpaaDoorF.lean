/-
  The field of 64 bits: its numbers, an element in memory, and the four functions on words (fiatMont.go): sum, difference, Montgomery product.
-/
import Derived.Test.YtgeifodehflgpaaDoorB
namespace Go.Proofs.YtgeifodehflgpaaDoor
open Go.RowKit
set_option linter.unusedVariables false
set_option linter.unusedSimpArgs false

/-- The order, and the inverse of 2^64 modulo it. -/
def P : Nat := 18446744069414584321
def ri : Nat := 18446744065119617025
/-- Montgomery's product. -/
def mt (x y : Nat) : Nat := x * y * ri % P
def ad (x y : Nat) : Nat := (x + y) % P
def sb (x y : Nat) : Nat := (x + (P - y)) % P

theorem P_pos : 0 < P := by unfold P; omega
theorem mt_lt (x y : Nat) : mt x y < P := Nat.mod_lt _ P_pos
theorem ad_lt (x y : Nat) : ad x y < P := Nat.mod_lt _ P_pos
theorem sb_lt (x y : Nat) : sb x y < P := Nat.mod_lt _ P_pos

/-- The number x lies at block b, place o. -/
def El (w : World) (b o x : Nat) : Prop := w.cell? ⟨b, o, none⟩ = some (.int .u64 (x : Int))
/-- There an element may be written. -/
def Wt (w : World) (b o : Nat) : Prop := (∃ v, w.cell? ⟨b, o, none⟩ = some v) ∧ w.frozen? ⟨b, o, none⟩ = false
def lim (x : Nat) : List Value := [.int .u64 (x : Int)]

theorem lim_len (x : Nat) : (lim x).length = 1 := rfl
theorem lim_same (x y : Nat) : (lim x).length = (lim y).length := by rw [lim_len, lim_len]
theorem El.keep {w w' : World} {B b o x : Nat} (h : Below B w w') (hb : b < B) (he : El w b o x) : El w' b o x := by
  unfold El; rw [h.cell hb]; exact he
theorem Wt.keep {w w' : World} {B b o : Nat} (h : Below B w w') (hb : b < B) (he : Wt w b o) : Wt w' b o := by
  unfold Wt; rw [h.cell hb, h.frozen hb]; exact he
theorem El.lt {w : World} {b o x : Nat} (h : El w b o x) : b < w.heap.size := cell_lt h
theorem Wt.lt {w : World} {b o : Nat} (h : Wt w b o) : b < w.heap.size := by obtain ⟨⟨v, h⟩, _⟩ := h; exact cell_lt h
/-- Where it was written, it lies. -/
theorem El.of_wr {w w' : World} {b o x : Nat} (ho : Wt w b o) (h : Wr w b o (lim x) w') : El w' b o x := by
  obtain ⟨⟨v, hv⟩, _⟩ := ho
  exact Wr.in h (fun j hj => by simp [lim] at hj; subst hj; simp [hv]) (cell_lt hv) 0 (by simp [lim])
theorem Wt.of_wr {w w' : World} {b o x : Nat} (ho : Wt w b o) (h : Wr w b o (lim x) w') : Wt w' b o :=
  ⟨⟨_, El.of_wr ho h⟩, by rw [Wr.frozen h (Wt.lt ho)]; exact ho.2⟩
/-- Elsewhere all is as it was. -/
theorem El.wr_out {w w' : World} {b o c u x : Nat} {y : Nat} (h : Wr w b o (lim y) w') (hd : c = b → u ≠ o) (he : El w c u x) : El w' c u x := by
  unfold El
  rw [Wr.out h (El.lt he) (fun e => by have := hd e; simp [lim]; omega)]
  exact he
theorem Wt.wr_out {w w' : World} {b o c u : Nat} {y : Nat} (h : Wr w b o (lim y) w') (hd : c = b → u ≠ o) (he : Wt w c u) : Wt w' c u := by
  have hl := Wt.lt he
  unfold Wt
  rw [Wr.out h hl (fun e => by have := hd e; simp [lim]; omega), Wr.frozen h hl]
  exact he
/-- A box that was just made. -/
theorem El.box {w : World} {n x : Nat} {t : TypeId} {cs : Array Value} (hn : n = w.heap.size) (hc : cs = #[.int .u64 (x : Int)]) : El (w.alloc (.cells cs t (0, 0))) n 0 x := by
  subst hc; exact box_cell hn rfl
theorem Wt.box {w : World} {n : Nat} {t : TypeId} {v : Value} (hn : n = w.heap.size) : Wt (w.alloc (.cells #[v] t (0, 0))) n 0 := ⟨⟨_, box_cell hn rfl⟩, box_free hn⟩

theorem emod_of {v z q : Int} (P : Int) (h0 : 0 ≤ v) (h1 : v < P) (h : v = z + q * P) : v = z % P := by
  rw [show z = v + (-q) * P by rw [h, Int.neg_mul]; omega, Int.add_mul_emod_self_right, Int.emod_eq_of_lt h0 h1]
theorem add_num (x y s k s2 k2 s3 k3 : Int) (hx : 0 ≤ x) (hy : 0 ≤ y) (hx1 : x < 18446744069414584321) (hy1 : y < 18446744069414584321) 
  (a1 : 0 ≤ s) (a2 : s < 18446744073709551616) (a3 : 0 ≤ k) (a4 : k ≤ 1) (e1 : s + k * 18446744073709551616 = x + y + 0)
  (b1 : 0 ≤ s2) (b2 : s2 < 18446744073709551616) (b3 : 0 ≤ k2) (b4 : k2 ≤ 1) (e2 : s2 - k2 * 18446744073709551616 = s - 18446744069414584321 - 0)
  (c1 : 0 ≤ s3) (c2 : s3 < 18446744073709551616) (c3 : 0 ≤ k3) (c4 : k3 ≤ 1) (e3 : s3 - k3 * 18446744073709551616 = k - 0 - k2) :
  (if k3 = 0 then s2 else s) = (x + y) % 18446744069414584321 := by
  have hk : k = 0 ∨ k = 1 := by omega
  have hk2 : k2 = 0 ∨ k2 = 1 := by omega
  split
  · refine emod_of _ ?_ ?_ (q := -1) ?_ <;> rcases hk with rfl | rfl <;> rcases hk2 with rfl | rfl <;> omega
  · refine emod_of _ ?_ ?_ (q := 0) ?_ <;> rcases hk with rfl | rfl <;> rcases hk2 with rfl | rfl <;> omega
theorem mont_eq {v z q : Int} (h0 : 0 ≤ v) (h1 : v < 18446744069414584321) (h : v * 18446744073709551616 = z + q * 18446744069414584321) : v = (z * 18446744065119617025) % 18446744069414584321 :=
  emod_of _ h0 h1 (q := q * 18446744065119617025 - 18446744069414584319 * v) (by omega)
theorem mul_num (x y h l h2 l2 h3 l3 s9 x9 x10 x11 x12 x13 x14 x15 : Int) (hx : 0 ≤ x) (hy : 0 ≤ y) (hx1 : x < 18446744069414584321) (hy1 : y < 18446744069414584321)
  (a1 : 0 ≤ h) (a2 : h < 18446744073709551616) (a3 : 0 ≤ l) (a4 : l < 18446744073709551616) (e1 : h * 18446744073709551616 + l = x * y)
  (b1 : 0 ≤ h2) (b2 : h2 < 18446744073709551616) (b3 : 0 ≤ l2) (b4 : l2 < 18446744073709551616) (e2 : h2 * 18446744073709551616 + l2 = l * 18446744069414584319)
  (c1 : 0 ≤ h3) (c2 : h3 < 18446744073709551616) (c3 : 0 ≤ l3) (c4 : l3 < 18446744073709551616) (e3 : h3 * 18446744073709551616 + l3 = l2 * 18446744069414584321)
  (d1 : 0 ≤ s9) (d2 : s9 < 18446744073709551616) (d3 : 0 ≤ x9) (d4 : x9 ≤ 1) (e4 : s9 + x9 * 18446744073709551616 = l + l3 + 0)
  (f1 : 0 ≤ x10) (f2 : x10 < 18446744073709551616) (f3 : 0 ≤ x11) (f4 : x11 ≤ 1) (e5 : x10 + x11 * 18446744073709551616 = h + h3 + x9)
  (g1 : 0 ≤ x12) (g2 : x12 < 18446744073709551616) (g3 : 0 ≤ x13) (g4 : x13 ≤ 1) (e6 : x12 - x13 * 18446744073709551616 = x10 - 18446744069414584321 - 0)
  (i1 : 0 ≤ x14) (i2 : x14 < 18446744073709551616) (i3 : 0 ≤ x15) (i4 : x15 ≤ 1) (e7 : x14 - x15 * 18446744073709551616 = x11 - 0 - x13) :
  (if x15 = 0 then x12 else x10) = (x * y * 18446744065119617025) % 18446744069414584321 := by
  have hz : x * y ≤ 18446744069414584320 * 18446744069414584320 := Int.mul_le_mul (by omega) (by omega) hy (by omega)
  have hz0 : 0 ≤ x * y := Int.mul_nonneg hx hy
  generalize x * y = z at *
  have h0 : s9 = 0 := by
    have : s9 % 18446744073709551616 = 0 := by
      have : s9 = (l * 18446744065119617025 - h2 * 18446744069414584321 - h3 - x9) * 18446744073709551616 := by omega
      omega
    omega
  have hT : (x10 + x11 * 18446744073709551616) * 18446744073709551616 = z + l2 * 18446744069414584321 := by omega
  have hTb : x10 + x11 * 18446744073709551616 < 2 * 18446744069414584321 := by omega
  clear e1 e2 e3 e4 e5
  have hk : x11 = 0 ∨ x11 = 1 := by omega
  have hk2 : x13 = 0 ∨ x13 = 1 := by omega
  split
  · refine mont_eq ?_ ?_ (q := l2 - 18446744073709551616) ?_ <;> rcases hk with rfl | rfl <;> rcases hk2 with rfl | rfl <;> omega
  · refine mont_eq ?_ ?_ (q := l2) ?_ <;> rcases hk with rfl | rfl <;> rcases hk2 with rfl | rfl <;> omega

theorem sub_num (x y s k s2 k2 c : Int) (hx : 0 ≤ x) (hy : 0 ≤ y) (hx1 : x < 18446744069414584321) (hy1 : y < 18446744069414584321)
  (a1 : 0 ≤ s) (a2 : s < 18446744073709551616) (a3 : 0 ≤ k) (a4 : k ≤ 1) (e1 : s - k * 18446744073709551616 = x - y - 0) (hc : c = if k = 0 then 0 else 18446744069414584321)
  (b1 : 0 ≤ s2) (b2 : s2 < 18446744073709551616) (b3 : 0 ≤ k2) (b4 : k2 ≤ 1) (e2 : s2 + k2 * 18446744073709551616 = s + c + 0) :
  s2 = (x + (18446744069414584321 - y)) % 18446744069414584321 := by
  have hk : k = 0 ∨ k = 1 := by omega
  have hk2 : k2 = 0 ∨ k2 = 1 := by omega
  subst hc
  rcases hk with rfl | rfl
  · refine emod_of _ ?_ ?_ (q := -1) ?_ <;> rcases hk2 with rfl | rfl <;> simp at * <;> omega
  · refine emod_of _ ?_ ?_ (q := 0) ?_ <;> rcases hk2 with rfl | rfl <;> simp at * <;> omega

theorem P_lt {x : Nat} (h : x < P) : (x : Int) < M64 := by unfold P at h; unfold M64; omega

set_option maxHeartbeats 400000 in
theorem fiatAdd (x y b o ba oa bb ob : Nat) (hx : x < P) (hy : y < P) (w : World) (ha : El w ba oa x) (hb : El w bb ob y) (ho : Wt w b o) :
    Calls Tryd.prog 49 #[.pointer (some ⟨b, o, none⟩), .pointer (some ⟨ba, oa, none⟩), .pointer (some ⟨bb, ob, none⟩)] w fun e w' => e = .returned (.tuple #[]) ∧ Wr w b o (lim (ad x y)) w' := by
  obtain ⟨⟨v, ho⟩, hf⟩ := ho
  unfold El at ha hb
  obtain ⟨s, k, h1, hs0, hs1, hk0, hk1, he⟩ := addC x y 0 (by omega) (by omega) (by omega) (by omega) (P_lt hx) (P_lt hy)
  obtain ⟨s2, k2, h2, hs20, hs21, hk20, hk21, he2⟩ := subC s 18446744069414584321 0 hs0 (by omega) (by omega) (by omega) hs1 (by unfold M64; omega)
  obtain ⟨s3, k3, h3, hs30, hs31, hk30, hk31, he3⟩ := subC k 0 k2 hk0 (by omega) (by omega) (by omega) (by unfold M64; omega) (by unfold M64; omega)
  have hr : sel k3 s2 s = ((ad x y : Nat) : Int) := by
    unfold M64 at *; unfold P at *; unfold sel ad P
    rw [add_num x y s k s2 k2 s3 k3 (by omega) (by omega) (by omega) (by omega) hs0 hs1 hk0 hk1 he hs20 hs21 hk20 hk21 he2 hs30 hs31 hk30 hk31 he3]
    omega
  have HR := Lib.hid hr
  have HO := Lib.hid (cell_lt ho)
  clear hr he he2 he3
  go_enter Tryd.func49, Tryd.ntmps49
  go_wp2_with fail
  go_quiet (fail)
  clear ha hb
  go_wp2_with fail
  refine (cmov_any s2 s k3 hs20 hs0 hs21 hs1 hk30 hk31 _ _ ?hc ?hf).mono ?_
  case hc => exact ⟨.int .u64 0, box_cell rfl rfl⟩
  case hf => exact box_free rfl
  rintro e w1 ⟨rfl, hw⟩
  obtain ⟨hb1, c1, co, cf⟩ := after_box (w := w) hw ho hf HO.out rfl (Below.drewN _ w nq)
  clear hw ho hf
  rw [HR.out] at c1
  go_wp2_with fail
  go_region
  go_end0
  exact ⟨rfl, Wr.one hb1 HO.out (Below.drew (Below.refl _ _))⟩

theorem mask_val (c : Int) (h : c = 0 ∨ c = 1) : bits BinOp.and IntKind.u64 (sel c 0 18446744073709551615) 18446744069414584321 = if c = 0 then 0 else 18446744069414584321 := by
  rcases h with rfl | rfl <;> unfold sel <;> simp <;> rfl

set_option maxHeartbeats 400000 in
theorem fiatSub (x y b o ba oa bb ob : Nat) (hx : x < P) (hy : y < P) (w : World) (ha : El w ba oa x) (hb : El w bb ob y) (ho : Wt w b o) :
    Calls Tryd.prog 50 #[.pointer (some ⟨b, o, none⟩), .pointer (some ⟨ba, oa, none⟩), .pointer (some ⟨bb, ob, none⟩)] w fun e w' => e = .returned (.tuple #[]) ∧ Wr w b o (lim (sb x y)) w' := by
  obtain ⟨⟨v, ho⟩, hf⟩ := ho
  unfold El at ha hb
  obtain ⟨s, k, h1, hs0, hs1, hk0, hk1, he⟩ := subC x y 0 (by omega) (by omega) (by omega) (by omega) (P_lt hx) (P_lt hy)
  obtain ⟨c, hc⟩ : ∃ c : Int, c = if k = 0 then 0 else 18446744069414584321 := ⟨_, rfl⟩
  have hc0 : 0 ≤ c := by rw [hc]; split <;> omega
  have hc1 : c < M64 := by rw [hc]; unfold M64; split <;> omega
  obtain ⟨s2, k2, h2, hs20, hs21, hk20, hk21, he2⟩ := addC s c 0 hs0 hc0 (by omega) (by omega) hs1 hc1
  have hr : s2 = ((sb x y : Nat) : Int) := by
    unfold M64 at *; unfold P at *; unfold sb P
    rw [sub_num x y s k s2 k2 c (by omega) (by omega) (by omega) (by omega) hs0 hs1 hk0 hk1 he hc hs20 hs21 hk20 hk21 he2]
    omega
  have hM := mask_val k (by omega)
  rw [← hc] at hM
  obtain ⟨m, hm⟩ : ∃ m : Int, m = sel k 0 18446744073709551615 := ⟨_, rfl⟩
  rw [← hm] at hM
  have HM := Lib.hid hm
  have HR := Lib.hid hr
  have HO := Lib.hid (cell_lt ho)
  clear hr he he2 hc hm
  go_enter Tryd.func50, Tryd.ntmps50
  go_wp2_with fail
  clear ha hb
  refine (cmov_any 0 18446744073709551615 k (by omega) (by omega) (by unfold M64; omega) (by unfold M64; omega) hk0 hk1 _ _ ?hc ?hf).mono ?_
  case hc => exact ⟨.int .u64 0, box_cell rfl rfl⟩
  case hf => exact box_free rfl
  rintro e w1 ⟨rfl, hw⟩
  obtain ⟨hb1, c1, co, cf⟩ := after_box (w := w) (w0 := w) hw ho hf HO.out rfl (Below.refl _ w)
  clear hw ho hf
  rw [← HM.out] at c1
  go_wp2_with fail
  go_end0
  rw [HR.out]
  exact ⟨rfl, Wr.one hb1 HO.out (Below.refl _ _)⟩

set_option maxHeartbeats 1000000 in
theorem fiatMul (x y b o ba oa bb ob : Nat) (hx : x < P) (hy : y < P) (w : World) (ha : El w ba oa x) (hb : El w bb ob y) (ho : Wt w b o) :
    Calls Tryd.prog 42 #[.pointer (some ⟨b, o, none⟩), .pointer (some ⟨ba, oa, none⟩), .pointer (some ⟨bb, ob, none⟩)] w fun e w' => e = .returned (.tuple #[]) ∧ Wr w b o (lim (mt x y)) w' := by
  obtain ⟨⟨v, ho⟩, hf⟩ := ho
  unfold El at ha hb
  obtain ⟨h, l, m1, hh0, hh1, hl0, hl1, e1⟩ := mulC x y (by omega) (by omega) (P_lt hx) (P_lt hy)
  obtain ⟨h2, l2, m2, hh20, hh21, hl20, hl21, e2⟩ := mulC l 18446744069414584319 hl0 (by omega) hl1 (by unfold M64; omega)
  obtain ⟨h3, l3, m3, hh30, hh31, hl30, hl31, e3⟩ := mulC l2 18446744069414584321 hl20 (by omega) hl21 (by unfold M64; omega)
  obtain ⟨s9, x9, a4, hs90, hs91, hx90, hx91, e4⟩ := addC l l3 0 hl0 hl30 (by omega) (by omega) hl1 hl31
  obtain ⟨x10, x11, a5, hx100, hx101, hx110, hx111, e5⟩ := addC h h3 x9 hh0 hh30 hx90 hx91 hh1 hh31
  obtain ⟨x12, x13, a6, hx120, hx121, hx130, hx131, e6⟩ := subC x10 18446744069414584321 0 hx100 (by omega) (by omega) (by omega) hx101 (by unfold M64; omega)
  obtain ⟨x14, x15, a7, hx140, hx141, hx150, hx151, e7⟩ := subC x11 0 x13 hx110 (by omega) hx130 hx131 (by unfold M64; omega) (by unfold M64; omega)
  have hr : sel x15 x12 x10 = ((mt x y : Nat) : Int) := by
    unfold M64 at *; unfold P at *; unfold sel mt P ri
    rw [mul_num x y h l h2 l2 h3 l3 s9 x9 x10 x11 x12 x13 x14 x15 (by omega) (by omega) (by omega) (by omega) hh0 hh1 hl0 hl1 e1 hh20 hh21 hl20 hl21 e2 hh30 hh31 hl30 hl31 e3 hs90 hs91 hx90 hx91 e4
      hx100 hx101 hx110 hx111 e5 hx120 hx121 hx130 hx131 e6 hx140 hx141 hx150 hx151 e7]
    rw [Int.natCast_emod, Int.natCast_mul, Int.natCast_mul]; rfl
  have HR := Lib.hid hr
  have HO := Lib.hid (cell_lt ho)
  have M1 := Lib.hid m1
  have M2 := Lib.hid m2
  have M3 := Lib.hid m3
  clear hr e1 e2 e3 e4 e5 e6 e7 m1 m2 m3
  go_enter Tryd.func42, Tryd.ntmps42
  go_wp2_with fail
  refine (M1.out _).mono ?_
  rintro e w1 ⟨rfl, rfl⟩
  clear ha hb
  go_wp2_with fail
  refine (M2.out _).mono ?_
  rintro e w1 ⟨rfl, rfl⟩
  go_wp2_with fail
  refine (M3.out _).mono ?_
  rintro e w1 ⟨rfl, rfl⟩
  go_wp2_with fail
  refine (cmov_any x12 x10 x15 hx120 hx100 hx121 hx101 hx150 hx151 _ _ ?hc ?hf).mono ?_
  case hc => exact ⟨.int .u64 0, box_cell rfl rfl⟩
  case hf => exact box_free rfl
  rintro e w1 ⟨rfl, hw⟩
  obtain ⟨hb1, c1, co, cf⟩ := after_box (w := w) (w0 := w) hw ho hf HO.out rfl (Below.refl _ w)
  clear hw ho hf
  rw [HR.out] at c1
  go_wp2_with fail
  go_region
  go_end0
  exact ⟨rfl, Wr.one hb1 HO.out (Below.drew (Below.refl _ _))⟩
end Go.Proofs.YtgeifodehflgpaaDoor
