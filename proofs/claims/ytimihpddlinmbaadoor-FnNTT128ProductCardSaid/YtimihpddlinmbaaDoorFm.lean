/-
  NOT BUILT YET. The field of 128 bits: Montgomery's product on words (fiatMont.go).
-/
import Derived.Test.YtimihpddlinmbaaDoorFn
namespace Go.Proofs.YtimihpddlinmbaaDoor
open Go.RowKit
set_option linter.unusedVariables false
set_option linter.unusedSimpArgs false

theorem le_P {x : Nat} (h : x < P) : (x : Int) ≤ 340282366920938462946865773367900766208 := by unfold P at h; omega
theorem q_lo {a b : Int} (ha : 0 ≤ a) (hb : 0 ≤ b) : 0 ≤ a + b * 18446744073709551616 := by omega
theorem q_hi {a b : Int} (ha : a < M64) (hb : b < M64) : a + b * 18446744073709551616 < 340282366920938463463374607431768211456 := by unfold M64 at *; omega
theorem kbig : (0 : Int) ≤ 340282366920938462946865773367900766208 := by omega
theorem prod_le {a b : Int} (ha : 0 ≤ a) (ha1 : a < 18446744073709551616) (hb : 0 ≤ b) (hb1 : b < 18446744073709551616) : a * b ≤ 18446744073709551615 * 18446744073709551615 :=
  Int.mul_le_mul (by omega) (by omega) hb (by omega)
theorem bit64 {a : Int} (h : a ≤ 1) : a < M64 := by unfold M64; omega

theorem kz0 : (0 : Int) ≤ 0 := by omega
theorem kz1 : (0 : Int) ≤ 1 := by omega
theorem kzM : (0 : Int) < M64 := by unfold M64; omega
theorem kmx0 : (0 : Int) ≤ 18446744073709551615 := by omega
theorem kmx1 : (18446744073709551615 : Int) < M64 := by unfold M64; omega
theorem kp0 : (0 : Int) ≤ 18446744073709551588 := by omega
theorem kp1 : (18446744073709551588 : Int) < M64 := by unfold M64; omega
theorem kone0 : (0 : Int) ≤ 1 := by omega
theorem kone1 : (1 : Int) < M64 := by unfold M64; omega
theorem wrap_two {a b : Int} (h0 : 0 ≤ a) (h1 : a ≤ 1) (g0 : 0 ≤ b) (g1 : b ≤ 1) : IntKind.u64.wrap (a + b) = a + b := by rw [IntKind.wrap_u64]; omega
theorem two_lt {a b : Int} (h1 : a ≤ 1) (g1 : b ≤ 1) : a + b < M64 := by unfold M64; omega

set_option maxRecDepth 100000 in
set_option maxHeartbeats 2000000 in
theorem fiatMul (x y b o ba oa bb ob : Nat) (hx : x < P) (hy : y < P) (w : World) (ha : El w ba oa x) (hb : El w bb ob y) (ho : Wt w b o) :
    Calls Tryd.prog 42 #[.pointer (some ⟨b, o, none⟩), .pointer (some ⟨ba, oa, none⟩), .pointer (some ⟨bb, ob, none⟩)] w fun e w' => e = .returned (.tuple #[]) ∧ Wr w b o (lim (mt x y)) w' := by
  have HW := Lib.hid ho
  obtain ⟨ha, ha'⟩ := ha
  obtain ⟨hb, hb'⟩ := hb
  obtain ⟨a0, a1, ea0, ea1, p0, p1, p2, p3, ea⟩ := split128 x hx
  obtain ⟨b0, b1, eb0, eb1, s0, s1, s2, s3, eb⟩ := split128 y hy
  rw [← ea0] at ha
  rw [← ea1] at ha'
  rw [← eb0] at hb
  rw [← eb1] at hb'
  obtain ⟨u4, u3, m1, u40, u41, u30, u31, f1⟩ := mulC a0 b1 p0 s2 (w64 p1) (w64 s3)
  obtain ⟨u6, u5, m2, u60, u61, u50, u51, f2⟩ := mulC a0 b0 p0 s0 (w64 p1) (w64 s1)
  obtain ⟨u7, u8, m3, u70, u71, u80, u81, f3⟩ := addC u6 u3 0 u60 u30 kz0 kz1 u61 u31
  obtain ⟨u9, f4⟩ : ∃ u9, IntKind.u64.wrap (u8 + u4) = u9 := ⟨_, rfl⟩
  have g4 : u9 = (u8 + u4) % 18446744073709551616 := by rw [← f4, IntKind.wrap_u64]
  have r1 := row_num (a0 * b0) (a0 * b1) u3 u4 u5 u6 u7 u8 u9 (prod_le p0 p1 s2 s3) u30 u31 u40 f1 f2 u80 u81 f3 g4
  obtain ⟨r1, u90, u91⟩ := r1
  obtain ⟨u11, u10, m5, u110, u111, u100, u101, f5⟩ := mulC u5 18446744073709551615 u50 kmx0 u51 kmx1
  obtain ⟨u13, u12, m6, u130, u131, u120, u121, f6⟩ := mulC u10 18446744073709551588 u100 kp0 u101 kp1
  obtain ⟨u14, u15, m7, u140, u141, u150, u151, f7⟩ := addC u5 u10 0 u50 u100 kz0 kz1 u51 u101
  obtain ⟨u16, u17, m8, u160, u161, u170, u171, f8⟩ := addC u7 u12 u15 u70 u120 u150 u151 u71 u121
  obtain ⟨u18, u19, m9, u180, u181, u190, u191, f9⟩ := addC u9 u13 u17 u90 u130 u170 u171 (w64 u91) u131
  obtain ⟨u21, u20, m10, u210, u211, u200, u201, f10⟩ := mulC a1 b1 p2 s2 (w64 p3) (w64 s3)
  obtain ⟨u23, u22, m11, u230, u231, u220, u221, f11⟩ := mulC a1 b0 p2 s0 (w64 p3) (w64 s1)
  obtain ⟨u24, u25, m12, u240, u241, u250, u251, f12⟩ := addC u23 u20 0 u230 u200 kz0 kz1 u231 u201
  obtain ⟨u26, f13⟩ : ∃ u26, IntKind.u64.wrap (u25 + u21) = u26 := ⟨_, rfl⟩
  have g13 : u26 = (u25 + u21) % 18446744073709551616 := by rw [← f13, IntKind.wrap_u64]
  obtain ⟨r2, u260, u261⟩ := row_num (a1 * b0) (a1 * b1) u20 u21 u22 u23 u24 u25 u26 (prod_le p2 p3 s2 s3) u200 u201 u210 f10 f11 u250 u251 f12 g13
  obtain ⟨u27, u28, m14, u270, u271, u280, u281, f14⟩ := addC u16 u22 0 u160 u220 kz0 kz1 u161 u221
  obtain ⟨u29, v30, m15, u290, u291, v300, v301, f15⟩ := addC u18 u24 u28 u180 u240 u280 u281 u181 u241
  obtain ⟨v31, u32, m16, v310, v311, u320, u321, f16⟩ := addC u19 u26 v30 u190 u260 v300 v301 (bit64 u191) (w64 u261)
  obtain ⟨u34, u33, m17, u340, u341, u330, u331, f17⟩ := mulC u27 18446744073709551615 u270 kmx0 u271 kmx1
  obtain ⟨u36, u35, m18, u360, u361, u350, u351, f18⟩ := mulC u33 18446744073709551588 u330 kp0 u331 kp1
  obtain ⟨u37, u38, m19, u370, u371, u380, u381, f19⟩ := addC u27 u33 0 u270 u330 kz0 kz1 u271 u331
  obtain ⟨u39, v40, m20, u390, u391, v400, v401, f20⟩ := addC u29 u35 u38 u290 u350 u380 u381 u291 u351
  obtain ⟨v41, u42, m21, v410, v411, u420, u421, f21⟩ := addC v31 u36 v40 v310 u360 v400 v401 v311 u361
  obtain ⟨u43, f22⟩ : ∃ u43, IntKind.u64.wrap (u42 + u32) = u43 := ⟨_, rfl⟩
  have g22 : u43 = u42 + u32 := by rw [← f22]; exact wrap_two u420 u421 u320 u321
  have w430 : 0 ≤ u43 := by rw [g22]; exact Int.add_nonneg u420 u320
  have w431 : u43 < M64 := by rw [g22]; exact two_lt u421 u321
  obtain ⟨u44, u45, m23, u440, u441, u450, u451, f23⟩ := subC u39 1 0 u390 kone0 kz0 kz1 u391 kone1
  obtain ⟨u46, u47, m24, u460, u461, u470, u471, f24⟩ := subC v41 18446744073709551588 u45 v410 kp0 u450 u451 v411 kp1
  obtain ⟨u48, u49, m25, u480, u481, u490, u491, f25⟩ := subC u43 0 u47 w430 kz0 u470 u471 w431 kzM
  have hz := split_mul a0 a1 b0 b1
  rw [ea, eb] at hz
  have d1 := red_num u5 u7 u9 u11 u10 u13 u12 u14 u15 u16 u17 u18 u19 u140 u141 f5 f6 f7 f8 f9
  have d2 := red_num u27 u29 v31 u34 u33 u36 u35 u37 u38 u39 v40 v41 u42 u370 u371 f17 f18 f19 f20 f21
  have d3 := mid_sum u16 u18 u19 u22 u24 u26 u27 u29 v31 u28 v30 u32 f14 f15 f16
  have d4 : (u39 + v41 * 18446744073709551616 + (u42 + u32) * 340282366920938463463374607431768211456) * 18446744073709551616 = (u27 + u29 * 18446744073709551616 + v31 * 340282366920938463463374607431768211456 + u32 * 6277101735386680763835789423207666416102355444464034512896) + u33 * 340282366920938462946865773367900766209 := by
    clear f1 f2 f3 f5 f6 f7 f8 f9 f10 f11 f12 f14 f15 f16 f17 f18 f19 f20 f21 f23 f24 f25 d1 d3 hz r1 r2
    omega
  have d5 := mont_sum _ _ _ _ _ _ _ _ _ u10 u33 r1 r2 d1 d3 d4
  rw [← hz] at d5
  have hx' : (x : Int) ≤ 340282366920938462946865773367900766208 := le_P hx
  have hy' : (y : Int) ≤ 340282366920938462946865773367900766208 := le_P hy
  have hzz : (x : Int) * (y : Int) ≤ 340282366920938462946865773367900766208 * 340282366920938462946865773367900766208 := Int.mul_le_mul hx' hy' (Int.natCast_nonneg _) kbig
  have hz0 : 0 ≤ (x : Int) * (y : Int) := Int.mul_nonneg (Int.natCast_nonneg _) (Int.natCast_nonneg _)
  have hQ0 : 0 ≤ u10 + u33 * 18446744073709551616 := q_lo u100 u330
  have hQ1 : u10 + u33 * 18446744073709551616 < 340282366920938463463374607431768211456 := q_hi u101 u331
  rw [← g22] at d5
  have d6 := fin_num _ _ _ u39 v41 u43 u44 u45 u46 u47 u48 u49 hz0 hzz hQ0 hQ1 d5 rfl u390 u391 v410 v411 w430 u440 u441 u450 u451 f23 u460 u461 u470 u471 f24 u480 u481 u490 u491 f25
  have hm : ((mt x y : Nat) : Int) = ((x : Int) * (y : Int) * 340282366920938462430356939304033321744) % 340282366920938462946865773367900766209 := by
    unfold mt ri P
    rw [Int.natCast_emod, Int.natCast_mul, Int.natCast_mul]; rfl
  rw [← hm] at d6
  have hj := join128 (x := mt x y) (a := sel u49 u44 u39) (b := sel u49 u46 v41) (by unfold sel; split <;> assumption) (by unfold sel; split <;> assumption) d6
  have HR := Lib.hid hj
  have HO := Lib.hid ho.lt
  obtain ⟨v1, hv1⟩ : ∃ v1, v1 = sel u49 u44 u39 := ⟨_, rfl⟩
  obtain ⟨v2, hv2⟩ : ∃ v2, v2 = sel u49 u46 v41 := ⟨_, rfl⟩
  have HV1 := Lib.hid hv1
  have HV2 := Lib.hid hv2
  have M1 := Lib.hid m1
  have M2 := Lib.hid m2
  have M5 := Lib.hid m5
  have M6 := Lib.hid m6
  have M10 := Lib.hid m10
  have M11 := Lib.hid m11
  have M17 := Lib.hid m17
  have M18 := Lib.hid m18
  clear hj hm d1 d2 d3 d4 d5 d6 hz hzz hz0 hx' hy' hQ0 hQ1 hv1 hv2 ho r1 r2 g4 g13 g22 f1 f2 f3 f5 f6 f7 f8 f9 f10 f11 f12 f14 f15 f16 f17 f18 f19 f20 f21 f23 f24 f25 ea eb ea0 ea1 eb0 eb1 p0 p1 p2 p3 s0 s1 s2 s3 m1 m2 m5 m6 m10 m11 m17 m18
  go_enter Tryd.func42, Tryd.ntmps42
  go_wp2_with fail
  refine (M1.out _).mono ?_
  rintro e w1 ⟨rfl, rfl⟩
  go_wp2_with fail
  refine (M2.out _).mono ?_
  rintro e w1 ⟨rfl, rfl⟩
  go_wp2_with fail
  refine (M5.out _).mono ?_
  rintro e w1 ⟨rfl, rfl⟩
  go_wp2_with fail
  refine (M6.out _).mono ?_
  rintro e w1 ⟨rfl, rfl⟩
  go_wp2_with fail
  refine (M10.out _).mono ?_
  rintro e w1 ⟨rfl, rfl⟩
  go_wp2_with fail
  refine (M11.out _).mono ?_
  rintro e w1 ⟨rfl, rfl⟩
  go_wp2_with fail
  refine (M17.out _).mono ?_
  rintro e w1 ⟨rfl, rfl⟩
  go_wp2_with fail
  refine (M18.out _).mono ?_
  rintro e w1 ⟨rfl, rfl⟩
  go_wp2_with fail
  clear ha ha' hb hb'
  refine (cmov_any u44 u39 u49 u440 u390 u441 u391 u490 u491 _ _ ?hc ?hf).mono ?_
  case hc => exact ⟨.int .u64 0, box_cell rfl rfl⟩
  case hf => exact box_free rfl
  rintro e w1 ⟨rfl, hw⟩
  obtain ⟨hb1, c1, hs1⟩ := box_set (w0 := w) hw
  have B1 := Lib.hid hb1
  have C1 := Lib.hid (show w1.cell? ⟨w.heap.size, 0, none⟩ = some (.int .u64 (sel u49 u44 u39)) from c1)
  rw [← HV1.out] at C1
  clear hw hb1 c1 hs1
  go_wp2_with fail
  refine (cmov_any u46 v41 u49 u460 v410 u461 v411 u490 u491 _ _ ?hc2 ?hf2).mono ?_
  case hc2 => exact ⟨.int .u64 0, box_cell rfl rfl⟩
  case hf2 => exact box_free rfl
  rintro e w2 ⟨rfl, hw⟩
  obtain ⟨hb2, c2, _⟩ := box_set hw
  rw [← HV2.out] at c2
  obtain ⟨n2, hn2⟩ : ∃ n2, n2 = w1.heap.size := ⟨_, rfl⟩
  have T2 := TwoBox.of B1.out C1.out hb2 c2 HW.out
  rw [← hn2] at T2 ⊢
  have hne : n2 ≠ b := by have := B1.out.size; have := HO.out; omega
  have hne' : b ≠ n2 := fun e => hne e.symm
  clear hw hb2 c2 hn2
  obtain ⟨tb, k1, k2, ⟨g0, o0⟩, f0, ⟨g1, o1⟩, f1⟩ := T2
  have TB := Lib.hid tb
  clear tb
  go_wp2_with fail
  go_region
  go_wp2_with fail
  go_region
  go_end0
  refine ⟨rfl, Wr.two' TB.out HO.out (by rw [HV1.out]; exact HR.out.1) (by rw [HV2.out]; exact HR.out.2)⟩
end Go.Proofs.YtimihpddlinmbaaDoor
