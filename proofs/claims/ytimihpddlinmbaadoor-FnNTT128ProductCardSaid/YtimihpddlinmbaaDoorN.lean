/-
  The field of 128 bits: the thin package's product, and its list times an element.
-/
import Derived.Test.YtimihpddlinmbaaDoorM
import Derived.BigGuardPart
namespace Go.Proofs.YtimihpddlinmbaaDoor
open Go.RowKit
set_option linter.unusedVariables false
set_option linter.unusedSimpArgs false

/-- A new list of n elements as bytes came back, and true. -/
def GotRow (w : World) (n : Nat) (g : Nat → Nat) (e : Ending) (w' : World) : Prop :=
  ∃ nb, e = .returned (.tuple #[.slice (some ⟨nb, 0, none⟩) n n, .bool true]) ∧ w.heap.size ≤ nb ∧ nb < w'.heap.size ∧ BRow w' nb 0 n g ∧ Below w.heap.size w w'

theorem box16 {w0 : World} {n x : Nat} (h : n = w0.heap.size) : By (w0.alloc (.cells (bts 16 x).toArray 30)) n 0 16 x := by
  intro j hj
  exact box_cell h (by simp [bts, hj])

set_option maxRecDepth 100000 in
set_option maxHeartbeats 1000000 in
theorem vecScale_yes (n b o cp s : Nat) (f : Nat → Nat) (h1 : 0 < n) (hn : n ≤ 4096) (hf : ∀ i, i < n → f i < P) (hs : s < P) (w : World) (hg : Glob w) (hr : BRow w b o n f) :
    Calls Tryd.prog 20 #[.slice (some ⟨b, o, none⟩) n cp, .agg (bts 16 s).toArray] w (GotRow w n (fun i => mt (mt (mt (f i) rsq) (mt s rsq)) 1)) := by
  have HF := Lib.hid hf
  have HS := Lib.hid hs
  have HG := Lib.hid hg
  have HR := Lib.hid hr
  have HB := Lib.hid ((hr 0 h1).lt (by omega))
  have H1 := Lib.hid h1
  clear hf hs hg hr h1
  go_enter Tryd.func20, Tryd.ntmps20
  go_wp2_with fail
  have hb1 : Below w.heap.size w (w.alloc (.cells (bts 16 s).toArray 30)) := (Below.refl _ w).alloc (Nat.le_refl _) _
  have hs1 : (w.alloc (.cells (bts 16 s).toArray 30)).heap.size = w.heap.size + 1 := by simp
  have hy1 : By (w.alloc (.cells (bts 16 s).toArray 30)) w.heap.size 0 16 s := box16 rfl
  generalize w.alloc (.cells (bts 16 s).toArray 30) = w1 at *
  have K := list_yes n b o cp f hn HF.out w1 (HG.out.keep hb1 HG.out.size5) (HR.out.keep hb1 HB.out) (fun _ => by have := HB.out; omega)
  rw [hs1] at K
  refine K.mono ?_
  rintro e w2 ⟨rfl, hr2, hb2⟩
  have hy2 : By w2 w.heap.size 0 16 s := hy1.keep hb2 (by omega)
  have hb2' := hb1.trans (hb2.mono (by omega))
  have hs2 : w.heap.size + 2 ≤ w2.heap.size := by have := (hr2 0 H1.out).1.lt; omega
  have y0 := hy2 0 (by omega)
  have y1 := hy2 1 (by omega)
  have y2 := hy2 2 (by omega)
  have y3 := hy2 3 (by omega)
  have y4 := hy2 4 (by omega)
  have y5 := hy2 5 (by omega)
  have y6 := hy2 6 (by omega)
  have y7 := hy2 7 (by omega)
  have y8 := hy2 8 (by omega)
  have y9 := hy2 9 (by omega)
  have y10 := hy2 10 (by omega)
  have y11 := hy2 11 (by omega)
  have y12 := hy2 12 (by omega)
  have y13 := hy2 13 (by omega)
  have y14 := hy2 14 (by omega)
  have y15 := hy2 15 (by omega)
  simp only [Nat.zero_add] at y0 y1 y2 y3 y4 y5 y6 y7 y8 y9 y10 y11 y12 y13 y14 y15
  have R2 := Lib.hid hr2
  have B2 := Lib.hid hb2'
  have S2 := Lib.hid hs2
  clear K hb1 hs1 hy1 hr2 hb2 hy2 hb2' hs2
  go_wp2_with fail
  have K := of_yes s HS.out w2 (HG.out.keep B2.out HG.out.size5)
  rw [bts16] at K
  refine K.mono ?_
  rintro e w3 ⟨rfl, hb3⟩
  have B3 := Lib.hid hb3
  clear K hb3 y0 y1 y2 y3 y4 y5 y6 y7 y8 y9 y10 y11 y12 y13 y14 y15
  unfold lim
  go_wp2_with fail
  have hb4 : Below w3.heap.size w3 (w3.alloc (.cells #[Value.int IntKind.u64 ((lo64 (mt s rsq) : Nat) : Int), Value.int IntKind.u64 ((hi64 (mt s rsq) : Nat) : Int)] 53)) := (Below.refl _ w3).alloc (Nat.le_refl _) _
  have hb4' : Below w2.heap.size w2 (w3.alloc (.cells #[Value.int IntKind.u64 ((lo64 (mt s rsq) : Nat) : Int), Value.int IntKind.u64 ((hi64 (mt s rsq) : Nat) : Int)] 53)) := B3.out.trans (hb4.mono B3.out.size)
  refine (scalarMul n (w.heap.size + 1) n w3.heap.size 0 (mt s rsq) (w.heap.size + 1) (fun i => mt (f i) rsq) hn (fun i _ => mt_lt _ _) (mt_lt _ _) (by have := S2.out; have := B3.out.size; omega) (Nat.le_refl _) _ (by have := S2.out; have := B3.out.size; simp; omega) (R2.out.keep hb4' (by have := S2.out; omega)) (El.box rfl rfl)).mono ?_
  rintro e w5 ⟨rfl, hr5, hb5⟩
  have B5 := Lib.hid (B2.out.trans ((hb4'.mono B2.out.size).trans (hb5.mono (by omega))))
  have R5 := Lib.hid hr5
  clear hb4 hb4' hr5 hb5
  go_wp2_with fail
  refine (all_yes n (w.heap.size + 1) n _ hn (fun i _ => mt_lt _ _) w5 (fun i hi => (R5.out i hi).1)).mono ?_
  rintro e w6 ⟨rfl, hr6, hb6⟩
  have G := Lib.hid (show GotRow w n (fun i => mt (mt (mt (f i) rsq) (mt s rsq)) 1) (.returned (.tuple #[.slice (some ⟨w5.heap.size, 0, none⟩) n n, .bool true])) w6 from
    ⟨w5.heap.size, rfl, B5.out.size, (hr6 0 H1.out).lt (by omega), hr6, B5.out.trans (hb6.mono B5.out.size)⟩)
  clear hr6 hb6
  go_wp2_with fail
  go_ret2
  exact G.out

set_option maxRecDepth 100000 in
set_option maxHeartbeats 1000000 in
theorem mul_yes (x y : Nat) (hx : x < P) (hy : y < P) (w : World) (hg : Glob w) :
    Calls Tryd.prog 10 #[.agg (bts 16 x).toArray, .agg (bts 16 y).toArray] w fun e w' => e = .returned (.tuple #[.agg (bts 16 (mt (mt (mt x rsq) (mt y rsq)) 1)).toArray, .bool true]) ∧ Below w.heap.size w w' := by
  have HX := Lib.hid hx
  have HY := Lib.hid hy
  have HG := Lib.hid hg
  clear hx hy hg
  have g0 : (bts 16 x)[0]? = some (.int .u8 ((bt x 0 : Nat) : Int)) := rfl
  have g1 : (bts 16 x)[1]? = some (.int .u8 ((bt x 1 : Nat) : Int)) := rfl
  have g2 : (bts 16 x)[2]? = some (.int .u8 ((bt x 2 : Nat) : Int)) := rfl
  have g3 : (bts 16 x)[3]? = some (.int .u8 ((bt x 3 : Nat) : Int)) := rfl
  have g4 : (bts 16 x)[4]? = some (.int .u8 ((bt x 4 : Nat) : Int)) := rfl
  have g5 : (bts 16 x)[5]? = some (.int .u8 ((bt x 5 : Nat) : Int)) := rfl
  have g6 : (bts 16 x)[6]? = some (.int .u8 ((bt x 6 : Nat) : Int)) := rfl
  have g7 : (bts 16 x)[7]? = some (.int .u8 ((bt x 7 : Nat) : Int)) := rfl
  have g8 : (bts 16 x)[8]? = some (.int .u8 ((bt x 8 : Nat) : Int)) := rfl
  have g9 : (bts 16 x)[9]? = some (.int .u8 ((bt x 9 : Nat) : Int)) := rfl
  have g10 : (bts 16 x)[10]? = some (.int .u8 ((bt x 10 : Nat) : Int)) := rfl
  have g11 : (bts 16 x)[11]? = some (.int .u8 ((bt x 11 : Nat) : Int)) := rfl
  have g12 : (bts 16 x)[12]? = some (.int .u8 ((bt x 12 : Nat) : Int)) := rfl
  have g13 : (bts 16 x)[13]? = some (.int .u8 ((bt x 13 : Nat) : Int)) := rfl
  have g14 : (bts 16 x)[14]? = some (.int .u8 ((bt x 14 : Nat) : Int)) := rfl
  have g15 : (bts 16 x)[15]? = some (.int .u8 ((bt x 15 : Nat) : Int)) := rfl
  go_enter Tryd.func10, Tryd.ntmps10
  go_wp2_with fail
  clear g0 g1 g2 g3 g4 g5 g6 g7 g8 g9 g10 g11 g12 g13 g14 g15
  obtain ⟨w1, hw1⟩ : ∃ w1, w1 = ((w.alloc (.cells (bts 16 x).toArray 30)).alloc (.cells (bts 16 y).toArray 30)).alloc (.cells z16 30) := ⟨_, rfl⟩
  unfold z16 at hw1
  rw [← hw1]
  have hb1 : Below w.heap.size w w1 := by rw [hw1]; exact (((Below.refl _ w).alloc (Nat.le_refl _) _).alloc (by simp) _).alloc (by simp; omega) _
  have hs1 : w1.heap.size = w.heap.size + 3 := by rw [hw1]; simp
  have hr1 : ∀ j, j < 16 → w1.cell? ⟨w.heap.size + 1 + 1, j, none⟩ = some (.int .u8 0) ∧ w1.frozen? ⟨w.heap.size + 1 + 1, j, none⟩ = false := by rw [hw1]; exact zeros16 (by simp)
  have hy1 : By w1 (w.heap.size + 1) 0 16 y := by
    rw [hw1]; intro j hj; exact cell_past _ (box16 (by simp) j hj)
  clear hw1
  have K := of_yes x HX.out w1 (HG.out.keep hb1 HG.out.size5)
  rw [bts16] at K
  refine K.mono ?_
  rintro e w2 ⟨rfl, hb2⟩
  clear K
  have hz2 : w.heap.size + 3 ≤ w2.heap.size := by have := hb2.size; omega
  have hy2 : By w2 (w.heap.size + 1) 0 16 y := hy1.keep hb2 (by omega)
  have hr2 : ∀ j, j < 16 → w2.cell? ⟨w.heap.size + 1 + 1, j, none⟩ = some (.int .u8 0) ∧ w2.frozen? ⟨w.heap.size + 1 + 1, j, none⟩ = false := by
    intro j hj; rw [hb2.cell (by simp; omega), hb2.frozen (by simp; omega)]; exact hr1 j hj
  have B2 := Lib.hid (hb1.trans (hb2.mono hb1.size))
  clear hb1 hs1 hr1 hy1 hb2
  -- the first element's box
  obtain ⟨w3, hw3⟩ : ∃ w3, w3 = w2.alloc (.cells #[Value.int IntKind.u64 ((lo64 (mt x rsq) : Nat) : Int), Value.int IntKind.u64 ((hi64 (mt x rsq) : Nat) : Int)] 53) := ⟨_, rfl⟩
  have hb3 : Below w2.heap.size w2 w3 := by rw [hw3]; exact (Below.refl _ w2).alloc (Nat.le_refl _) _
  have hs3 : w3.heap.size = w2.heap.size + 1 := by rw [hw3]; simp
  have hx3 : El w3 w2.heap.size 0 (mt x rsq) := by rw [hw3]; exact El.box rfl rfl
  have hy3 : By w3 (w.heap.size + 1) 0 16 y := hy2.keep hb3 (by omega)
  have hr3 : ∀ j, j < 16 → w3.cell? ⟨w.heap.size + 1 + 1, j, none⟩ = some (.int .u8 0) ∧ w3.frozen? ⟨w.heap.size + 1 + 1, j, none⟩ = false := by
    intro j hj; rw [hb3.cell (by simp; omega), hb3.frozen (by simp; omega)]; exact hr2 j hj
  have B3 := Lib.hid (B2.out.trans (hb3.mono B2.out.size))
  have y0 := hy3 0 (by omega)
  have y1 := hy3 1 (by omega)
  have y2 := hy3 2 (by omega)
  have y3 := hy3 3 (by omega)
  have y4 := hy3 4 (by omega)
  have y5 := hy3 5 (by omega)
  have y6 := hy3 6 (by omega)
  have y7 := hy3 7 (by omega)
  have y8 := hy3 8 (by omega)
  have y9 := hy3 9 (by omega)
  have y10 := hy3 10 (by omega)
  have y11 := hy3 11 (by omega)
  have y12 := hy3 12 (by omega)
  have y13 := hy3 13 (by omega)
  have y14 := hy3 14 (by omega)
  have y15 := hy3 15 (by omega)
  simp only [Nat.zero_add, hw3] at y0 y1 y2 y3 y4 y5 y6 y7 y8 y9 y10 y11 y12 y13 y14 y15
  have HW3 := Lib.hid hw3
  have Z2 := Lib.hid hz2
  have S3 := Lib.hid hs3
  have X3 := Lib.hid hx3
  have R3 := Lib.hid hr3
  clear hw3 hz2 hs3 hx3 hy2 hr2 hb3 hy3 hr3
  unfold lim
  go_wp2_with fail
  clear y0 y1 y2 y3 y4 y5 y6 y7 y8 y9 y10 y11 y12 y13 y14 y15
  rw [← HW3.out]
  have K := of_yes y HY.out w3 (HG.out.keep B3.out HG.out.size5)
  rw [bts16] at K
  refine K.mono ?_
  rintro e w4 ⟨rfl, hb4⟩
  clear K
  have hz4 : w2.heap.size + 1 ≤ w4.heap.size := by have := hb4.size; have := S3.out; omega
  have hx4 : El w4 w2.heap.size 0 (mt x rsq) := X3.out.keep hb4 (by have := S3.out; omega)
  have hr4 : ∀ j, j < 16 → w4.cell? ⟨w.heap.size + 1 + 1, j, none⟩ = some (.int .u8 0) ∧ w4.frozen? ⟨w.heap.size + 1 + 1, j, none⟩ = false := by
    intro j hj; rw [hb4.cell (by have := S3.out; have := Z2.out; simp; omega), hb4.frozen (by have := S3.out; have := Z2.out; simp; omega)]; exact R3.out j hj
  have B4 := Lib.hid (B3.out.trans (hb4.mono B3.out.size))
  have Z4 := Lib.hid hz4
  have X4 := Lib.hid hx4
  have R4 := Lib.hid hr4
  clear hb4 hz4 hx4 hr4
  unfold lim
  go_wp2_with fail
  obtain ⟨w5, hw5⟩ : ∃ w5, w5 = (w4.alloc (.cells #[Value.int IntKind.u64 ((lo64 (mt y rsq) : Nat) : Int), Value.int IntKind.u64 ((hi64 (mt y rsq) : Nat) : Int)] 53)).alloc (.cells #[Value.int IntKind.u64 0, Value.int IntKind.u64 0] 53) := ⟨_, rfl⟩
  rw [← hw5]
  have hb5 : Below w4.heap.size w4 w5 := by rw [hw5]; exact ((Below.refl _ w4).alloc (Nat.le_refl _) _).alloc (by simp) _
  have hy5 : El w5 w4.heap.size 0 (mt y rsq) := by rw [hw5]; exact El.past _ (El.box rfl rfl)
  have ho5 : Wt w5 (w4.heap.size + 1) 0 := by rw [hw5]; exact Wt.box (by simp)
  have hs5 : w5.heap.size = w4.heap.size + 2 := by rw [hw5]; simp
  clear hw5
  refine (fpMul (mt x rsq) (mt y rsq) (w4.heap.size + 1) 0 w2.heap.size 0 w4.heap.size 0 (mt_lt _ _) (mt_lt _ _) w5 (X4.out.keep hb5 Z4.out) hy5 ho5).mono ?_
  rintro e w6 ⟨rfl, h6⟩
  obtain ⟨hc6, hc6'⟩ := El.of_wr ho5 h6
  simp only [Nat.zero_add] at hc6'
  have hb6 := hb5.trans (h6.keep (B := w4.heap.size) (by omega) (by omega))
  have B6 := Lib.hid (B4.out.trans (hb6.mono B4.out.size))
  have hr6 : ∀ j, j < 16 → w6.cell? ⟨w.heap.size + 1 + 1, j, none⟩ = some (.int .u8 0) ∧ w6.frozen? ⟨w.heap.size + 1 + 1, j, none⟩ = false := by
    intro j hj; rw [hb6.cell (by have := Z4.out; have := Z2.out; simp; omega), hb6.frozen (by have := Z4.out; have := Z2.out; simp; omega)]; exact R4.out j hj
  have R6 := Lib.hid hr6
  have Z6 := Lib.hid (show w.heap.size + 3 ≤ w6.heap.size by have := Z4.out; have := Z2.out; have := hb6.size; omega)
  clear hb5 hy5 ho5 hs5 h6 hb6 hr6
  go_wp2_with fail
  have K := told (mt (mt x rsq) (mt y rsq)) (mt_lt _ _) w6
  rw [bts16] at K
  refine K.mono ?_
  rintro e w7 ⟨rfl, hb7⟩
  clear K
  have hq : ∀ j, j < 16 → w7.cell? ⟨w.heap.size + 1 + 1, j, none⟩ = some (.int .u8 0) ∧ w7.frozen? ⟨w.heap.size + 1 + 1, j, none⟩ = false := by
    intro j hj; rw [hb7.cell (by have := Z6.out; simp; omega), hb7.frozen (by have := Z6.out; simp; omega)]; exact R6.out j hj
  have B7 := Lib.hid (B6.out.trans (hb7.mono B6.out.size))
  obtain ⟨c0, f0⟩ := hq 0 (by omega)
  obtain ⟨c1, f1⟩ := hq 1 (by omega)
  obtain ⟨c2, f2⟩ := hq 2 (by omega)
  obtain ⟨c3, f3⟩ := hq 3 (by omega)
  obtain ⟨c4, f4⟩ := hq 4 (by omega)
  obtain ⟨c5, f5⟩ := hq 5 (by omega)
  obtain ⟨c6, f6⟩ := hq 6 (by omega)
  obtain ⟨c7, f7⟩ := hq 7 (by omega)
  obtain ⟨c8, f8⟩ := hq 8 (by omega)
  obtain ⟨c9, f9⟩ := hq 9 (by omega)
  obtain ⟨c10, f10⟩ := hq 10 (by omega)
  obtain ⟨c11, f11⟩ := hq 11 (by omega)
  obtain ⟨c12, f12⟩ := hq 12 (by omega)
  obtain ⟨c13, f13⟩ := hq 13 (by omega)
  obtain ⟨c14, f14⟩ := hq 14 (by omega)
  obtain ⟨c15, f15⟩ := hq 15 (by omega)
  have HQ := Lib.hid hq
  clear hb7 hq hc6 hc6'
  go_wp2_with fail
  rw [← setCells16z]
  obtain ⟨hb8, hy8⟩ := own_bytes (n := w.heap.size + 1 + 1) (x := mt (mt (mt x rsq) (mt y rsq)) 1) B7.out (by omega) (fun j hj => ⟨_, (HQ.out j hj).1⟩)
  have d0 := hy8 0 (by omega)
  have d1 := hy8 1 (by omega)
  have d2 := hy8 2 (by omega)
  have d3 := hy8 3 (by omega)
  have d4 := hy8 4 (by omega)
  have d5 := hy8 5 (by omega)
  have d6 := hy8 6 (by omega)
  have d7 := hy8 7 (by omega)
  have d8 := hy8 8 (by omega)
  have d9 := hy8 9 (by omega)
  have d10 := hy8 10 (by omega)
  have d11 := hy8 11 (by omega)
  have d12 := hy8 12 (by omega)
  have d13 := hy8 13 (by omega)
  have d14 := hy8 14 (by omega)
  have d15 := hy8 15 (by omega)
  generalize w7.setCells (w.heap.size + 1 + 1) 0 (bts 16 (mt (mt (mt x rsq) (mt y rsq)) 1)) = w8 at *
  rw [bts16]
  exact bodyPost_ret (v := .tuple #[.agg #[Value.int IntKind.u8 ((bt (mt (mt (mt x rsq) (mt y rsq)) 1) 0 : Nat) : Int), Value.int IntKind.u8 ((bt (mt (mt (mt x rsq) (mt y rsq)) 1) 1 : Nat) : Int), Value.int IntKind.u8 ((bt (mt (mt (mt x rsq) (mt y rsq)) 1) 2 : Nat) : Int), Value.int IntKind.u8 ((bt (mt (mt (mt x rsq) (mt y rsq)) 1) 3 : Nat) : Int), Value.int IntKind.u8 ((bt (mt (mt (mt x rsq) (mt y rsq)) 1) 4 : Nat) : Int), Value.int IntKind.u8 ((bt (mt (mt (mt x rsq) (mt y rsq)) 1) 5 : Nat) : Int), Value.int IntKind.u8 ((bt (mt (mt (mt x rsq) (mt y rsq)) 1) 6 : Nat) : Int), Value.int IntKind.u8 ((bt (mt (mt (mt x rsq) (mt y rsq)) 1) 7 : Nat) : Int), Value.int IntKind.u8 ((bt (mt (mt (mt x rsq) (mt y rsq)) 1) 8 : Nat) : Int), Value.int IntKind.u8 ((bt (mt (mt (mt x rsq) (mt y rsq)) 1) 9 : Nat) : Int), Value.int IntKind.u8 ((bt (mt (mt (mt x rsq) (mt y rsq)) 1) 10 : Nat) : Int), Value.int IntKind.u8 ((bt (mt (mt (mt x rsq) (mt y rsq)) 1) 11 : Nat) : Int), Value.int IntKind.u8 ((bt (mt (mt (mt x rsq) (mt y rsq)) 1) 12 : Nat) : Int), Value.int IntKind.u8 ((bt (mt (mt (mt x rsq) (mt y rsq)) 1) 13 : Nat) : Int), Value.int IntKind.u8 ((bt (mt (mt (mt x rsq) (mt y rsq)) 1) 14 : Nat) : Int), Value.int IntKind.u8 ((bt (mt (mt (mt x rsq) (mt y rsq)) 1) 15 : Nat) : Int)], .bool true]) (by simp [results, Tryd.results10, go_sem, d0, d1, d2, d3, d4, d5, d6, d7, d8, d9, d10, d11, d12, d13, d14, d15]) rfl ⟨rfl, hb8⟩
end Go.Proofs.YtimihpddlinmbaaDoor
