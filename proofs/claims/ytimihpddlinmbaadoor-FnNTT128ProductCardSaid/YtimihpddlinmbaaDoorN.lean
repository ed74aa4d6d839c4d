/-
  The field of 128 bits: the thin package's product, and its list times an element.
-/
import Derived.Test.YtimihpddlinmbaaDoorM
import Derived.BigGuardPart
namespace Go.Proofs.YtimihpddlinmbaaDoor
open Go.RowKit
set_option linter.unusedVariables false
set_option linter.unusedSimpArgs false

/-- A new list of n elements as bytes came back, and true. -/
def GotRow (w : World) (n : Nat) (g : Nat → Nat) (e : Ending) (w' : World) : Prop :=
  ∃ nb, e = .returned (.tuple #[.slice (some ⟨nb, 0, none⟩) n n, .bool true]) ∧ w.heap.size ≤ nb ∧ nb < w'.heap.size ∧ BRow w' nb 0 n g ∧ Below w.heap.size w w'

theorem box16 {w0 : World} {n x : Nat} (h : n = w0.heap.size) : By (w0.alloc (.cells (bts 16 x).toArray 30)) n 0 16 x := by
  intro j hj
  exact box_cell h (by simp [bts, hj])

set_option maxRecDepth 100000 in
set_option maxHeartbeats 1000000 in
theorem vecScale_yes (n b o cp s : Nat) (f : Nat → Nat) (h1 : 0 < n) (hn : n ≤ 4096) (hf : ∀ i, i < n → f i < P) (hs : s < P) (w : World) (hg : Glob w) (hr : BRow w b o n f) :
    Calls Tryd.prog 20 #[.slice (some ⟨b, o, none⟩) n cp, .agg (bts 16 s).toArray] w (GotRow w n (fun i => mt (mt (mt (f i) rsq) (mt s rsq)) 1)) := by
  have HF := Lib.hid hf
  have HS := Lib.hid hs
  have HG := Lib.hid hg
  have HR := Lib.hid hr
  have HB := Lib.hid ((hr 0 h1).lt (by omega))
  have H1 := Lib.hid h1
  clear hf hs hg hr h1
  go_enter Tryd.func20, Tryd.ntmps20
  go_wp2_with fail
  have hb1 : Below w.heap.size w (w.alloc (.cells (bts 16 s).toArray 30)) := (Below.refl _ w).alloc (Nat.le_refl _) _
  have hs1 : (w.alloc (.cells (bts 16 s).toArray 30)).heap.size = w.heap.size + 1 := by simp
  have hy1 : By (w.alloc (.cells (bts 16 s).toArray 30)) w.heap.size 0 16 s := box16 rfl
  generalize w.alloc (.cells (bts 16 s).toArray 30) = w1 at *
  have K := list_yes n b o cp f hn HF.out w1 (HG.out.keep hb1 HG.out.size5) (HR.out.keep hb1 HB.out) (fun _ => by have := HB.out; omega)
  rw [hs1] at K
  refine K.mono ?_
  rintro e w2 ⟨rfl, hr2, hb2⟩
  have hy2 : By w2 w.heap.size 0 16 s := hy1.keep hb2 (by omega)
  have hb2' := hb1.trans (hb2.mono (by omega))
  have hs2 : w.heap.size + 2 ≤ w2.heap.size := by have := (hr2 0 H1.out).1.lt; omega
  have Y2 := Lib.hid hy2
  have R2 := Lib.hid hr2
  have B2 := Lib.hid hb2'
  have S2 := Lib.hid hs2
  clear K hb1 hs1 hy1 hr2 hb2 hy2 hb2' hs2
  go_wp2_with ((with_reducible refine wpList_load16 ?_ (.tmp 3) ?_ w.heap.size 0 s ?_ Y2.out ?_); rfl; rfl; rfl)
  have K := of_yes s HS.out w2 (HG.out.keep B2.out HG.out.size5)
  refine K.mono ?_
  rintro e w3 ⟨rfl, hb3⟩
  have B3 := Lib.hid hb3
  clear K hb3
  unfold lim
  go_wp2_with fail
  have hb4 : Below w3.heap.size w3 (w3.alloc (.cells #[Value.int IntKind.u64 ((lo64 (mt s rsq) : Nat) : Int), Value.int IntKind.u64 ((hi64 (mt s rsq) : Nat) : Int)] 53)) := (Below.refl _ w3).alloc (Nat.le_refl _) _
  have hb4' : Below w2.heap.size w2 (w3.alloc (.cells #[Value.int IntKind.u64 ((lo64 (mt s rsq) : Nat) : Int), Value.int IntKind.u64 ((hi64 (mt s rsq) : Nat) : Int)] 53)) := B3.out.trans (hb4.mono B3.out.size)
  refine (scalarMul n (w.heap.size + 1) n w3.heap.size 0 (mt s rsq) (w.heap.size + 1) (fun i => mt (f i) rsq) hn (fun i _ => mt_lt _ _) (mt_lt _ _) (by have := S2.out; have := B3.out.size; omega) (Nat.le_refl _) _ (by have := S2.out; have := B3.out.size; simp; omega) (R2.out.keep hb4' (by have := S2.out; omega)) (El.box rfl rfl)).mono ?_
  rintro e w5 ⟨rfl, hr5, hb5⟩
  have B5 := Lib.hid (B2.out.trans ((hb4'.mono B2.out.size).trans (hb5.mono (by omega))))
  have R5 := Lib.hid hr5
  clear hb4 hb4' hr5 hb5
  go_wp2_with fail
  refine (all_yes n (w.heap.size + 1) n _ hn (fun i _ => mt_lt _ _) w5 (fun i hi => (R5.out i hi).1)).mono ?_
  rintro e w6 ⟨rfl, hr6, hb6⟩
  have G := Lib.hid (show GotRow w n (fun i => mt (mt (mt (f i) rsq) (mt s rsq)) 1) (.returned (.tuple #[.slice (some ⟨w5.heap.size, 0, none⟩) n n, .bool true])) w6 from
    ⟨w5.heap.size, rfl, B5.out.size, (hr6 0 H1.out).lt (by omega), hr6, B5.out.trans (hb6.mono B5.out.size)⟩)
  clear hr6 hb6
  go_wp2_with fail
  go_ret2
  exact G.out

set_option maxRecDepth 100000 in
set_option maxHeartbeats 1000000 in
theorem mul_yes (x y : Nat) (hx : x < P) (hy : y < P) (w : World) (hg : Glob w) :
    Calls Tryd.prog 10 #[.agg (bts 16 x).toArray, .agg (bts 16 y).toArray] w fun e w' => e = .returned (.tuple #[.agg (bts 16 (mt (mt (mt x rsq) (mt y rsq)) 1)).toArray, .bool true]) ∧ Below w.heap.size w w' := by
  have HX := Lib.hid hx
  have HY := Lib.hid hy
  have HG := Lib.hid hg
  clear hx hy hg
  obtain ⟨AX, hAX⟩ : ∃ A, A = (bts 16 x).toArray := ⟨_, rfl⟩
  obtain ⟨AY, hAY⟩ : ∃ A, A = (bts 16 y).toArray := ⟨_, rfl⟩
  rw [← hAX, ← hAY]
  have HAX := Lib.hid hAX
  have HAY := Lib.hid hAY
  clear hAX hAY
  have X1 := Lib.hid (show By (((w.alloc (.cells AX 30)).alloc (.cells AY 30)).alloc (.cells z16 30)) w.heap.size 0 16 x from by
    rw [HAX.out]; intro j hj; exact cell_past _ (cell_past _ (box16 rfl j hj)))
  unfold z16 at X1
  go_enter Tryd.func10, Tryd.ntmps10
  go_wp2_with ((with_reducible refine wpList_load16 ?_ (.tmp 2) ?_ w.heap.size 0 x ?_ X1.out ?_); rfl; rfl; rfl)
  clear X1
  obtain ⟨w1, hw1⟩ : ∃ w1, w1 = ((w.alloc (.cells AX 30)).alloc (.cells AY 30)).alloc (.cells z16 30) := ⟨_, rfl⟩
  have hb1 : Below w.heap.size w w1 := by rw [hw1]; exact (((Below.refl _ w).alloc (Nat.le_refl _) _).alloc (by simp) _).alloc (by simp; omega) _
  have hs1 : w1.heap.size = w.heap.size + 3 := by rw [hw1]; simp
  have hy1 : By w1 (w.heap.size + 1) 0 16 y := by
    rw [hw1, HAY.out]; intro j hj; exact cell_past _ (box16 (by simp) j hj)
  have hr1 : Sp w1 (w.heap.size + 1 + 1) 0 := by rw [hw1]; exact Sp.new (by simp)
  unfold z16 at hw1
  rw [← hw1]
  clear hw1
  have K := of_yes x HX.out w1 (HG.out.keep hb1 HG.out.size5)
  refine K.mono ?_
  rintro e w2 ⟨rfl, hb2⟩
  clear K
  have hz2 : w.heap.size + 3 ≤ w2.heap.size := by have := hb2.size; omega
  have hy2 : By w2 (w.heap.size + 1) 0 16 y := hy1.keep hb2 (by omega)
  have hr2 : Sp w2 (w.heap.size + 1 + 1) 0 := hr1.keep hb2 hr1.lt
  have B2 := Lib.hid (hb1.trans (hb2.mono hb1.size))
  clear hb1 hs1 hr1 hy1 hb2
  -- the first element's box
  obtain ⟨w3, hw3⟩ : ∃ w3, w3 = w2.alloc (.cells #[Value.int IntKind.u64 ((lo64 (mt x rsq) : Nat) : Int), Value.int IntKind.u64 ((hi64 (mt x rsq) : Nat) : Int)] 53) := ⟨_, rfl⟩
  have hb3 : Below w2.heap.size w2 w3 := by rw [hw3]; exact (Below.refl _ w2).alloc (Nat.le_refl _) _
  have hs3 : w3.heap.size = w2.heap.size + 1 := by rw [hw3]; simp
  have hx3 : El w3 w2.heap.size 0 (mt x rsq) := by rw [hw3]; exact El.box rfl rfl
  have hy3 : By w3 (w.heap.size + 1) 0 16 y := hy2.keep hb3 (by omega)
  have hr3 : Sp w3 (w.heap.size + 1 + 1) 0 := hr2.keep hb3 hr2.lt
  have B3 := Lib.hid (B2.out.trans (hb3.mono B2.out.size))
  have Y3 := Lib.hid hy3
  rw [hw3] at Y3
  have HW3 := Lib.hid hw3
  have Z2 := Lib.hid hz2
  have S3 := Lib.hid hs3
  have X3 := Lib.hid hx3
  have R3 := Lib.hid hr3
  clear hw3 hz2 hs3 hx3 hy2 hr2 hb3 hy3 hr3
  unfold lim
  go_wp2_with ((with_reducible refine wpList_load16 ?_ (.tmp 3) ?_ (w.heap.size + 1) 0 y ?_ Y3.out ?_); rfl; rfl; rfl)
  clear Y3
  rw [← HW3.out]
  have K := of_yes y HY.out w3 (HG.out.keep B3.out HG.out.size5)
  refine K.mono ?_
  rintro e w4 ⟨rfl, hb4⟩
  clear K
  have hz4 : w2.heap.size + 1 ≤ w4.heap.size := by have := hb4.size; have := S3.out; omega
  have hx4 : El w4 w2.heap.size 0 (mt x rsq) := X3.out.keep hb4 (by have := S3.out; omega)
  have hr4 : Sp w4 (w.heap.size + 1 + 1) 0 := R3.out.keep hb4 R3.out.lt
  have B4 := Lib.hid (B3.out.trans (hb4.mono B3.out.size))
  have Z4 := Lib.hid hz4
  have X4 := Lib.hid hx4
  have R4 := Lib.hid hr4
  clear hb4 hz4 hx4 hr4
  unfold lim
  go_wp2_with fail
  obtain ⟨w5, hw5⟩ : ∃ w5, w5 = (w4.alloc (.cells #[Value.int IntKind.u64 ((lo64 (mt y rsq) : Nat) : Int), Value.int IntKind.u64 ((hi64 (mt y rsq) : Nat) : Int)] 53)).alloc (.cells #[Value.int IntKind.u64 0, Value.int IntKind.u64 0] 53) := ⟨_, rfl⟩
  rw [← hw5]
  have hb5 : Below w4.heap.size w4 w5 := by rw [hw5]; exact ((Below.refl _ w4).alloc (Nat.le_refl _) _).alloc (by simp) _
  have hy5 : El w5 w4.heap.size 0 (mt y rsq) := by rw [hw5]; exact El.past _ (El.box rfl rfl)
  have ho5 : Wt w5 (w4.heap.size + 1) 0 := by rw [hw5]; exact Wt.box (by simp)
  have hs5 : w5.heap.size = w4.heap.size + 2 := by rw [hw5]; simp
  clear hw5
  refine (fpMul (mt x rsq) (mt y rsq) (w4.heap.size + 1) 0 w2.heap.size 0 w4.heap.size 0 (mt_lt _ _) (mt_lt _ _) w5 (X4.out.keep hb5 Z4.out) hy5 ho5).mono ?_
  rintro e w6 ⟨rfl, h6⟩
  obtain ⟨hc6, hc6'⟩ := El.of_wr ho5 h6
  simp only [Nat.zero_add] at hc6'
  have hb6 := hb5.trans (h6.keep (B := w4.heap.size) (by omega) (by omega))
  have B6 := Lib.hid (B4.out.trans (hb6.mono B4.out.size))
  have hr6 : Sp w6 (w.heap.size + 1 + 1) 0 := R4.out.keep hb6 R4.out.lt
  have R6 := Lib.hid hr6
  have Z6 := Lib.hid (show w.heap.size + 3 ≤ w6.heap.size by have := Z4.out; have := Z2.out; have := hb6.size; omega)
  clear hb5 hy5 ho5 hs5 h6 hb6 hr6
  go_wp2_with fail
  have K := told (mt (mt x rsq) (mt y rsq)) (mt_lt _ _) w6
  obtain ⟨A, hA⟩ : ∃ A, A = (bts 16 (mt (mt (mt x rsq) (mt y rsq)) 1)).toArray := ⟨_, rfl⟩
  rw [← hA] at K
  have HA := Lib.hid hA
  clear hA
  refine K.mono ?_
  rintro e w7 ⟨rfl, hb7⟩
  clear K
  have HQ := Lib.hid (R6.out.keep hb7 R6.out.lt)
  have B7 := Lib.hid (B6.out.trans (hb7.mono B6.out.size))
  clear hb7 hc6 hc6'
  go_wp2_with ((with_reducible refine wpList_store16 ?_ (.tmp 4) (.tmp 30) ?_ (w.heap.size + 1 + 1) 0 (mt (mt (mt x rsq) (mt y rsq)) 1) ?_ HA.out ?_ HQ.out ?_); rfl; rfl; rfl; rfl)
  exact bodyPost_ret (results16' Tryd.results10 _ _ (w.heap.size + 1 + 1) (mt (mt (mt x rsq) (mt y rsq)) 1) rfl (HQ.out.stored _)) rfl ⟨rfl, Below.stored B7.out (by omega)⟩
end Go.Proofs.YtimihpddlinmbaaDoor
