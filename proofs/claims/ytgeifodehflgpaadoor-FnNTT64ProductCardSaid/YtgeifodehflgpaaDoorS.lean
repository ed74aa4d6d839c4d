/-
  The reference over the field of 64 bits: an element's number, the field, what is below the order.
-/
import Derived.Test.YtgeifodehflgpaaDoorQ
import Derived.Test.YtgeifodehflgpaaDoorM
import Derived.Deep.RegionWith
namespace Go.Proofs.YtgeifodehflgpaaDoor
open Go.RowKit
set_option linter.unusedVariables false
set_option linter.unusedSimpArgs false

def blw (a0 a1 b0 b1 : Int) : Bool := decide (a1 < b1) || (a1 == b1 && decide (a0 < b0))

theorem ret_bool {a b : Bool} (h : a = b) : Ending.returned (.bool a) = Ending.returned (.bool b) := by rw [h]

set_option maxRecDepth 100000 in
set_option maxHeartbeats 1000000 in
theorem below_any (a0 a1 b0 b1 : Int) (w : World) :
    Calls Tryd.prog 28 #[.agg #[.int .u64 a0, .int .u64 a1], .agg #[.int .u64 b0, .int .u64 b1]] w fun e w' => e = .returned (.bool (blw a0 a1 b0 b1)) ∧ Below w.heap.size w w' := by
  have hb : Hid (Below w.heap.size w ((w.alloc (.cells #[Value.int IntKind.u64 a0, Value.int IntKind.u64 a1] 35)).alloc (.cells #[Value.int IntKind.u64 b0, Value.int IntKind.u64 b1] 35))) := ((Below.refl _ w).alloc (Nat.le_refl _) _).alloc (by simp) _
  by_cases h1 : a1 < b1
  · have hr := Lib.hid (show blw a0 a1 b0 b1 = true by unfold blw; simp [h1])
    have h2 : decide (a1 < b1) = true := by simp [h1]
    go_enter Tryd.func28, Tryd.ntmps28
    go_wp2_with fail
    go_ret
    exact ⟨ret_bool (by rw [hr.out]), hb.out⟩
  · have h2 : decide (a1 < b1) = false := by simp [h1]
    by_cases h3 : a1 = b1
    · have h4 : (a1 == b1) = true := by simp [h3]
      by_cases h5 : a0 < b0
      · have hr := Lib.hid (show blw a0 a1 b0 b1 = true by unfold blw; simp [h3, h5])
        have h6 : decide (a0 < b0) = true := by simp [h5]
        have H3 := Lib.hid h3
        clear h3
        go_enter Tryd.func28, Tryd.ntmps28
        go_wp2_with fail
        go_ret
        exact ⟨ret_bool (by rw [hr.out]), hb.out⟩
      · have hr := Lib.hid (show blw a0 a1 b0 b1 = false by unfold blw; simp [h3, h5])
        have h6 : decide (a0 < b0) = false := by simp [h5]
        have H3 := Lib.hid h3
        clear h3
        go_enter Tryd.func28, Tryd.ntmps28
        go_wp2_with fail
        go_ret
        exact ⟨ret_bool (by rw [hr.out]), hb.out⟩
    · have hr := Lib.hid (show blw a0 a1 b0 b1 = false by unfold blw; simp [h1, h3])
      have h4 : (a1 == b1) = false := by simp [h3]
      go_enter Tryd.func28, Tryd.ntmps28
      go_wp2_with fail
      go_ret
      exact ⟨ret_bool (by rw [hr.out]), hb.out⟩

theorem own_cells {w w2 : World} {n : Nat} {vs : List Value} (hb : Below w.heap.size w w2) (hn : w.heap.size ≤ n) (hc : ∀ j, j < vs.length → ∃ v, w2.cell? ⟨n, j, none⟩ = some v) :
    Below w.heap.size w (w2.setCells n 0 vs) ∧ ∀ j (hj : j < vs.length), (w2.setCells n 0 vs).cell? ⟨n, j, none⟩ = some vs[j] := by
  have r := setCells_rest n vs 0 w2
  refine ⟨hb.trans ⟨r.1, r.2.1, r.2.2, by rw [size_setCells]; exact Nat.le_refl _, fun k hk => heap_setCells _ _ _ _ _ (by omega)⟩, fun j hj => ?_⟩
  have := World.cell?_setCells_in n vs 0 w2 (fun i hi => by obtain ⟨v, hv⟩ := hc i hi; rw [Nat.zero_add, hv]; rfl) j hj
  rwa [Nat.zero_add] at this

/-- The field, as the reference has it. -/
def FV : Value := .agg #[.int .u64 18446744069414584321, .int .u64 0, .int .i64 64, .int .i64 32]

set_option maxRecDepth 100000 in
set_option maxHeartbeats 1000000 in
theorem field64 (w : World) : Calls Tryd.prog 25 #[] w fun e w' => e = .returned FV ∧ Below w.heap.size w w' := by
  go_enter Tryd.func25, Tryd.ntmps25
  go_wp2_with fail
  have hb : Below w.heap.size w (w.alloc (.cells #[Value.int .u64 18446744069414584321, .int .u64 0, .int .i64 64, .int .i64 32] 37)) := (Below.refl _ w).alloc (Nat.le_refl _) _
  have d0 : (w.alloc (.cells #[Value.int .u64 18446744069414584321, .int .u64 0, .int .i64 64, .int .i64 32] 37)).cell? ⟨w.heap.size, 0, none⟩ = some (.int .u64 18446744069414584321) := box_cell rfl rfl
  have d1 : (w.alloc (.cells #[Value.int .u64 18446744069414584321, .int .u64 0, .int .i64 64, .int .i64 32] 37)).cell? ⟨w.heap.size, 1, none⟩ = some (.int .u64 0) := box_cell rfl rfl
  have d2 : (w.alloc (.cells #[Value.int .u64 18446744069414584321, .int .u64 0, .int .i64 64, .int .i64 32] 37)).cell? ⟨w.heap.size, 2, none⟩ = some (.int .i64 64) := box_cell rfl rfl
  have d3 : (w.alloc (.cells #[Value.int .u64 18446744069414584321, .int .u64 0, .int .i64 64, .int .i64 32] 37)).cell? ⟨w.heap.size, 3, none⟩ = some (.int .i64 32) := box_cell rfl rfl
  generalize w.alloc (.cells #[Value.int .u64 18446744069414584321, .int .u64 0, .int .i64 64, .int .i64 32] 37) = w5 at *
  unfold FV
  exact bodyPost_ret (v := .agg #[.int .u64 18446744069414584321, .int .u64 0, .int .i64 64, .int .i64 32]) (by simp [results, Tryd.results25, go_sem, d0, d1, d2, d3]) rfl ⟨rfl, hb⟩

set_option maxRecDepth 100000 in
set_option maxHeartbeats 1000000 in
theorem f64_yes (w : World) : Calls Tryd.prog 11 #[] w fun e w' => e = .returned FV ∧ Below w.heap.size w w' := by
  go_enter Tryd.func11, Tryd.ntmps11
  go_wp2_with fail
  obtain ⟨w1, hw1⟩ : ∃ w1, w1 = w.alloc (.cells #[Value.int .u64 0, .int .u64 0, .int .i64 0, .int .i64 0] 37) := ⟨_, rfl⟩
  have hb1 : Below w.heap.size w w1 := by rw [hw1]; exact (Below.refl _ w).alloc (Nat.le_refl _) _
  have hs1 : w1.heap.size = w.heap.size + 1 := by rw [hw1]; simp
  have q0 : w1.cell? ⟨w.heap.size, 0, none⟩ = some (.int .u64 0) := by rw [hw1]; exact box_cell rfl rfl
  have q1 : w1.cell? ⟨w.heap.size, 1, none⟩ = some (.int .u64 0) := by rw [hw1]; exact box_cell rfl rfl
  have q2 : w1.cell? ⟨w.heap.size, 2, none⟩ = some (.int .i64 0) := by rw [hw1]; exact box_cell rfl rfl
  have q3 : w1.cell? ⟨w.heap.size, 3, none⟩ = some (.int .i64 0) := by rw [hw1]; exact box_cell rfl rfl
  have z : ∀ j, w1.frozen? ⟨w.heap.size, j, none⟩ = false := fun j => by rw [hw1]; exact box_free rfl
  rw [← hw1]
  clear hw1
  refine (field64 w1).mono ?_
  rintro e w2 ⟨rfl, hb2⟩
  have hl : ∀ j : Nat, (⟨w.heap.size, j, none⟩ : Addr).block < w1.heap.size := fun j => by simp; omega
  rw [← hb2.cell (hl 0)] at q0
  rw [← hb2.cell (hl 1)] at q1
  rw [← hb2.cell (hl 2)] at q2
  rw [← hb2.cell (hl 3)] at q3
  have z0 := z 0
  have z1 := z 1
  have z2 := z 2
  have z3 := z 3
  rw [← hb2.frozen (hl 0)] at z0
  rw [← hb2.frozen (hl 1)] at z1
  rw [← hb2.frozen (hl 2)] at z2
  rw [← hb2.frozen (hl 3)] at z3
  have B2 := Lib.hid (hb1.trans (hb2.mono hb1.size))
  clear hb1 hb2 hs1 z hl
  have Q0 := Lib.hid q0
  have Q1 := Lib.hid q1
  have Q2 := Lib.hid q2
  have Q3 := Lib.hid q3
  unfold FV
  go_wp2_with fail
  obtain ⟨hb5, hc5⟩ := own_cells (n := w.heap.size) (vs := [.int .u64 18446744069414584321, .int .u64 0, .int .i64 64, .int .i64 32]) B2.out (Nat.le_refl _) (fun j hj => by
    rcases j with _ | _ | _ | _ | j
    · exact ⟨_, Q0.out⟩
    · exact ⟨_, Q1.out⟩
    · exact ⟨_, Q2.out⟩
    · exact ⟨_, Q3.out⟩
    · simp at hj; omega)
  obtain ⟨w5, hw5⟩ : ∃ w5, w5 = w2.setCells w.heap.size 0 [.int .u64 18446744069414584321, .int .u64 0, .int .i64 64, .int .i64 32] := ⟨_, rfl⟩
  rw [← hw5] at hb5 hc5
  have d0 := hc5 0 (by simp)
  have d1 := hc5 1 (by simp)
  have d2 := hc5 2 (by simp)
  have d3 := hc5 3 (by simp)
  simp only [World.setCells, Nat.zero_add, Nat.reduceAdd] at hw5
  rw [← hw5]
  simp only [List.getElem_cons_zero, List.getElem_cons_succ] at d0 d1 d2 d3
  exact bodyPost_ret (v := .agg #[.int .u64 18446744069414584321, .int .u64 0, .int .i64 64, .int .i64 32]) (by simp [results, Tryd.results11, go_sem, d0, d1, d2, d3]) rfl ⟨rfl, hb5⟩

set_option maxRecDepth 100000 in
set_option maxHeartbeats 1000000 in
theorem n64_yes (x : Nat) (hx : x < 18446744073709551616) (w : World) : Calls Tryd.prog 19 #[.agg (bts 8 x).toArray] w fun e w' => e = .returned (wv x) ∧ Below w.heap.size w w' := by
  have HX := Lib.hid hx
  clear hx
  go_enter Tryd.func19, Tryd.ntmps19
  go_wp2_with fail
  obtain ⟨w1, hw1⟩ : ∃ w1, w1 = (w.alloc (.cells (bts 8 x).toArray 30)).alloc (.cells #[Value.int .u64 0, .int .u64 0] 35) := ⟨_, rfl⟩
  have hb1 : Below w.heap.size w w1 := by rw [hw1]; exact ((Below.refl _ w).alloc (Nat.le_refl _) _).alloc (by simp) _
  have hs1 : w1.heap.size = w.heap.size + 2 := by rw [hw1]; simp
  have hy1 : By w1 w.heap.size 0 8 x := by
    rw [hw1]; intro j hj
    exact cell_past _ (box_cell rfl (by simp [bts, hj]))
  have q0 : w1.cell? ⟨w.heap.size + 1, 0, none⟩ = some (.int .u64 0) := by rw [hw1]; exact box_cell (by simp) rfl
  have q1 : w1.cell? ⟨w.heap.size + 1, 1, none⟩ = some (.int .u64 0) := by rw [hw1]; exact box_cell (by simp) rfl
  have z : ∀ j, w1.frozen? ⟨w.heap.size + 1, j, none⟩ = false := fun j => by rw [hw1]; exact box_free (by simp)
  rw [← hw1]
  clear hw1
  refine (number x w.heap.size 0 8 HX.out w1 hy1).mono ?_
  rintro e w2 ⟨rfl, hb2⟩
  have hl : ∀ j : Nat, (⟨w.heap.size + 1, j, none⟩ : Addr).block < w1.heap.size := fun j => by simp; omega
  rw [← hb2.cell (hl 0)] at q0
  rw [← hb2.cell (hl 1)] at q1
  have z0 := z 0
  have z1 := z 1
  rw [← hb2.frozen (hl 0)] at z0
  rw [← hb2.frozen (hl 1)] at z1
  have B2 := Lib.hid (hb1.trans (hb2.mono hb1.size))
  have Q0 := Lib.hid q0
  have Q1 := Lib.hid q1
  clear hb1 hb2 hs1 z hl hy1
  unfold wv wlo whi
  go_wp2_with fail
  obtain ⟨w3, hw3, hb3, d0, d1⟩ := own_two (x := .int .u64 ((lo64 x : Nat) : Int)) (y := .int .u64 ((hi64 x : Nat) : Int)) B2.out (by omega) Q0.out Q1.out
  rw [← hw3]
  exact bodyPost_ret (v := .agg #[.int .u64 ((lo64 x : Nat) : Int), .int .u64 ((hi64 x : Nat) : Int)]) (by simp [results, Tryd.results19, go_sem, d0, d1]) rfl ⟨rfl, hb3⟩

/-- Whether a number is below the order, as the reference says it. -/
def hasB (x : Nat) : Bool := blw ((lo64 x : Nat) : Int) ((hi64 x : Nat) : Int) 18446744069414584321 0

theorem hasB_iff (x : Nat) (hx : x < 18446744073709551616) : hasB x = decide (x < P) := by
  unfold hasB blw
  rw [lo64_lt hx, hi64_lt hx]
  unfold P
  by_cases h : x < 18446744069414584321
  · have : (x : Int) < 18446744069414584321 := by omega
    simp [h, this]
  · have : ¬ (x : Int) < 18446744069414584321 := by omega
    simp [h, this]

set_option maxRecDepth 100000 in
set_option maxHeartbeats 1000000 in
theorem has_yes (x : Nat) (w : World) : Calls Tryd.prog 44 #[FV, wv x] w fun e w' => e = .returned (.bool (hasB x)) ∧ Below w.heap.size w w' := by
  unfold FV wv wlo whi
  go_enter Tryd.func44, Tryd.ntmps44
  go_wp2_with fail
  have hb1 : Below w.heap.size w ((w.alloc (.cells #[Value.int .u64 18446744069414584321, .int .u64 0, .int .i64 64, .int .i64 32] 37)).alloc (.cells #[Value.int IntKind.u64 ((lo64 x : Nat) : Int), Value.int IntKind.u64 ((hi64 x : Nat) : Int)] 35)) := ((Below.refl _ w).alloc (Nat.le_refl _) _).alloc (by simp) _
  refine (below_any _ _ _ _ _).mono ?_
  rintro e w2 ⟨rfl, hb2⟩
  have B2 := Lib.hid (hb1.trans (hb2.mono hb1.size))
  clear hb1 hb2
  have hh := Lib.hid (show blw ((lo64 x : Nat) : Int) ((hi64 x : Nat) : Int) 18446744069414584321 0 = hasB x from rfl)
  generalize blw ((lo64 x : Nat) : Int) ((hi64 x : Nat) : Int) 18446744069414584321 0 = bb at *
  go_wp2_with fail
  go_ret
  exact ⟨ret_bool hh.out, B2.out⟩

/-- Whether all are below the order. -/
def hasAll (n : Nat) (f : Nat → Nat) : Bool := decide (∀ i, i < n → f i < P)

theorem box_by {w0 : World} {n x : Nat} (h : n = w0.heap.size) : By (w0.alloc (.cells #[Value.int .u8 ((bt x 0 : Nat) : Int), .int .u8 ((bt x 1 : Nat) : Int), .int .u8 ((bt x 2 : Nat) : Int), .int .u8 ((bt x 3 : Nat) : Int), .int .u8 ((bt x 4 : Nat) : Int), .int .u8 ((bt x 5 : Nat) : Int), .int .u8 ((bt x 6 : Nat) : Int), .int .u8 ((bt x 7 : Nat) : Int)] 30)) n 0 8 x := by
  intro j hj
  refine box_cell h ?_
  rcases j with _ | _ | _ | _ | _ | _ | _ | _ | j <;> first | rfl | omega

set_option maxRecDepth 100000 in
set_option maxHeartbeats 1000000 in
theorem hasAll_yes (n b o cp : Nat) (f : Nat → Nat) (hn : n ≤ 4096) (hf : ∀ i, i < n → f i < 18446744073709551616) (w : World) (hr : BRow w b o n f) :
    Calls Tryd.prog 29 #[.slice (some ⟨b, o, none⟩) n cp] w fun e w' => e = .returned (.bool (hasAll n f)) ∧ Below w.heap.size w w' := by
  have HF := Lib.hid hf
  have HR := Lib.hid hr
  clear hf hr
  go_enter Tryd.func29, Tryd.ntmps29
  go_wp2_with fail
  obtain ⟨w1, hw1⟩ : ∃ w1, w1 = w := ⟨_, rfl⟩
  have hi1 : Below w.heap.size w w1 := by rw [hw1]; exact Below.refl _ _
  rw [← hw1]
  clear hw1
  go_loopw [7] (fun i wr => ∃ k : Nat, k ≤ n ∧ i = .int .i64 k ∧ Hid (∀ i, i < k → f i < P) ∧ Hid (Below w.heap.size w wr)) (fun i _ => n - (intOf i).toNat)
  case atStart => exact ⟨0, Nat.zero_le _, rfl, fun i hi => by omega, hi1⟩
  case round =>
    obtain ⟨k, hk, rfl, HP, HI⟩ := hrel
    clear hi1
    by_cases hlt : k < n
    · have Hlt := Lib.hid hlt
      have hy : By wr b (o + k * 8) 8 (f k) := (HR.out k hlt).keep HI.out ((HR.out k hlt).lt (by omega))
      have y0 := hy 0 (by omega)
      have y1 := hy 1 (by omega)
      have y2 := hy 2 (by omega)
      have y3 := hy 3 (by omega)
      have y4 := hy 4 (by omega)
      have y5 := hy 5 (by omega)
      have y6 := hy 6 (by omega)
      have y7 := hy 7 (by omega)
      simp only [Nat.add_zero] at y0
      clear hy
      go_wp2_with fail
      clear y0 y1 y2 y3 y4 y5 y6 y7
      obtain ⟨w2, hw2⟩ : ∃ w2, w2 = wr.alloc (.cells #[Value.int .u8 ((bt (f k) 0 : Nat) : Int), .int .u8 ((bt (f k) 1 : Nat) : Int), .int .u8 ((bt (f k) 2 : Nat) : Int), .int .u8 ((bt (f k) 3 : Nat) : Int), .int .u8 ((bt (f k) 4 : Nat) : Int), .int .u8 ((bt (f k) 5 : Nat) : Int), .int .u8 ((bt (f k) 6 : Nat) : Int), .int .u8 ((bt (f k) 7 : Nat) : Int)] 30) := ⟨_, rfl⟩
      rw [← hw2]
      have hb2 : Below wr.heap.size wr w2 := by rw [hw2]; exact (Below.refl _ wr).alloc (Nat.le_refl _) _
      have hs2 : w2.heap.size = wr.heap.size + 1 := by rw [hw2]; simp
      have hy2 : By w2 wr.heap.size 0 8 (f k) := by rw [hw2]; exact box_by rfl
      clear hw2
      have c0 := hy2 0 (by omega)
      have c1 := hy2 1 (by omega)
      have c2 := hy2 2 (by omega)
      have c3 := hy2 3 (by omega)
      have c4 := hy2 4 (by omega)
      have c5 := hy2 5 (by omega)
      have c6 := hy2 6 (by omega)
      have c7 := hy2 7 (by omega)
      simp only [Nat.zero_add] at c0 c1 c2 c3 c4 c5 c6 c7
      have K11 := Lib.hid (show ∀ W, Hid (Below w2.heap.size w2 W) → Calls Tryd.prog 11 #[] W fun e w' => e = .returned FV ∧ Hid (Below w2.heap.size w2 w') ∧ (∀ j, j < 8 → w'.cell? ⟨wr.heap.size, j, none⟩ = some (.int .u8 ((bt (f k) j : Nat) : Int))) from by
        intro W hW
        refine (f64_yes W).mono ?_
        rintro e w' ⟨he, hb⟩
        have h3 := Below.trans hW.out (hb.mono hW.out.size)
        refine ⟨he, h3, fun j hj => ?_⟩
        rw [h3.cell (by simp; omega)]
        have := hy2 j hj
        rwa [Nat.zero_add] at this)
      have K19 := Lib.hid (show ∀ W, Hid (Below w2.heap.size w2 W) → Calls Tryd.prog 19 #[.agg (bts 8 (f k)).toArray] W fun e w' => e = .returned (wv (f k)) ∧ Hid (Below w2.heap.size w2 w') from by
        intro W hW
        refine (n64_yes (f k) (HF.out k hlt) W).mono ?_
        rintro e w' ⟨he, hb⟩
        exact ⟨he, Below.trans hW.out (hb.mono hW.out.size)⟩)
      obtain ⟨bb, hbb⟩ : ∃ bb, bb = hasB (f k) := ⟨_, rfl⟩
      have HBB := Lib.hid (show bb = decide (f k < P) by rw [hbb]; exact hasB_iff (f k) (HF.out k hlt))
      have K44 := Lib.hid (show ∀ W, Hid (Below w2.heap.size w2 W) → Calls Tryd.prog 44 #[FV, wv (f k)] W fun e w' => e = .returned (.bool bb) ∧ Hid (Below w2.heap.size w2 w') from by
        intro W hW
        rw [hbb]
        refine (has_yes (f k) W).mono ?_
        rintro e w' ⟨he, hb⟩
        exact ⟨he, Below.trans hW.out (hb.mono hW.out.size)⟩)
      clear hbb
      rw [bts8] at K19
      have S2 := Lib.hid hs2
      have B2 := Lib.hid hb2
      clear hb2 hs2 hy2
      rcases bb with _ | _
      all_goals go_region_with (first
        | (go_at_call 11; refine (K11.out _ (by first | assumption | exact (Below.refl _ _).drew)).mono ?_; rintro e w3 ⟨rfl, h3, q⟩; have q0 := q 0 (by omega); have q1 := q 1 (by omega); have q2 := q 2 (by omega); have q3 := q 3 (by omega); have q4 := q 4 (by omega); have q5 := q 5 (by omega); have q6 := q 6 (by omega); have q7 := q 7 (by omega); clear q)
        | (go_at_call 19; refine (K19.out _ (by first | assumption | exact (Below.refl _ _).drew)).mono ?_; rintro e w4 ⟨rfl, h4⟩)
        | (go_at_call 44; refine (K44.out _ (by assumption)).mono ?_; rintro e w5 ⟨rfl, h5⟩))
      all_goals have B5 := Lib.hid (HI.out.trans ((B2.out.mono HI.out.size).trans (h5.out.mono (by have := S2.out; have := HI.out.size; omega))))
      all_goals clear K11 K19 K44 c0 c1 c2 c3 c4 c5 c6 c7 h5 h4
      all_goals have hx : True := trivial
      all_goals go_wp2_with fail
      all_goals first
        | (go_ret; exact ⟨ret_bool (decide_eq_false (fun h => by have h6 := h k Hlt.out; rw [show decide (f k < P) = true from decide_eq_true h6] at HBB; exact Bool.noConfusion HBB.out)).symm, B5.out⟩)
        | (go_roundw
           case rel => exact ⟨k + 1, by omega, by go_num, fun i hi => if e : i = k then by rw [e]; exact of_decide_eq_true HBB.out.symm else HP.out i (by omega), B5.out⟩
           case measure => simp [intOf]; omega)
    · go_wp2_with fail
      go_ret
      obtain rfl : k = n := by omega
      exact ⟨ret_bool (decide_eq_true HP.out).symm, HI.out⟩
end Go.Proofs.YtgeifodehflgpaaDoor
