/-
  The reference over the field of 128 bits: an element's number, the field, what is below the order.
-/
import Derived.Test.YtimihpddlinmbaaDoorQ
import Derived.Test.YtimihpddlinmbaaDoorM
import Derived.Deep.RegionWith
namespace Go.Proofs.YtimihpddlinmbaaDoor
open Go.RowKit
set_option linter.unusedVariables false
set_option linter.unusedSimpArgs false

def blw (a0 a1 b0 b1 : Int) : Bool := decide (a1 < b1) || (a1 == b1 && decide (a0 < b0))

theorem ret_bool {a b : Bool} (h : a = b) : Ending.returned (.bool a) = Ending.returned (.bool b) := by rw [h]

set_option maxRecDepth 100000 in
set_option maxHeartbeats 1000000 in
theorem below_any (a0 a1 b0 b1 : Int) (w : World) :
    Calls Tryd.prog 28 #[.agg #[.int .u64 a0, .int .u64 a1], .agg #[.int .u64 b0, .int .u64 b1]] w fun e w' => e = .returned (.bool (blw a0 a1 b0 b1)) ∧ Below w.heap.size w w' := by
  have hb : Hid (Below w.heap.size w ((w.alloc (.cells #[Value.int IntKind.u64 a0, Value.int IntKind.u64 a1] 35)).alloc (.cells #[Value.int IntKind.u64 b0, Value.int IntKind.u64 b1] 35))) := ((Below.refl _ w).alloc (Nat.le_refl _) _).alloc (by simp) _
  by_cases h1 : a1 < b1
  · have hr := Lib.hid (show blw a0 a1 b0 b1 = true by unfold blw; simp [h1])
    have h2 : decide (a1 < b1) = true := by simp [h1]
    go_enter Tryd.func28, Tryd.ntmps28
    go_wp2_with fail
    go_ret
    exact ⟨ret_bool (by rw [hr.out]), hb.out⟩
  · have h2 : decide (a1 < b1) = false := by simp [h1]
    by_cases h3 : a1 = b1
    · have h4 : (a1 == b1) = true := by simp [h3]
      by_cases h5 : a0 < b0
      · have hr := Lib.hid (show blw a0 a1 b0 b1 = true by unfold blw; simp [h3, h5])
        have h6 : decide (a0 < b0) = true := by simp [h5]
        have H3 := Lib.hid h3
        clear h3
        go_enter Tryd.func28, Tryd.ntmps28
        go_wp2_with fail
        go_ret
        exact ⟨ret_bool (by rw [hr.out]), hb.out⟩
      · have hr := Lib.hid (show blw a0 a1 b0 b1 = false by unfold blw; simp [h3, h5])
        have h6 : decide (a0 < b0) = false := by simp [h5]
        have H3 := Lib.hid h3
        clear h3
        go_enter Tryd.func28, Tryd.ntmps28
        go_wp2_with fail
        go_ret
        exact ⟨ret_bool (by rw [hr.out]), hb.out⟩
    · have hr := Lib.hid (show blw a0 a1 b0 b1 = false by unfold blw; simp [h1, h3])
      have h4 : (a1 == b1) = false := by simp [h3]
      go_enter Tryd.func28, Tryd.ntmps28
      go_wp2_with fail
      go_ret
      exact ⟨ret_bool (by rw [hr.out]), hb.out⟩

theorem own_cells {w w2 : World} {n : Nat} {vs : List Value} (hb : Below w.heap.size w w2) (hn : w.heap.size ≤ n) (hc : ∀ j, j < vs.length → ∃ v, w2.cell? ⟨n, j, none⟩ = some v) :
    Below w.heap.size w (w2.setCells n 0 vs) ∧ ∀ j (hj : j < vs.length), (w2.setCells n 0 vs).cell? ⟨n, j, none⟩ = some vs[j] := by
  have r := setCells_rest n vs 0 w2
  refine ⟨hb.trans ⟨r.1, r.2.1, r.2.2, by rw [size_setCells]; exact Nat.le_refl _, fun k hk => heap_setCells _ _ _ _ _ (by omega)⟩, fun j hj => ?_⟩
  have := World.cell?_setCells_in n vs 0 w2 (fun i hi => by obtain ⟨v, hv⟩ := hc i hi; rw [Nat.zero_add, hv]; rfl) j hj
  rwa [Nat.zero_add] at this

/-- The field, as the reference has it. -/
def FV : Value := .agg #[.int .u64 1, .int .u64 18446744073709551588, .int .i64 128, .int .i64 66]

set_option maxRecDepth 100000 in
set_option maxHeartbeats 1000000 in
theorem field64 (w : World) : Calls Tryd.prog 25 #[] w fun e w' => e = .returned FV ∧ Below w.heap.size w w' := by
  go_enter Tryd.func25, Tryd.ntmps25
  go_wp2_with fail
  have hb : Below w.heap.size w (w.alloc (.cells #[Value.int .u64 1, .int .u64 18446744073709551588, .int .i64 128, .int .i64 66] 37)) := (Below.refl _ w).alloc (Nat.le_refl _) _
  have d0 : (w.alloc (.cells #[Value.int .u64 1, .int .u64 18446744073709551588, .int .i64 128, .int .i64 66] 37)).cell? ⟨w.heap.size, 0, none⟩ = some (.int .u64 1) := box_cell rfl rfl
  have d1 : (w.alloc (.cells #[Value.int .u64 1, .int .u64 18446744073709551588, .int .i64 128, .int .i64 66] 37)).cell? ⟨w.heap.size, 1, none⟩ = some (.int .u64 18446744073709551588) := box_cell rfl rfl
  have d2 : (w.alloc (.cells #[Value.int .u64 1, .int .u64 18446744073709551588, .int .i64 128, .int .i64 66] 37)).cell? ⟨w.heap.size, 2, none⟩ = some (.int .i64 128) := box_cell rfl rfl
  have d3 : (w.alloc (.cells #[Value.int .u64 1, .int .u64 18446744073709551588, .int .i64 128, .int .i64 66] 37)).cell? ⟨w.heap.size, 3, none⟩ = some (.int .i64 66) := box_cell rfl rfl
  generalize w.alloc (.cells #[Value.int .u64 1, .int .u64 18446744073709551588, .int .i64 128, .int .i64 66] 37) = w5 at *
  unfold FV
  exact bodyPost_ret (v := .agg #[.int .u64 1, .int .u64 18446744073709551588, .int .i64 128, .int .i64 66]) (by simp [results, Tryd.results25, go_sem, d0, d1, d2, d3]) rfl ⟨rfl, hb⟩

set_option maxRecDepth 100000 in
set_option maxHeartbeats 1000000 in
theorem f64_yes (w : World) : Calls Tryd.prog 11 #[] w fun e w' => e = .returned FV ∧ Below w.heap.size w w' := by
  go_enter Tryd.func11, Tryd.ntmps11
  go_wp2_with fail
  obtain ⟨w1, hw1⟩ : ∃ w1, w1 = w.alloc (.cells #[Value.int .u64 0, .int .u64 0, .int .i64 0, .int .i64 0] 37) := ⟨_, rfl⟩
  have hb1 : Below w.heap.size w w1 := by rw [hw1]; exact (Below.refl _ w).alloc (Nat.le_refl _) _
  have hs1 : w1.heap.size = w.heap.size + 1 := by rw [hw1]; simp
  have q0 : w1.cell? ⟨w.heap.size, 0, none⟩ = some (.int .u64 0) := by rw [hw1]; exact box_cell rfl rfl
  have q1 : w1.cell? ⟨w.heap.size, 1, none⟩ = some (.int .u64 0) := by rw [hw1]; exact box_cell rfl rfl
  have q2 : w1.cell? ⟨w.heap.size, 2, none⟩ = some (.int .i64 0) := by rw [hw1]; exact box_cell rfl rfl
  have q3 : w1.cell? ⟨w.heap.size, 3, none⟩ = some (.int .i64 0) := by rw [hw1]; exact box_cell rfl rfl
  have z : ∀ j, w1.frozen? ⟨w.heap.size, j, none⟩ = false := fun j => by rw [hw1]; exact box_free rfl
  rw [← hw1]
  clear hw1
  refine (field64 w1).mono ?_
  rintro e w2 ⟨rfl, hb2⟩
  have hl : ∀ j : Nat, (⟨w.heap.size, j, none⟩ : Addr).block < w1.heap.size := fun j => by simp; omega
  rw [← hb2.cell (hl 0)] at q0
  rw [← hb2.cell (hl 1)] at q1
  rw [← hb2.cell (hl 2)] at q2
  rw [← hb2.cell (hl 3)] at q3
  have z0 := z 0
  have z1 := z 1
  have z2 := z 2
  have z3 := z 3
  rw [← hb2.frozen (hl 0)] at z0
  rw [← hb2.frozen (hl 1)] at z1
  rw [← hb2.frozen (hl 2)] at z2
  rw [← hb2.frozen (hl 3)] at z3
  have B2 := Lib.hid (hb1.trans (hb2.mono hb1.size))
  clear hb1 hb2 hs1 z hl
  have Q0 := Lib.hid q0
  have Q1 := Lib.hid q1
  have Q2 := Lib.hid q2
  have Q3 := Lib.hid q3
  unfold FV
  go_wp2_with fail
  obtain ⟨hb5, hc5⟩ := own_cells (n := w.heap.size) (vs := [.int .u64 1, .int .u64 18446744073709551588, .int .i64 128, .int .i64 66]) B2.out (Nat.le_refl _) (fun j hj => by
    rcases j with _ | _ | _ | _ | j
    · exact ⟨_, Q0.out⟩
    · exact ⟨_, Q1.out⟩
    · exact ⟨_, Q2.out⟩
    · exact ⟨_, Q3.out⟩
    · simp at hj; omega)
  obtain ⟨w5, hw5⟩ : ∃ w5, w5 = w2.setCells w.heap.size 0 [.int .u64 1, .int .u64 18446744073709551588, .int .i64 128, .int .i64 66] := ⟨_, rfl⟩
  rw [← hw5] at hb5 hc5
  have d0 := hc5 0 (by simp)
  have d1 := hc5 1 (by simp)
  have d2 := hc5 2 (by simp)
  have d3 := hc5 3 (by simp)
  simp only [World.setCells, Nat.zero_add, Nat.reduceAdd] at hw5
  rw [← hw5]
  simp only [List.getElem_cons_zero, List.getElem_cons_succ] at d0 d1 d2 d3
  exact bodyPost_ret (v := .agg #[.int .u64 1, .int .u64 18446744073709551588, .int .i64 128, .int .i64 66]) (by simp [results, Tryd.results11, go_sem, d0, d1, d2, d3]) rfl ⟨rfl, hb5⟩

set_option maxRecDepth 100000 in
set_option maxHeartbeats 1000000 in
theorem n64_yes (x : Nat) (hx : x < W8) (w : World) : Calls Tryd.prog 19 #[.agg (bts 16 x).toArray] w fun e w' => e = .returned (wv x) ∧ Below w.heap.size w w' := by
  have HX := Lib.hid hx
  clear hx
  go_enter Tryd.func19, Tryd.ntmps19
  go_wp2_with fail
  obtain ⟨w1, hw1⟩ : ∃ w1, w1 = (w.alloc (.cells (bts 16 x).toArray 30)).alloc (.cells #[Value.int .u64 0, .int .u64 0] 35) := ⟨_, rfl⟩
  have hb1 : Below w.heap.size w w1 := by rw [hw1]; exact ((Below.refl _ w).alloc (Nat.le_refl _) _).alloc (by simp) _
  have hs1 : w1.heap.size = w.heap.size + 2 := by rw [hw1]; simp
  have hy1 : By w1 w.heap.size 0 16 x := by
    rw [hw1]; intro j hj
    exact cell_past _ (box_cell rfl (by simp [bts, hj]))
  have q0 : w1.cell? ⟨w.heap.size + 1, 0, none⟩ = some (.int .u64 0) := by rw [hw1]; exact box_cell (by simp) rfl
  have q1 : w1.cell? ⟨w.heap.size + 1, 1, none⟩ = some (.int .u64 0) := by rw [hw1]; exact box_cell (by simp) rfl
  have z : ∀ j, w1.frozen? ⟨w.heap.size + 1, j, none⟩ = false := fun j => by rw [hw1]; exact box_free (by simp)
  rw [← hw1]
  clear hw1
  refine (number x w.heap.size 0 16 HX.out w1 hy1).mono ?_
  rintro e w2 ⟨rfl, hb2⟩
  have hl : ∀ j : Nat, (⟨w.heap.size + 1, j, none⟩ : Addr).block < w1.heap.size := fun j => by simp; omega
  rw [← hb2.cell (hl 0)] at q0
  rw [← hb2.cell (hl 1)] at q1
  have z0 := z 0
  have z1 := z 1
  rw [← hb2.frozen (hl 0)] at z0
  rw [← hb2.frozen (hl 1)] at z1
  have B2 := Lib.hid (hb1.trans (hb2.mono hb1.size))
  have Q0 := Lib.hid q0
  have Q1 := Lib.hid q1
  clear hb1 hb2 hs1 z hl hy1
  unfold wv wlo whi
  go_wp2_with fail
  obtain ⟨w3, hw3, hb3, d0, d1⟩ := own_two (x := .int .u64 ((lo64 x : Nat) : Int)) (y := .int .u64 ((hi64 x : Nat) : Int)) B2.out (by omega) Q0.out Q1.out
  rw [← hw3]
  exact bodyPost_ret (v := .agg #[.int .u64 ((lo64 x : Nat) : Int), .int .u64 ((hi64 x : Nat) : Int)]) (by simp [results, Tryd.results19, go_sem, d0, d1]) rfl ⟨rfl, hb3⟩

/-- Whether a number is below the order, as the reference says it. -/
def hasB (x : Nat) : Bool := blw ((lo64 x : Nat) : Int) ((hi64 x : Nat) : Int) 1 18446744073709551588

theorem hasB_iff (x : Nat) (hx : x < W8) : hasB x = decide (x < P) := by
  have h0 := lo64_small x
  have h1 := hi64_small hx
  have hr : x = lo64 x + hi64 x * 18446744073709551616 := by unfold lo64 hi64; omega
  unfold hasB blw
  by_cases h2 : hi64 x < 18446744073709551588
  · have e : x < P := by unfold P; omega
    have e2 : ((hi64 x : Nat) : Int) < 18446744073709551588 := by omega
    simp [e, e2]
  · have e2 : ¬ ((hi64 x : Nat) : Int) < 18446744073709551588 := by omega
    by_cases h3 : hi64 x = 18446744073709551588 ∧ lo64 x = 0
    · have e : x < P := by unfold P; omega
      simp [e, e2, h3.1, h3.2]
    · have e : ¬ x < P := by unfold P; omega
      by_cases h4 : hi64 x = 18446744073709551588
      · have h5 : ¬ ((lo64 x : Nat) : Int) < 1 := by omega
        simp [e, h4, h5]
      · have h5 : ¬ ((hi64 x : Nat) : Int) = 18446744073709551588 := by omega
        simp [e, e2, h5]

set_option maxRecDepth 100000 in
set_option maxHeartbeats 1000000 in
theorem has_yes (x : Nat) (w : World) : Calls Tryd.prog 44 #[FV, wv x] w fun e w' => e = .returned (.bool (hasB x)) ∧ Below w.heap.size w w' := by
  unfold FV wv wlo whi
  go_enter Tryd.func44, Tryd.ntmps44
  go_wp2_with fail
  have hb1 : Below w.heap.size w ((w.alloc (.cells #[Value.int .u64 1, .int .u64 18446744073709551588, .int .i64 128, .int .i64 66] 37)).alloc (.cells #[Value.int IntKind.u64 ((lo64 x : Nat) : Int), Value.int IntKind.u64 ((hi64 x : Nat) : Int)] 35)) := ((Below.refl _ w).alloc (Nat.le_refl _) _).alloc (by simp) _
  refine (below_any _ _ _ _ _).mono ?_
  rintro e w2 ⟨rfl, hb2⟩
  have B2 := Lib.hid (hb1.trans (hb2.mono hb1.size))
  clear hb1 hb2
  have hh := Lib.hid (show blw ((lo64 x : Nat) : Int) ((hi64 x : Nat) : Int) 1 18446744073709551588 = hasB x from rfl)
  generalize blw ((lo64 x : Nat) : Int) ((hi64 x : Nat) : Int) 1 18446744073709551588 = bb at *
  go_wp2_with fail
  go_ret
  exact ⟨ret_bool hh.out, B2.out⟩

/-- Whether all are below the order. -/
def hasAll (n : Nat) (f : Nat → Nat) : Bool := decide (∀ i, i < n → f i < P)
end Go.Proofs.YtimihpddlinmbaaDoor
