/-
  The reference over the field of 128 bits: whether all of a list are below the order.
-/
import Derived.Test.YtimihpddlinmbaaDoorSa
namespace Go.Proofs.YtimihpddlinmbaaDoor
open Go.RowKit
set_option linter.unusedVariables false
set_option linter.unusedSimpArgs false

theorem box_by {w0 : World} {n x : Nat} (h : n = w0.heap.size) : By (w0.alloc (.cells #[Value.int .u8 ((bt x 0 : Nat) : Int), Value.int .u8 ((bt x 1 : Nat) : Int), Value.int .u8 ((bt x 2 : Nat) : Int), Value.int .u8 ((bt x 3 : Nat) : Int), Value.int .u8 ((bt x 4 : Nat) : Int), Value.int .u8 ((bt x 5 : Nat) : Int), Value.int .u8 ((bt x 6 : Nat) : Int), Value.int .u8 ((bt x 7 : Nat) : Int), Value.int .u8 ((bt x 8 : Nat) : Int), Value.int .u8 ((bt x 9 : Nat) : Int), Value.int .u8 ((bt x 10 : Nat) : Int), Value.int .u8 ((bt x 11 : Nat) : Int), Value.int .u8 ((bt x 12 : Nat) : Int), Value.int .u8 ((bt x 13 : Nat) : Int), Value.int .u8 ((bt x 14 : Nat) : Int), Value.int .u8 ((bt x 15 : Nat) : Int)] 30)) n 0 16 x := by
  intro j hj
  refine box_cell h ?_
  rcases j with _ | _ | _ | _ | _ | _ | _ | _ | _ | _ | _ | _ | _ | _ | _ | _ | j <;> first | rfl | omega

set_option maxRecDepth 100000 in
set_option maxHeartbeats 1000000 in
theorem hasAll_yes (n b o cp : Nat) (f : Nat → Nat) (hn : n ≤ 4096) (hf : ∀ i, i < n → f i < W8) (w : World) (hr : BRow w b o n f) :
    Calls Tryd.prog 29 #[.slice (some ⟨b, o, none⟩) n cp] w fun e w' => e = .returned (.bool (hasAll n f)) ∧ Below w.heap.size w w' := by
  have HF := Lib.hid hf
  have HR := Lib.hid hr
  clear hf hr
  go_enter Tryd.func29, Tryd.ntmps29
  go_wp2_with fail
  obtain ⟨w1, hw1⟩ : ∃ w1, w1 = w := ⟨_, rfl⟩
  have hi1 : Below w.heap.size w w1 := by rw [hw1]; exact Below.refl _ _
  rw [← hw1]
  clear hw1
  go_loopw [7] (fun i wr => ∃ k : Nat, k ≤ n ∧ i = .int .i64 k ∧ Hid (∀ i, i < k → f i < P) ∧ Hid (Below w.heap.size w wr)) (fun i _ => n - (intOf i).toNat)
  case atStart => exact ⟨0, Nat.zero_le _, rfl, fun i hi => by omega, hi1⟩
  case round =>
    obtain ⟨k, hk, rfl, HP, HI⟩ := hrel
    clear hi1
    by_cases hlt : k < n
    · have Hlt := Lib.hid hlt
      have hy : By wr b (o + k * 16) 16 (f k) := (HR.out k hlt).keep HI.out ((HR.out k hlt).lt (by omega))
      have y0 := hy 0 (by omega)
      have y1 := hy 1 (by omega)
      have y2 := hy 2 (by omega)
      have y3 := hy 3 (by omega)
      have y4 := hy 4 (by omega)
      have y5 := hy 5 (by omega)
      have y6 := hy 6 (by omega)
      have y7 := hy 7 (by omega)
      have y8 := hy 8 (by omega)
      have y9 := hy 9 (by omega)
      have y10 := hy 10 (by omega)
      have y11 := hy 11 (by omega)
      have y12 := hy 12 (by omega)
      have y13 := hy 13 (by omega)
      have y14 := hy 14 (by omega)
      have y15 := hy 15 (by omega)
      simp only [Nat.add_zero] at y0
      clear hy
      go_wp2_with fail
      clear y0 y1 y2 y3 y4 y5 y6 y7 y8 y9 y10 y11 y12 y13 y14 y15
      obtain ⟨w2, hw2⟩ : ∃ w2, w2 = wr.alloc (.cells #[Value.int .u8 ((bt (f k) 0 : Nat) : Int), Value.int .u8 ((bt (f k) 1 : Nat) : Int), Value.int .u8 ((bt (f k) 2 : Nat) : Int), Value.int .u8 ((bt (f k) 3 : Nat) : Int), Value.int .u8 ((bt (f k) 4 : Nat) : Int), Value.int .u8 ((bt (f k) 5 : Nat) : Int), Value.int .u8 ((bt (f k) 6 : Nat) : Int), Value.int .u8 ((bt (f k) 7 : Nat) : Int), Value.int .u8 ((bt (f k) 8 : Nat) : Int), Value.int .u8 ((bt (f k) 9 : Nat) : Int), Value.int .u8 ((bt (f k) 10 : Nat) : Int), Value.int .u8 ((bt (f k) 11 : Nat) : Int), Value.int .u8 ((bt (f k) 12 : Nat) : Int), Value.int .u8 ((bt (f k) 13 : Nat) : Int), Value.int .u8 ((bt (f k) 14 : Nat) : Int), Value.int .u8 ((bt (f k) 15 : Nat) : Int)] 30) := ⟨_, rfl⟩
      rw [← hw2]
      have hb2 : Below wr.heap.size wr w2 := by rw [hw2]; exact (Below.refl _ wr).alloc (Nat.le_refl _) _
      have hs2 : w2.heap.size = wr.heap.size + 1 := by rw [hw2]; simp
      have hy2 : By w2 wr.heap.size 0 16 (f k) := by rw [hw2]; exact box_by rfl
      clear hw2
      have c0 := hy2 0 (by omega)
      have c1 := hy2 1 (by omega)
      have c2 := hy2 2 (by omega)
      have c3 := hy2 3 (by omega)
      have c4 := hy2 4 (by omega)
      have c5 := hy2 5 (by omega)
      have c6 := hy2 6 (by omega)
      have c7 := hy2 7 (by omega)
      have c8 := hy2 8 (by omega)
      have c9 := hy2 9 (by omega)
      have c10 := hy2 10 (by omega)
      have c11 := hy2 11 (by omega)
      have c12 := hy2 12 (by omega)
      have c13 := hy2 13 (by omega)
      have c14 := hy2 14 (by omega)
      have c15 := hy2 15 (by omega)
      simp only [Nat.zero_add] at c0 c1 c2 c3 c4 c5 c6 c7 c8 c9 c10 c11 c12 c13 c14 c15
      have K11 := Lib.hid (show ∀ W, Hid (Below w2.heap.size w2 W) → Calls Tryd.prog 11 #[] W fun e w' => e = .returned FV ∧ Hid (Below w2.heap.size w2 w') ∧ (∀ j, j < 16 → w'.cell? ⟨wr.heap.size, j, none⟩ = some (.int .u8 ((bt (f k) j : Nat) : Int))) from by
        intro W hW
        refine (f64_yes W).mono ?_
        rintro e w' ⟨he, hb⟩
        have h3 := Below.trans hW.out (hb.mono hW.out.size)
        refine ⟨he, h3, fun j hj => ?_⟩
        rw [h3.cell (by simp; omega)]
        have := hy2 j hj
        rwa [Nat.zero_add] at this)
      have K19 := Lib.hid (show ∀ W, Hid (Below w2.heap.size w2 W) → Calls Tryd.prog 19 #[.agg (bts 16 (f k)).toArray] W fun e w' => e = .returned (wv (f k)) ∧ Hid (Below w2.heap.size w2 w') from by
        intro W hW
        refine (n64_yes (f k) (HF.out k hlt) W).mono ?_
        rintro e w' ⟨he, hb⟩
        exact ⟨he, Below.trans hW.out (hb.mono hW.out.size)⟩)
      obtain ⟨bb, hbb⟩ : ∃ bb, bb = hasB (f k) := ⟨_, rfl⟩
      have HBB := Lib.hid (show bb = decide (f k < P) by rw [hbb]; exact hasB_iff (f k) (HF.out k hlt))
      have K44 := Lib.hid (show ∀ W, Hid (Below w2.heap.size w2 W) → Calls Tryd.prog 44 #[FV, wv (f k)] W fun e w' => e = .returned (.bool bb) ∧ Hid (Below w2.heap.size w2 w') from by
        intro W hW
        rw [hbb]
        refine (has_yes (f k) W).mono ?_
        rintro e w' ⟨he, hb⟩
        exact ⟨he, Below.trans hW.out (hb.mono hW.out.size)⟩)
      clear hbb
      rw [bts16] at K19
      have S2 := Lib.hid hs2
      have B2 := Lib.hid hb2
      clear hb2 hs2 hy2
      go_region_with (first
        | (go_at_call 11; refine (K11.out _ (by first | assumption | exact (Below.refl _ _).drew)).mono ?_; rintro e w3 ⟨rfl, h3, q⟩; have q0 := q 0 (by omega); have q1 := q 1 (by omega); have q2 := q 2 (by omega); have q3 := q 3 (by omega); have q4 := q 4 (by omega); have q5 := q 5 (by omega); have q6 := q 6 (by omega); have q7 := q 7 (by omega); have q8 := q 8 (by omega); have q9 := q 9 (by omega); have q10 := q 10 (by omega); have q11 := q 11 (by omega); have q12 := q 12 (by omega); have q13 := q 13 (by omega); have q14 := q 14 (by omega); have q15 := q 15 (by omega); clear q)
        | (go_at_call 19; refine (K19.out _ (by first | assumption | exact (Below.refl _ _).drew)).mono ?_; rintro e w4 ⟨rfl, h4⟩)
        | (go_at_call 44; refine (K44.out _ (by assumption)).mono ?_; rintro e w5 ⟨rfl, h5⟩))
      all_goals have B5 := Lib.hid (HI.out.trans ((B2.out.mono HI.out.size).trans (h5.out.mono (by have := S2.out; have := HI.out.size; omega))))
      all_goals clear K11 K19 K44 c0 c1 c2 c3 c4 c5 c6 c7 c8 c9 c10 c11 c12 c13 c14 c15 h5 h4
      all_goals rcases bb with _ | _
      all_goals go_wp2_with fail
      all_goals first
        | (go_ret; exact ⟨ret_bool (decide_eq_false (fun h => by have h6 := h k Hlt.out; rw [show decide (f k < P) = true from decide_eq_true h6] at HBB; exact Bool.noConfusion HBB.out)).symm, B5.out⟩)
        | (go_roundw
           case rel => exact ⟨k + 1, by omega, by go_num, fun i hi => if e : i = k then by rw [e]; exact of_decide_eq_true HBB.out.symm else HP.out i (by omega), B5.out⟩
           case measure => simp [intOf]; omega)
    · go_wp2_with fail
      go_ret
      obtain rfl : k = n := by omega
      exact ⟨ret_bool (decide_eq_true HP.out).symm, HI.out⟩
end Go.Proofs.YtimihpddlinmbaaDoor
