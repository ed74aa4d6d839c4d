/-
  The statements' tests over the field of 128 bits: few elements, a power of two of them.
-/
import Derived.Test.YtimihpddlinmbaaDoorS
namespace Go.Proofs.YtimihpddlinmbaaDoor
open Go.RowKit
set_option linter.unusedVariables false
set_option linter.unusedSimpArgs false

set_option maxRecDepth 100000 in
set_option maxHeartbeats 1000000 in
theorem few_big (n b o cp c : Nat) (hn : 64 < n) (w : World) (hc : w.cell? ⟨c, 0, none⟩ = some (.slice (some ⟨b, o, none⟩) n cp)) :
    Calls Tryd.prog 14 #[.slice (some ⟨c, 0, none⟩) 1 1] w fun e w' => e = .returned (.bool false) ∧ Below w.heap.size w w' := by
  have h1 : decide ((64 : Int) < (n : Int)) = true := by simp; omega
  go_enter Tryd.func14, Tryd.ntmps14
  go_wp2_with fail
  refine wp_loop_rounds 2 ?_
  rw [rounds_succ]
  go_wp2_with fail
  go_ret
  exact ⟨rfl, Below.refl _ _⟩

set_option maxRecDepth 100000 in
set_option maxHeartbeats 1000000 in
theorem few_small (n b o cp c : Nat) (f : Nat → Nat) (hn : n ≤ 64) (hf : ∀ i, i < n → f i < W8) (w : World) (hr : BRow w b o n f) (hc : w.cell? ⟨c, 0, none⟩ = some (.slice (some ⟨b, o, none⟩) n cp)) :
    Calls Tryd.prog 14 #[.slice (some ⟨c, 0, none⟩) 1 1] w fun e w' => e = .returned (.bool (hasAll n f)) ∧ Below w.heap.size w w' := by
  have h1 : decide ((64 : Int) < (n : Int)) = false := by simp; omega
  have K := Lib.hid (hasAll_yes n b o cp f (by omega) hf w hr)
  clear hf hr
  generalize hasAll n f = v at *
  rcases v with _ | _
  · go_enter Tryd.func14, Tryd.ntmps14
    go_wp2_with fail
    refine wp_loop_rounds 2 ?_
    rw [rounds_succ]
    go_wp2_with fail
    refine K.out.mono ?_
    rintro e w1 ⟨rfl, hb⟩
    have B1 := Lib.hid hb
    clear hb K
    go_wp2_with fail
    go_ret
    exact ⟨rfl, B1.out⟩
  · go_enter Tryd.func14, Tryd.ntmps14
    go_wp2_with fail
    refine wp_loop_rounds 2 ?_
    rw [rounds_succ]
    go_wp2_with fail
    refine K.out.mono ?_
    rintro e w1 ⟨rfl, hb⟩
    have B1 := Lib.hid hb
    clear hb K
    go_wp2_with fail
    rw [rounds_succ]
    go_wp2_with fail
    go_ret
    exact ⟨rfl, B1.out⟩

/-- What the test of a list comes to. -/
def PowOk (w : World) (n : Nat) (f : Nat → Nat) (e : Ending) (w' : World) : Prop :=
  ∃ v, e = .returned (.bool v) ∧ (v = true → (∃ k, k < 7 ∧ n = 2 ^ k) ∧ ∀ i, i < n → f i < P) ∧ Below w.heap.size w w'

theorem PowOk.no {w w' : World} {n : Nat} {f : Nat → Nat} (h : Below w.heap.size w w') : PowOk w n f (.returned (.bool false)) w' := ⟨false, rfl, fun h => Bool.noConfusion h, h⟩

set_option maxRecDepth 100000 in
set_option maxHeartbeats 1000000 in
theorem power_zero (p : Option Addr) (cp : Nat) (f : Nat → Nat) (w : World) :
    Calls Tryd.prog 5 #[.slice p 0 cp] w (PowOk w 0 f) := by
  go_enter Tryd.func5, Tryd.ntmps5
  go_wp2_with fail
  refine wp_loop_rounds 1 ?_
  rw [rounds_succ]
  go_wp2_with fail
  go_ret
  exact PowOk.no (Below.refl _ _)

theorem pow_small (n t : Nat) (h : n = 2 ^ t) (hn : n ≤ 64) : ∃ k, k < 7 ∧ n = 2 ^ k := by
  refine ⟨t, ?_, h⟩
  by_cases h7 : t < 7
  · exact h7
  · have : 2 ^ 7 ≤ 2 ^ t := Nat.pow_le_pow_right (by omega) (by omega)
    omega

set_option maxRecDepth 100000 in
set_option maxHeartbeats 1000000 in
theorem power_pos (n b o cp : Nat) (f : Nat → Nat) (h1 : 0 < n) (hn : n ≤ 2147483647) (hf : ∀ i, i < n → f i < W8) (w : World) (hr : BRow w b o n f) :
    Calls Tryd.prog 5 #[.slice (some ⟨b, o, none⟩) n cp] w (PowOk w n f) := by
  have HF := Lib.hid hf
  have HR := Lib.hid hr
  have HB := Lib.hid ((hr 0 h1).lt (by omega))
  clear hf hr
  go_enter Tryd.func5, Tryd.ntmps5
  go_wp2_with fail
  go_loop [3] (fun m => ∃ q : Nat, Hid (∃ t, q = 2 ^ t) ∧ 1 ≤ q ∧ q ≤ 2 * n ∧ m = .int .i64 q) (fun m => n - (intOf m).toNat)
  case atStart => exact ⟨1, ⟨0, rfl⟩, by omega, by omega, rfl⟩
  case round =>
    obtain ⟨q, hq, hq1, hq2, rfl⟩ := hrel
    by_cases hlt : q < n
    · go_wp2_with fail
      go_round
      case rel => exact ⟨2 * q, by obtain ⟨t, rfl⟩ := hq.out; exact ⟨t + 1, by rw [Nat.pow_succ]; omega⟩, by omega, by omega, by go_num⟩
      case measure => simp [intOf]; omega
    · by_cases he : n = q
      · have he2 : ((n : Int) == (q : Int)) = true := by simp; omega
        have HE := Lib.hid he
        clear he
        by_cases h64 : n ≤ 64
        · have H64 := Lib.hid h64
          have K := Lib.hid (fun W (hW : Below w.heap.size w W) (hc : W.cell? ⟨w.heap.size, 0, none⟩ = some (.slice (some ⟨b, o, none⟩) n cp)) => few_small n b o cp w.heap.size f h64 HF.out W (HR.out.keep hW HB.out) hc)
          have HA := Lib.hid (show hasAll n f = true → ∀ i, i < n → f i < P from fun h => of_decide_eq_true h)
          clear h64
          generalize hasAll n f = v at *
          rcases v with _ | _
          · go_wp2_with fail
            refine (K.out _ ((Below.refl _ w).alloc (Nat.le_refl _) _) (box_cell rfl rfl)).mono ?_
            rintro e w1 ⟨rfl, hb⟩
            have B1 := Lib.hid (((Below.refl w.heap.size w).alloc (Nat.le_refl _) (.cells #[Value.slice (some ⟨b, o, none⟩) n cp] 22)).trans (hb.mono (by simp)))
            clear hb K
            go_wp2_with fail
            go_ret
            exact PowOk.no B1.out
          · go_wp2_with fail
            refine (K.out _ ((Below.refl _ w).alloc (Nat.le_refl _) _) (box_cell rfl rfl)).mono ?_
            rintro e w1 ⟨rfl, hb⟩
            have B1 := Lib.hid (((Below.refl w.heap.size w).alloc (Nat.le_refl _) (.cells #[Value.slice (some ⟨b, o, none⟩) n cp] 22)).trans (hb.mono (by simp)))
            clear hb K
            go_wp2_with fail
            go_ret
            exact ⟨true, rfl, fun _ => ⟨by obtain ⟨t, ht⟩ := hq.out; exact pow_small n t (HE.out.trans ht) H64.out, HA.out (by first | trivial | rfl)⟩, B1.out⟩
        · have h65 : 64 < n := by omega
          have K := Lib.hid (fun W (hc : W.cell? ⟨w.heap.size, 0, none⟩ = some (.slice (some ⟨b, o, none⟩) n cp)) => few_big n b o cp w.heap.size h65 W hc)
          go_wp2_with fail
          refine (K.out _ (box_cell rfl rfl)).mono ?_
          rintro e w1 ⟨rfl, hb⟩
          have B1 := Lib.hid (((Below.refl w.heap.size w).alloc (Nat.le_refl _) (.cells #[Value.slice (some ⟨b, o, none⟩) n cp] 22)).trans (hb.mono (by simp)))
          clear hb K
          go_wp2_with fail
          go_ret
          exact PowOk.no B1.out
      · have he2 : ((n : Int) == (q : Int)) = false := by simp; omega
        go_wp2_with fail
        go_ret
        exact PowOk.no (Below.refl _ _)
end Go.Proofs.YtimihpddlinmbaaDoor
