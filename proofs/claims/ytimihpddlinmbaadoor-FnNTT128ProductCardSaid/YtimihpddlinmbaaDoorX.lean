/-
  The statements over the field of 128 bits, walked: given the plain law, the call answers true.
-/
import Derived.Test.YtimihpddlinmbaaDoorP
import Derived.Test.YtimihpddlinmbaaDoorY
namespace Go.Proofs.YtimihpddlinmbaaDoor
open Go.RowKit
set_option linter.unusedVariables false
set_option linter.unusedSimpArgs false

/-- The transform of elements as bytes, and the one back. -/
def fwd (k : Nat) (f : Nat → Nat) (i : Nat) : Nat := mt (ntt k (fun i => mt (f i) rsq) i) 1
def bck (k : Nat) (f : Nat → Nat) (i : Nat) : Nat := mt (inv k (fun i => mt (f i) rsq) i) 1

theorem BRow.cast {w : World} {b o n : Nat} {f g : Nat → Nat} (h : BRow w b o n f) (e : ∀ i, i < n → f i = g i) : BRow w b o n g := fun i hi => by rw [← e i hi]; exact h i hi

set_option maxRecDepth 100000 in
set_option maxHeartbeats 1000000 in
theorem back_zero (p : Option Addr) (cp : Nat) (w : World) :
    Calls Tryd.prog 3 #[.slice p 0 cp] w fun e w' => e = .returned (.bool true) ∧ Below w.heap.size w w' := by
  go_enter Tryd.func3, Tryd.ntmps3
  go_wp2_with fail
  refine (power_zero p cp (fun _ => 0) w).mono ?_
  rintro e w1 ⟨v, rfl, hv, hb⟩
  have B1 := Lib.hid hb
  clear hb
  rcases v with _ | _
  · clear hv
    go_wp2_with fail
    go_ret
    exact ⟨rfl, B1.out⟩
  · obtain ⟨⟨k, _, h⟩, _⟩ := hv rfl
    have := Nat.two_pow_pos k
    omega

set_option maxRecDepth 100000 in
set_option maxHeartbeats 1000000 in
theorem back_pos (law : ∀ (k : Nat) (f : Nat → Nat), k < 7 → (∀ i, i < 2 ^ k → f i < P) → (∀ i, i < 2 ^ k → hv k (bck k (fwd k f) i) = f i) ∧ (∀ i, i < 2 ^ k → hv k (fwd k (bck k f) i) = f i))
    (n b o cp : Nat) (f : Nat → Nat) (h1 : 0 < n) (hf : ∀ i, i < n → f i < W8) (w : World) (hg : Glob w) (hr : BRow w b o n f) :
    Calls Tryd.prog 3 #[.slice (some ⟨b, o, none⟩) n cp] w fun e w' => e = .returned (.bool true) ∧ Below w.heap.size w w' := by
  have LAW := Lib.hid law
  have HF := Lib.hid hf
  have HG := Lib.hid hg
  have HR := Lib.hid hr
  have H1 := Lib.hid h1
  have HB := Lib.hid ((hr 0 h1).lt (by omega))
  clear law hf hg hr h1
  by_cases hbig : 2147483647 < n
  · have h2 : decide ((2147483647 : Int) < (n : Int)) = true := by simp; omega
    go_enter Tryd.func3, Tryd.ntmps3
    go_wp2_with fail
    go_ret
    exact ⟨rfl, Below.refl _ _⟩
  · have h2 : decide ((2147483647 : Int) < (n : Int)) = false := by simp; omega
    go_enter Tryd.func3, Tryd.ntmps3
    go_wp2_with fail
    refine (power_pos n b o cp f H1.out (by omega) HF.out w HR.out).mono ?_
    rintro e w1 ⟨v, rfl, hv, hb⟩
    have B1 := Lib.hid hb
    clear hb
    rcases v with _ | _
    · clear hv
      go_wp2_with fail
      go_ret
      exact ⟨rfl, B1.out⟩
    · obtain ⟨⟨k, hk, hn⟩, hp⟩ := hv rfl
      have HK := Lib.hid hk
      have HN := Lib.hid hn
      have HP := Lib.hid hp
      have hn64 : n ≤ 64 := by
        rw [hn]
        have : 2 ^ k ≤ 2 ^ 6 := Nat.pow_le_pow_right (by omega) (by omega)
        omega
      clear hk hn hp hv h2 hbig
      go_wp2_with fail
      refine (ntt64 k n b o cp f HK.out HN.out HP.out w1 (HG.out.keep B1.out HG.out.size5) (HR.out.keep B1.out HB.out)).mono ?_
      rintro e w2 ⟨na, rfl, a1, a2, a3, a4⟩
      have B2 := Lib.hid (B1.out.trans (a4.mono B1.out.size))
      have RA := Lib.hid (show BRow w2 na 0 n (fwd k f) from a3)
      have NA := Lib.hid a2
      clear a1 a2 a3 a4
      go_wp2_with fail
      refine (inv64 k n na 0 n (fwd k f) HK.out HN.out (fun i _ => mt_lt _ _) w2 (HG.out.keep B2.out HG.out.size5) RA.out).mono ?_
      rintro e w3 ⟨nb, rfl, b1, b2, b3, b4⟩
      have B3 := Lib.hid (B2.out.trans (b4.mono B2.out.size))
      have RB := Lib.hid (show BRow w3 nb 0 n (bck k (fwd k f)) from b3)
      have NB := Lib.hid b2
      clear b1 b2 b3 b4 RA NA
      go_wp2_with fail
      refine (inv64 k n b o cp f HK.out HN.out HP.out w3 (HG.out.keep B3.out HG.out.size5) (HR.out.keep B3.out HB.out)).mono ?_
      rintro e w4 ⟨nc, rfl, c1, c2, c3, c4⟩
      have B4 := Lib.hid (B3.out.trans (c4.mono B3.out.size))
      have RC := Lib.hid (show BRow w4 nc 0 n (bck k f) from c3)
      have RB4 := Lib.hid (RB.out.keep c4 NB.out)
      have NB4 := Lib.hid (show nb < w4.heap.size by have := NB.out; have := c4.size; omega)
      clear c1 c2 c3 c4 RB NB
      go_wp2_with fail
      refine (ntt64 k n nc 0 n (bck k f) HK.out HN.out (fun i _ => mt_lt _ _) w4 (HG.out.keep B4.out HG.out.size5) RC.out).mono ?_
      rintro e w5 ⟨nd, rfl, d1, d2, d3, d4⟩
      have B5 := Lib.hid (B4.out.trans (d4.mono B4.out.size))
      have RD := Lib.hid (show BRow w5 nd 0 n (fwd k (bck k f)) from d3)
      have RB5 := Lib.hid (RB4.out.keep d4 NB4.out)
      have NB5 := Lib.hid (show nb < w5.heap.size by have := NB4.out; have := d4.size; omega)
      have ND := Lib.hid d2
      clear d1 d2 d3 d4 RB4 NB4 RC
      go_wp2_with fail
      refine (halves_yes k n nb 0 n (bck k (fwd k f)) HK.out HN.out (fun i _ => mt_lt _ _) w5 (HG.out.keep B5.out HG.out.size5) RB5.out).mono ?_
      rintro e w6 ⟨ne, rfl, e1, e2, e3, e4⟩
      have B6 := Lib.hid (B5.out.trans (e4.mono B5.out.size))
      have RE := Lib.hid (show BRow w6 ne 0 n f from e3.cast (fun i hi => ((LAW.out k f HK.out (by rw [← HN.out]; exact HP.out)).1 i (by rw [← HN.out]; exact hi))))
      have NE := Lib.hid e2
      have RD6 := Lib.hid (RD.out.keep e4 ND.out)
      have ND6 := Lib.hid (show nd < w6.heap.size by have := ND.out; have := e4.size; omega)
      clear e1 e2 e3 e4 RB5 NB5 RD ND
      go_wp2_with fail
      refine (l64_yes n b o cp f H1.out (by omega) HF.out w6 (HR.out.keep B6.out HB.out)).mono ?_
      rintro e w7 ⟨g7, c7, rfl, f1, f2, f3, f4⟩
      have B7 := Lib.hid (B6.out.trans (f4.mono B6.out.size))
      have RW := Lib.hid f3
      have RE7 := Lib.hid (RE.out.keep f4 NE.out)
      have RD7 := Lib.hid (RD6.out.keep f4 ND6.out)
      have ND7 := Lib.hid (show nd < w7.heap.size by have := ND6.out; have := f4.size; omega)
      clear f1 f2 f3 f4 RE NE RD6 ND6
      go_wp2_with fail
      refine (same_yes n ne 0 n g7 c7 f (by omega) HF.out w7 RE7.out RW.out).mono ?_
      rintro e w8 ⟨rfl, hb8⟩
      have B8 := Lib.hid (B7.out.trans (hb8.mono B7.out.size))
      have RD8 := Lib.hid (RD7.out.keep hb8 ND7.out)
      clear hb8 RD7 ND7 RE7 RW
      go_wp2_with fail
      refine (halves_yes k n nd 0 n (fwd k (bck k f)) HK.out HN.out (fun i _ => mt_lt _ _) w8 (HG.out.keep B8.out HG.out.size5) RD8.out).mono ?_
      rintro e w9 ⟨nh, rfl, e1, e2, e3, e4⟩
      have B9 := Lib.hid (B8.out.trans (e4.mono B8.out.size))
      have RH := Lib.hid (show BRow w9 nh 0 n f from e3.cast (fun i hi => ((LAW.out k f HK.out (by rw [← HN.out]; exact HP.out)).2 i (by rw [← HN.out]; exact hi))))
      have NH := Lib.hid e2
      clear e1 e2 e3 e4 RD8
      go_wp2_with fail
      refine (l64_yes n b o cp f H1.out (by omega) HF.out w9 (HR.out.keep B9.out HB.out)).mono ?_
      rintro e w10 ⟨g10, c10, rfl, f1, f2, f3, f4⟩
      have B10 := Lib.hid (B9.out.trans (f4.mono B9.out.size))
      have RW := Lib.hid f3
      have RH10 := Lib.hid (RH.out.keep f4 NH.out)
      clear f1 f2 f3 f4 RH NH
      go_wp2_with fail
      refine (same_yes n nh 0 n g10 c10 f (by omega) HF.out w10 RH10.out RW.out).mono ?_
      rintro e w11 ⟨rfl, hb11⟩
      have B11 := Lib.hid (B10.out.trans (hb11.mono B10.out.size))
      clear hb11 RH10 RW
      go_wp2_with fail
      go_ret
      exact ⟨rfl, B11.out⟩
end Go.Proofs.YtimihpddlinmbaaDoor
