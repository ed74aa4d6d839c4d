/-
  The plain law on numbers: there and back.
-/
import Derived.Test.YtimihpddlinmbaaDoorZ
import Derived.Test.YtimihpddlinmbaaDoorX
namespace Go.Proofs.YtimihpddlinmbaaDoor
set_option linter.unusedVariables false
set_option linter.unusedSimpArgs false

instance : NeZero P := ⟨by unfold P; omega⟩

/-- A number as a member of the field; a number in Montgomery's form. -/
def cm (u : Nat) : Fin P := Fin.ofNat P u
def mm (u : Nat) : Fin P := cm (u * ri)

theorem cm_val (u : Nat) : (cm u).val = u % P := rfl
theorem cm_eq {u v : Nat} (h : u % P = v % P) : cm u = cm v := Fin.ext h
theorem cm_inj {u v : Nat} (hu : u < P) (hv : v < P) (h : cm u = cm v) : u = v := by
  have := congrArg Fin.val h
  rwa [cm_val, cm_val, Nat.mod_eq_of_lt hu, Nat.mod_eq_of_lt hv] at this
theorem cm_mul (u v : Nat) : cm (u * v) = cm u * cm v := Fin.ext (by rw [Fin.val_mul, cm_val, cm_val, cm_val, ← Nat.mul_mod])
theorem cm_add (u v : Nat) : cm (u + v) = cm u + cm v := Fin.ext (by rw [Fin.val_add, cm_val, cm_val, cm_val, ← Nat.add_mod])
theorem cm_mod (u : Nat) : cm (u % P) = cm u := Fin.ext (by rw [cm_val, cm_val, Nat.mod_mod])
theorem cm_P : cm P = 0 := Fin.ext (by rw [cm_val, Nat.mod_self]; rfl)
theorem cm_one : cm 1 = 1 := rfl

theorem mm_def (u : Nat) : mm u = cm u * cm ri := cm_mul u ri
theorem mm_mt (x y : Nat) : mm (mt x y) = mm x * mm y := by
  rw [mm_def, mm_def, mm_def]; unfold mt; rw [cm_mod, cm_mul, cm_mul]; grind
theorem mm_ad (x y : Nat) : mm (ad x y) = mm x + mm y := by
  rw [mm_def, mm_def, mm_def]; unfold ad; rw [cm_mod, cm_add]; grind
theorem cm_sub (x y : Nat) (h : y ≤ P) : cm (x + (P - y)) = cm x - cm y := by
  have : cm (x + (P - y)) + cm y = cm x := by
    rw [← cm_add, show x + (P - y) + y = x + P by omega, cm_add, cm_P]; grind
  grind
theorem mm_sb (x y : Nat) (h : y ≤ P) : mm (sb x y) = mm x - mm y := by
  rw [mm_def, mm_def, mm_def]; unfold sb; rw [cm_mod, cm_sub x y h]; grind
/-- Into Montgomery's form and out of it. -/
theorem cm_out (y : Nat) : cm (mt y 1) = mm y := by
  unfold mt mm; rw [cm_mod, Nat.mul_one]
theorem rsq_ri : rsq * ri * ri % P = 1 := by unfold rsq ri P; decide +kernel
theorem mm_in (x : Nat) : mm (mt x rsq) = cm x := by
  rw [mm_mt, mm_def, mm_def]
  have : cm rsq * cm ri * cm ri = 1 := by rw [← cm_mul, ← cm_mul]; exact cm_eq (v := 1) (by rw [rsq_ri]; rfl)
  grind

theorem root_sq : ∀ l, l < 6 → mm (root (l + 1)) * mm (root (l + 1)) = mm (root l) := by
  have : ∀ l : Fin 6, root (l.val + 1) * ri * (root (l.val + 1) * ri) % P = root l.val * ri % P := by decide +kernel
  intro l hl
  unfold mm; rw [← cm_mul]; exact cm_eq (this ⟨l, hl⟩)
theorem rts : Rts (fun l => mm (root l)) 6 := by
  refine ⟨?_, ?_, root_sq⟩
  · exact cm_eq (v := 1) (by decide +kernel)
  · have h : cm (root 1 * ri + 1) = 0 := cm_eq (v := 0) (by decide +kernel)
    rw [cm_add] at h
    have e := cm_one
    show cm (root 1 * ri) = -1
    grind

theorem mm_pw (l : Nat) : ∀ i, mm (pw l i) = pr (mm (root l)) i
  | 0 => rts.one
  | i + 1 => by
    show mm (mt (pw l i) (root l)) = _
    rw [mm_mt, mm_pw l i, pr_succ]
theorem mm_tw (l i z : Nat) : mm (tw l i z) = pr (mm (root l)) i * mm z := by
  unfold tw; split
  · subst i; rw [pr_zero]; grind
  · rw [mm_mt, mm_pw]
theorem tw_lt (l i z : Nat) (hz : z < P) : tw l i z < P := by
  unfold tw; split
  · exact hz
  · exact mt_lt _ _

theorem brev_low : ∀ l : Fin 6, ∀ j : Fin 32, j.val < 2 ^ l.val → brev (l.val + 1) j.val = 2 * brev l.val j.val ∧ brev (l.val + 1) (2 ^ l.val + j.val) = 2 * brev l.val j.val + 1 := by decide +kernel

/-- Block c after l stages. -/
theorem stages_dft (g : Nat → Nat) (hg : ∀ i, g i < P) : ∀ (l : Nat), l ≤ 6 → ∀ (c : Nat) (F : Nat → Fin P), (∀ j, j < 2 ^ l → mm (g (c * 2 ^ l + j)) = F (brev l j)) →
    ∀ i, i < 2 ^ l → mm (stages g l (c * 2 ^ l + i)) = dft (fun l => mm (root l)) l F i
  | 0, _, c, F, h, i, hi => by
    obtain rfl : i = 0 := by omega
    have := h 0 (by omega)
    show mm (g _) = _
    rw [this]
    unfold dft
    rw [show 2 ^ 0 = 0 + 1 from rfl, sm_succ, sm_zero, pr_zero]
    show F 0 = _
    grind
  | l + 1, hl, c, F, h, i, hi => by
    have hl5 : l < 6 := by omega
    have hy := small_pow l hl5
    have hp := Nat.two_pow_pos l
    have hb : ∀ j, j < 2 ^ l → brev (l + 1) j = 2 * brev l j ∧ brev (l + 1) (2 ^ l + j) = 2 * brev l j + 1 := by
      intro j hj
      have : 2 ^ l ≤ 2 ^ 5 := Nat.pow_le_pow_right (by omega) (by omega)
      exact brev_low ⟨l, hl5⟩ ⟨j, by omega⟩ hj
    have h0 := stages_dft g hg l (by omega) (2 * c) (fun m => F (2 * m)) fun j hj => by
      have := h j (by rw [Nat.pow_succ]; omega)
      rw [(hb j hj).1] at this
      rw [show 2 * c * 2 ^ l + j = c * 2 ^ (l + 1) + j by rw [Nat.pow_succ]; congr 1; ac_rfl]; exact this
    have h1 := stages_dft g hg l (by omega) (2 * c + 1) (fun m => F (2 * m + 1)) fun j hj => by
      have := h (2 ^ l + j) (by rw [Nat.pow_succ]; omega)
      rw [(hb j hj).2] at this
      rw [show (2 * c + 1) * 2 ^ l + j = c * 2 ^ (l + 1) + (2 ^ l + j) by rw [Nat.pow_succ, Nat.succ_mul, Nat.add_assoc]; congr 1; ac_rfl]; exact this
    rw [rts.split l i F hl5]
    show mm (stage (l + 1) (2 ^ l) (stages g l) (c * 2 ^ (l + 1) + i)) = _
    have ec : c * 2 ^ (l + 1) = 2 * c * 2 ^ l := by rw [Nat.pow_succ]; ac_rfl
    have ec1 : (2 * c + 1) * 2 ^ l = 2 * c * 2 ^ l + 2 ^ l := by rw [Nat.succ_mul]
    rw [Nat.pow_succ] at hi
    have hu := rts.half l hl5
    rw [ec]
    unfold stage
    by_cases hlt : i < 2 ^ l
    · have e1 : (2 * c * 2 ^ l + i) / 2 ^ l % 2 = 0 := by rw [Nat.mul_comm (2 * c), Nat.mul_add_div hp, Nat.div_eq_of_lt hlt]; omega
      have e2 : (2 * c * 2 ^ l + i) % 2 ^ l = i := by rw [Nat.mul_comm (2 * c), Nat.mul_add_mod, Nat.mod_eq_of_lt hlt]
      rw [if_pos e1, e2, mm_ad, mm_tw, h0 i hlt, show 2 * c * 2 ^ l + i + 2 ^ l = (2 * c + 1) * 2 ^ l + i by rw [ec1]; omega, h1 i hlt]
    · obtain ⟨j, rfl⟩ : ∃ j, i = 2 ^ l + j := ⟨i - 2 ^ l, by omega⟩
      have hj : j < 2 ^ l := by omega
      have e1 : (2 * c * 2 ^ l + (2 ^ l + j)) / 2 ^ l % 2 = 1 := by
        rw [← Nat.add_assoc, ← ec1, Nat.mul_comm (2 * c + 1), Nat.mul_add_div hp, Nat.div_eq_of_lt hj]; omega
      have e2 : (2 * c * 2 ^ l + (2 ^ l + j)) % 2 ^ l = j := by rw [← Nat.add_assoc, ← ec1, Nat.mul_comm (2 * c + 1), Nat.mul_add_mod, Nat.mod_eq_of_lt hj]
      have es : ∀ F : Nat → Fin P, dft (fun l => mm (root l)) l F (2 ^ l + j) = dft (fun l => mm (root l)) l F j := fun F => rts.same l _ _ F (by omega) (Nat.add_mod_left _ _)
      rw [if_neg (by omega), e2, mm_sb _ _ (Nat.le_of_lt (tw_lt _ _ _ (stages_lt g hg l _))), mm_tw, show 2 * c * 2 ^ l + (2 ^ l + j) - 2 ^ l = 2 * c * 2 ^ l + j by omega, h0 j hj,
        show 2 * c * 2 ^ l + (2 ^ l + j) = (2 * c + 1) * 2 ^ l + j by rw [ec1]; omega, h1 j hj, es, es, pr_add]
      rw [hu]
      grind

/-- The transform on numbers is the transform. -/
theorem ntt_dft (k : Nat) (f : Nat → Nat) (hk : k < 7) (hf : ∀ i, f i < P) (i : Nat) (hi : i < 2 ^ k) : mm (ntt k f i) = dft (fun l => mm (root l)) k (fun i => mm (f i)) i := by
  have := stages_dft (fun i => f (brev k i)) (fun i => hf _) k (by omega) 0 (fun i => mm (f i)) (fun j hj => by rw [Nat.zero_mul, Nat.zero_add]) i hi
  rwa [Nat.zero_mul, Nat.zero_add] at this
theorem inv_dft (k : Nat) (f : Nat → Nat) (hk : k < 7) (hf : ∀ i, f i < P) (i : Nat) (hi : i < 2 ^ k) : mm (inv k f i) = dft (fun l => mm (root l)) k (fun i => mm (f i)) ((2 ^ k - 1) * i) := by
  have hp := Nat.two_pow_pos k
  unfold inv
  split
  · subst i; rw [ntt_dft k f hk hf 0 hp, Nat.mul_zero]
  · rw [ntt_dft k f hk hf _ (by omega)]
    refine rts.same k _ _ _ (by omega) ?_
    have h1 : (2 ^ k - 1) * i = (2 ^ k - i) + 2 ^ k * (i - 1) := by
      obtain ⟨s, hs⟩ : ∃ s, 2 ^ k = s + 1 := ⟨2 ^ k - 1, by omega⟩
      obtain ⟨j, rfl⟩ : ∃ j, i = j + 1 := ⟨i - 1, by omega⟩
      rw [hs, Nat.add_sub_cancel, Nat.add_sub_cancel, Nat.mul_succ, Nat.succ_mul]; omega
    rw [h1, Nat.add_mul_mod_self_left]

theorem fwd_dft (k : Nat) (f : Nat → Nat) (hk : k < 7) (i : Nat) (hi : i < 2 ^ k) : cm (fwd k f i) = dft (fun l => mm (root l)) k (fun i => cm (f i)) i := by
  unfold fwd; rw [cm_out, ntt_dft k _ hk (fun _ => mt_lt _ _) i hi]
  exact dft_congr _ _ _ fun m _ => mm_in _
theorem bck_dft (k : Nat) (f : Nat → Nat) (hk : k < 7) (i : Nat) (hi : i < 2 ^ k) : cm (bck k f i) = dft (fun l => mm (root l)) k (fun i => cm (f i)) ((2 ^ k - 1) * i) := by
  unfold bck; rw [cm_out, inv_dft k _ hk (fun _ => mt_lt _ _) i hi]
  exact dft_congr _ _ _ fun m _ => mm_in _

theorem half_two : mm half * 2 = 1 := by
  have : cm (half * ri * 2) = 1 := cm_eq (v := 1) (by decide +kernel)
  rw [cm_mul] at this
  exact this
theorem mm_invTwo : ∀ k, mm (invTwo k) * pr 2 k = 1
  | 0 => by rw [pr_zero]; have := rts.one; show mm (root 0) * 1 = 1; rw [this]; grind
  | k + 1 => by
    show mm (mt (invTwo k) half) * _ = 1
    have h1 := mm_invTwo k
    have h2 := half_two
    rw [mm_mt, pr_succ]; grind
theorem hv_cm (k x : Nat) : cm (hv k x) * pr 2 k = cm x := by
  unfold hv
  rw [cm_out, mm_mt, mm_in, mm_in, cm_out]
  have := mm_invTwo k
  grind
/-- What was scaled up by 2^k comes down. -/
theorem hv_down (k x y : Nat) (hy : y < P) (h : cm x = pr 2 k * cm y) : hv k x = y := by
  have h1 := hv_cm k x
  have h2 := mm_invTwo k
  refine cm_inj (mt_lt _ _) hy ?_
  rw [h] at h1
  grind

theorem law (k : Nat) (f : Nat → Nat) (hk : k < 7) (hf : ∀ i, i < 2 ^ k → f i < P) :
    (∀ i, i < 2 ^ k → hv k (bck k (fwd k f) i) = f i) ∧ (∀ i, i < 2 ^ k → hv k (fwd k (bck k f) i) = f i) := by
  have hp := Nat.two_pow_pos k
  constructor
  · intro i hi
    refine hv_down k _ _ (hf i hi) ?_
    rw [bck_dft k _ hk i hi, dft_congr _ _ _ (G := dft (fun l => mm (root l)) k (fun i => cm (f i))) fun m hm => fwd_dft k f hk m hm, rts.there k _ (by omega) i hi]
  · intro i hi
    refine hv_down k _ _ (hf i hi) ?_
    rw [fwd_dft k _ hk i hi, dft_congr _ _ _ (G := fun i => dft (fun l => mm (root l)) k (fun i => cm (f i)) ((2 ^ k - 1) * i)) fun m hm => bck_dft k f hk m hm, rts.back k _ (by omega) i hi]
end Go.Proofs.YtimihpddlinmbaaDoor
