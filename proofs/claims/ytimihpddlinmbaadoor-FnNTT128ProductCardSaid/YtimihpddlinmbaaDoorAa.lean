/-
  The plain law on numbers: the transform of a product.
-/
import Derived.Test.YtimihpddlinmbaaDoorA
import Derived.Test.YtimihpddlinmbaaDoorLd
namespace Go.Proofs.YtimihpddlinmbaaDoor
set_option linter.unusedVariables false
set_option linter.unusedSimpArgs false

theorem sm_put {q : Nat} [NeZero q] (h h' c : Nat → Fin q) (s n : Nat) (v : Fin q) (hs : s < n) (e : ∀ j, h' j = if j = s then h j + v else h j) :
    sm (fun j => h' j * c j) n = sm (fun j => h j * c j) n + v * c s := by
  rw [sm_congr (g := fun j => h j * c j + if j = s then v * c s else 0) fun j _ => by
    rw [e j]
    by_cases hj : j = s
    · rw [if_pos hj, if_pos hj, hj]; grind
    · rw [if_neg hj, if_neg hj]; grind]
  rw [sm_add]
  congr 1
  rw [sm_only hs fun j _ hj => by rw [if_neg hj], if_pos rfl]

theorem prow_sum (x y : Nat → Nat) (i : Nat) (g : Nat → Nat) (a : Fin P) (M : Nat) : ∀ k, i + k ≤ M →
    sm (fun j => cm (prow x y i g k j) * pr a j) M = sm (fun j => cm (g j) * pr a j) M + sm (fun l => cm (x i) * cm (y l) * pr a (i + l)) k
  | 0, _ => by
    rw [sm_zero]
    show sm (fun j => cm (g j) * pr a j) M = _
    grind
  | k + 1, h => by
    have h1 := prow_sum x y i g a M k (by omega)
    rw [sm_succ]
    rw [sm_put (fun j => cm (prow x y i g k j)) (fun j => cm (prow x y i g (k + 1) j)) (pr a) (i + k) M (cm (x i) * cm (y k)) (by omega) (fun j => by
      show cm (if j = i + k then _ else _) = _
      by_cases e : j = i + k
      · rw [if_pos e, if_pos e, cm_mod, cm_add, cm_mod, cm_mul]
      · rw [if_neg e, if_neg e]), h1]
    grind
theorem prows_sum (x y : Nat → Nat) (n : Nat) (a : Fin P) (M : Nat) (hM : n + n ≤ M + 1) : ∀ i, i ≤ n →
    sm (fun j => cm (prows x y n i j) * pr a j) M = sm (fun i => sm (fun l => cm (x i) * cm (y l) * pr a (i + l)) n) i
  | 0, _ => by
    rw [sm_zero, sm_congr (g := fun _ => 0) fun j _ => by show cm 0 * _ = _; rw [show cm 0 = 0 from rfl]; grind, sm_nil]
  | i + 1, h => by
    rw [sm_succ, ← prows_sum x y n a M hM i (by omega)]
    exact prow_sum x y i (prows x y n i) a M n (by omega)
theorem folds_sum (g : Nat → Nat) (n : Nat) (a : Fin P) (hn : 0 < n) (ha : ∀ i, pr a (i % n) = pr a i) : ∀ i,
    sm (fun j => cm (folds g n i j) * pr a j) n = sm (fun m => cm (g m) * pr a m) i
  | 0 => by
    rw [sm_zero, sm_congr (g := fun _ => 0) fun j _ => by show cm 0 * _ = _; rw [show cm 0 = 0 from rfl]; grind, sm_nil]
  | i + 1 => by
    rw [sm_succ, ← folds_sum g n a hn ha i, ← ha i]
    exact sm_put (fun j => cm (folds g n i j)) (fun j => cm (folds g n (i + 1) j)) (pr a) (i % n) n (cm (g i)) (Nat.mod_lt _ hn) (fun j => by
      show cm (if j = i % n then _ else _) = _
      by_cases e : j = i % n
      · rw [if_pos e, if_pos e, cm_mod, cm_add]
      · rw [if_neg e, if_neg e])

theorem want_sum (x y : Nat → Nat) (n : Nat) (a : Fin P) (hn : 0 < n) (ha : ∀ i, pr a (i % n) = pr a i) :
    sm (fun j => cm (want x y n j) * pr a j) n = sm (fun m => cm (x m) * pr a m) n * sm (fun m => cm (y m) * pr a m) n := by
  unfold want
  rw [folds_sum _ n a hn ha, prows_sum x y n a (2 * n - 1) (by omega) n (Nat.le_refl _)]
  rw [sm_congr (g := fun i => sm (fun m => cm (y m) * pr a m) n * (cm (x i) * pr a i)) fun i _ => by
    rw [show sm (fun m => cm (y m) * pr a m) n * (cm (x i) * pr a i) = (cm (x i) * pr a i) * sm (fun m => cm (y m) * pr a m) n by grind, ← sm_mul]
    exact sm_congr fun l _ => by rw [pr_add]; grind]
  rw [sm_mul]; grind

theorem cm_pt (a b : Nat) : cm (pt a b) = cm a * cm b := by
  unfold pt; rw [cm_out, mm_mt, mm_in, mm_in]

theorem law_product (k : Nat) (x y : Nat → Nat) (hk : k < 7) (hx : ∀ i, i < 2 ^ k → x i < P) (hy : ∀ i, i < 2 ^ k → y i < P) :
    ∀ i, i < 2 ^ k → hv k (bck k (fun i => pt (fwd k x i) (fwd k y i)) i) = want x y (2 ^ k) i := by
  intro i hi
  refine hv_down k _ _ (folds_lt _ _ _ _) ?_
  rw [bck_dft k _ hk i hi, dft_congr _ _ _ (G := dft (fun l => mm (root l)) k (fun j => cm (want x y (2 ^ k) j))) fun m hm => by
    rw [cm_pt, fwd_dft k x hk m hm, fwd_dft k y hk m hm]
    unfold dft
    rw [want_sum x y (2 ^ k) (pr (mm (root k)) m) (Nat.two_pow_pos k) fun j => by
      rw [← pr_mul, ← pr_mul, Nat.mul_comm, pr_mul, Nat.mul_comm m, pr_mul]
      have := rts.mod k j (by omega)
      show pr (pr (mm (root k)) (j % 2 ^ k)) m = pr (pr (mm (root k)) j) m
      rw [show pr (mm (root k)) (j % 2 ^ k) = pr (mm (root k)) j from this]]]
  exact rts.there k _ (by omega) i hi
end Go.Proofs.YtimihpddlinmbaaDoor
