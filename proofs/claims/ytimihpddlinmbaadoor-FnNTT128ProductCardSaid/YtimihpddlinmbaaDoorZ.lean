/-
  The plain law: the transform as a sum of powers, its way back, and what it does to a product.
-/
import Derived.Test.YtimihpddlinmbaaDoorM
import Derived.Test.YtimihpddlinmbaaDoorU
namespace Go.Proofs.YtimihpddlinmbaaDoor
set_option linter.unusedVariables false
set_option linter.unusedSimpArgs false

section ring
variable {q : Nat} [NeZero q]

def sm (f : Nat → Fin q) : Nat → Fin q
  | 0 => 0
  | n + 1 => sm f n + f n
def pr (a : Fin q) : Nat → Fin q
  | 0 => 1
  | n + 1 => pr a n * a

theorem pr_zero (a : Fin q) : pr a 0 = 1 := rfl
theorem pr_succ (a : Fin q) (n : Nat) : pr a (n + 1) = pr a n * a := rfl
theorem sm_zero (f : Nat → Fin q) : sm f 0 = 0 := rfl
theorem sm_succ (f : Nat → Fin q) (n : Nat) : sm f (n + 1) = sm f n + f n := rfl
theorem pr_add (a : Fin q) (m n : Nat) : pr a (m + n) = pr a m * pr a n := by
  induction n with
  | zero => rw [Nat.add_zero, pr_zero]; grind
  | succ n ih => rw [← Nat.add_assoc, pr_succ, ih, pr_succ]; grind
theorem pr_one (n : Nat) : pr (1 : Fin q) n = 1 := by
  induction n with
  | zero => rfl
  | succ n ih => rw [pr_succ, ih]; grind
theorem pr_times (a b : Fin q) (n : Nat) : pr (a * b) n = pr a n * pr b n := by
  induction n with
  | zero => rw [pr_zero, pr_zero, pr_zero]; grind
  | succ n ih => rw [pr_succ, ih, pr_succ, pr_succ]; grind
theorem pr_mul (a : Fin q) (m n : Nat) : pr a (m * n) = pr (pr a m) n := by
  induction n with
  | zero => rfl
  | succ n ih => rw [Nat.mul_succ, pr_add, ih, pr_succ]
theorem sm_congr {f g : Nat → Fin q} {n : Nat} (h : ∀ i, i < n → f i = g i) : sm f n = sm g n := by
  induction n with
  | zero => rfl
  | succ n ih => rw [sm_succ, sm_succ, ih fun i hi => h i (by omega), h n (by omega)]
theorem sm_nil (n : Nat) : sm (fun _ => (0 : Fin q)) n = 0 := by
  induction n with
  | zero => rfl
  | succ n ih => rw [sm_succ, ih]; grind
theorem sm_add (f g : Nat → Fin q) (n : Nat) : sm (fun i => f i + g i) n = sm f n + sm g n := by
  induction n with
  | zero => rw [sm_zero, sm_zero, sm_zero]; grind
  | succ n ih => rw [sm_succ, ih, sm_succ, sm_succ]; grind
theorem sm_mul (c : Fin q) (f : Nat → Fin q) (n : Nat) : sm (fun i => c * f i) n = c * sm f n := by
  induction n with
  | zero => rw [sm_zero, sm_zero]; grind
  | succ n ih => rw [sm_succ, ih, sm_succ]; grind
theorem sm_swap (f : Nat → Nat → Fin q) (n m : Nat) : sm (fun i => sm (fun j => f i j) m) n = sm (fun j => sm (fun i => f i j) n) m := by
  induction n with
  | zero => simp only [sm_zero]; rw [sm_nil]
  | succ n ih => simp only [sm_succ]; rw [ih, sm_add]
theorem sm_two (f : Nat → Fin q) (n : Nat) : sm f (2 * n) = sm (fun i => f (2 * i)) n + sm (fun i => f (2 * i + 1)) n := by
  induction n with
  | zero => simp only [Nat.mul_zero, sm_zero]; grind
  | succ n ih => rw [Nat.mul_succ, sm_succ, sm_succ, ih, sm_succ, sm_succ]; grind
theorem sm_only {f : Nat → Fin q} {n j : Nat} (hj : j < n) (h : ∀ i, i < n → i ≠ j → f i = 0) : sm f n = f j := by
  induction n with
  | zero => omega
  | succ n ih =>
    rw [sm_succ]
    by_cases e : j = n
    · subst e
      rw [sm_congr (g := fun _ => 0) (fun i hi => h i (by omega) (by omega)), sm_nil]; grind
    · rw [ih (by omega) fun i hi => h i (by omega), h n (by omega) (by omega)]; grind

/-- Roots of unity: each the square of the next one, and the one behind 1 is -1. -/
structure Rts (r : Nat → Fin q) (K : Nat) : Prop where
  one : r 0 = 1
  neg : r 1 = -1
  sq : ∀ l, l < K → r (l + 1) * r (l + 1) = r l

theorem Rts.half {r : Nat → Fin q} {K : Nat} (h : Rts r K) : ∀ l, l < K → pr (r (l + 1)) (2 ^ l) = -1
  | 0, _ => by rw [show 2 ^ 0 = 0 + 1 from rfl, pr_succ, pr_zero, h.neg]; grind
  | l + 1, hl => by
    rw [Nat.pow_succ, Nat.mul_comm, pr_mul]
    have e : pr (r (l + 1 + 1)) 2 = r (l + 1) := by rw [show 2 = 0 + 1 + 1 from rfl, pr_succ, pr_succ, pr_zero, ← h.sq _ hl]; grind
    rw [e]; exact h.half l (by omega)
theorem Rts.full {r : Nat → Fin q} {K : Nat} (h : Rts r K) (l : Nat) (hl : l ≤ K) : pr (r l) (2 ^ l) = 1 := by
  rcases l with _ | l
  · rw [show 2 ^ 0 = 0 + 1 from rfl, pr_succ, pr_zero, h.one]; grind
  · rw [Nat.pow_succ, pr_mul, h.half l (by omega), show 2 = 0 + 1 + 1 from rfl, pr_succ, pr_succ, pr_zero]; grind
theorem Rts.turn {r : Nat → Fin q} {K : Nat} (h : Rts r K) (l i c : Nat) (hl : l ≤ K) : pr (r l) (2 ^ l * c + i) = pr (r l) i := by
  rw [pr_add, pr_mul, h.full l hl, pr_one]; grind
theorem Rts.mod {r : Nat → Fin q} {K : Nat} (h : Rts r K) (l i : Nat) (hl : l ≤ K) : pr (r l) (i % 2 ^ l) = pr (r l) i := by
  have := h.turn l (i % 2 ^ l) (i / 2 ^ l) hl
  rw [Nat.div_add_mod] at this
  exact this.symm

/-- The sum of all powers of a power of a root. -/
theorem Rts.orth {r : Nat → Fin q} {K : Nat} (h : Rts r K) : ∀ (l t : Nat), l ≤ K → sm (fun i => pr (pr (r l) t) i) (2 ^ l) = if t % 2 ^ l = 0 then pr 2 l else 0
  | 0, t, _ => by
    rw [show 2 ^ 0 = 0 + 1 from rfl, sm_succ, sm_zero, pr_zero, pr_zero, if_pos (Nat.mod_one _)]; grind
  | l + 1, t, hl => by
    have h2 : pr (pr (r (l + 1)) t) 2 = pr (r l) t := by
      rw [← pr_mul, Nat.mul_comm, pr_mul]
      congr 1
      rw [show 2 = 0 + 1 + 1 from rfl, pr_succ, pr_succ, pr_zero, ← h.sq l (by omega)]; grind
    have h1 : ∀ i, pr (pr (r (l + 1)) t) (2 * i) = pr (pr (r l) t) i := fun i => by rw [pr_mul, h2]
    rw [Nat.pow_succ, Nat.mul_comm, sm_two]
    simp only [pr_succ, h1]
    rw [sm_congr (f := fun i => pr (pr (r l) t) i * pr (r (l + 1)) t) (g := fun i => pr (r (l + 1)) t * pr (pr (r l) t) i) (fun i _ => by grind), sm_mul, h.orth l t (by omega)]
    by_cases e : t % 2 ^ l = 0
    · obtain ⟨s, hs⟩ : ∃ s, t = 2 ^ l * s := ⟨t / 2 ^ l, by have := Nat.div_add_mod t (2 ^ l); omega⟩
      have h3 : pr (r (l + 1)) t = pr (-1) s := by rw [hs, pr_mul, h.half l (by omega)]
      have h4 : pr (-1 : Fin q) s = if s % 2 = 0 then 1 else -1 := by
        clear hs h3
        induction s with
        | zero => rfl
        | succ s ih =>
          rw [pr_succ, ih]
          rcases Nat.mod_two_eq_zero_or_one s with e | e
          · rw [if_pos e, if_neg (by omega)]; grind
          · rw [if_neg (by omega), if_pos (by omega)]; grind
      have h5 : t % (2 * 2 ^ l) = 2 ^ l * (s % 2) := by rw [hs, Nat.mul_comm 2, Nat.mul_mod_mul_left]
      rw [if_pos e, h3, h4, h5]
      have := Nat.two_pow_pos l
      rcases Nat.mod_two_eq_zero_or_one s with e | e
      · rw [e, if_pos rfl, if_pos (Nat.mul_zero _)]; grind
      · rw [e, if_neg (by omega), if_neg (by omega)]; grind
    · have h6 : ¬ t % (2 * 2 ^ l) = 0 := by
        intro e2
        exact e (Nat.mod_eq_zero_of_dvd (Nat.dvd_trans (Nat.dvd_mul_left _ 2) (Nat.dvd_of_mod_eq_zero e2)))
      rw [if_neg e, if_neg h6]; grind

/-- The transform. -/
def dft (r : Nat → Fin q) (k : Nat) (F : Nat → Fin q) (i : Nat) : Fin q := sm (fun m => F m * pr (pr (r k) i) m) (2 ^ k)

theorem dft_congr (r : Nat → Fin q) (k i : Nat) {F G : Nat → Fin q} (h : ∀ m, m < 2 ^ k → F m = G m) : dft r k F i = dft r k G i := by
  unfold dft; exact sm_congr fun m hm => by rw [h m hm]
theorem Rts.same {r : Nat → Fin q} {K : Nat} (h : Rts r K) (k i j : Nat) (F : Nat → Fin q) (hk : k ≤ K) (e : i % 2 ^ k = j % 2 ^ k) : dft r k F i = dft r k F j := by
  unfold dft; rw [← h.mod k i hk, e, h.mod k j hk]
theorem Rts.split {r : Nat → Fin q} {K : Nat} (h : Rts r K) (k i : Nat) (F : Nat → Fin q) (hk : k < K) :
    dft r (k + 1) F i = dft r k (fun m => F (2 * m)) i + pr (r (k + 1)) i * dft r k (fun m => F (2 * m + 1)) i := by
  have h2 : pr (pr (r (k + 1)) i) 2 = pr (r k) i := by
    rw [← pr_mul, Nat.mul_comm, pr_mul]
    congr 1
    rw [show 2 = 0 + 1 + 1 from rfl, pr_succ, pr_succ, pr_zero, ← h.sq k hk]; grind
  have e1 : ∀ m, pr (pr (r (k + 1)) i) (2 * m) = pr (pr (r k) i) m := fun m => by rw [pr_mul, h2]
  have e2 : ∀ m, pr (pr (r (k + 1)) i) (2 * m + 1) = pr (pr (r k) i) m * pr (r (k + 1)) i := fun m => by rw [pr_succ, e1]
  unfold dft
  rw [Nat.pow_succ, Nat.mul_comm, sm_two, ← sm_mul]
  rw [sm_congr (f := fun m => F (2 * m) * pr (pr (r (k + 1)) i) (2 * m)) fun m _ => by rw [e1 m]]
  congr 1
  exact sm_congr fun m _ => by rw [e2 m]; grind

/-- There and back. -/
theorem Rts.round {r : Nat → Fin q} {K : Nat} (h : Rts r K) (k : Nat) (F : Nat → Fin q) (hk : k ≤ K) (u : Nat → Nat) (j : Nat) (x : Nat) (hx : x < 2 ^ k) (hu : ∀ m, m < 2 ^ k → ((u m + j) % 2 ^ k = 0 ↔ m = x)) :
    sm (fun i => sm (fun m => F m * pr (pr (r k) i) (u m)) (2 ^ k) * pr (pr (r k) j) i) (2 ^ k) = pr 2 k * F x := by
  have h1 : ∀ i, sm (fun m => F m * pr (pr (r k) i) (u m)) (2 ^ k) * pr (pr (r k) j) i = sm (fun m => F m * pr (pr (r k) (u m + j)) i) (2 ^ k) := by
    intro i
    rw [show sm (fun m => F m * pr (pr (r k) i) (u m)) (2 ^ k) * pr (pr (r k) j) i = pr (pr (r k) j) i * sm (fun m => F m * pr (pr (r k) i) (u m)) (2 ^ k) by grind, ← sm_mul]
    refine sm_congr fun m _ => ?_
    have e : pr (pr (r k) i) (u m) = pr (pr (r k) (u m)) i := by rw [← pr_mul, Nat.mul_comm, pr_mul]
    rw [e, pr_add, pr_times]; grind
  rw [sm_congr fun i _ => h1 i, sm_swap]
  rw [sm_congr (g := fun m => F m * if (u m + j) % 2 ^ k = 0 then pr 2 k else 0) fun m _ => by rw [sm_mul, h.orth k _ hk]]
  rw [sm_only hx fun m hm hne => by rw [if_neg fun e => hne ((hu m hm).1 e)]; grind]
  rw [if_pos ((hu x hx).2 rfl)]; grind

theorem mod_neg (n j m : Nat) (hn : 0 < n) (hj : j < n) (hm : m < n) : (m + (n - 1) * j) % n = 0 ↔ m = j := by
  obtain ⟨s, rfl⟩ : ∃ s, n = s + 1 := ⟨n - 1, by omega⟩
  rw [Nat.add_sub_cancel]
  by_cases h : j ≤ m
  · rw [show m + s * j = (m - j) + (s + 1) * j by rw [Nat.succ_mul]; omega, Nat.add_mul_mod_self_left, Nat.mod_eq_of_lt (by omega)]; omega
  · obtain ⟨i, rfl⟩ : ∃ i, j = i + 1 := ⟨j - 1, by omega⟩
    rw [show m + s * (i + 1) = (m + (s - i)) + (s + 1) * i by rw [Nat.mul_succ, Nat.succ_mul]; omega, Nat.add_mul_mod_self_left, Nat.mod_eq_of_lt (by omega)]; omega

theorem Rts.there {r : Nat → Fin q} {K : Nat} (h : Rts r K) (k : Nat) (F : Nat → Fin q) (hk : k ≤ K) (j : Nat) (hj : j < 2 ^ k) :
    dft r k (dft r k F) ((2 ^ k - 1) * j) = pr 2 k * F j :=
  h.round k F hk (fun m => m) ((2 ^ k - 1) * j) j hj fun m hm => mod_neg _ _ _ (Nat.two_pow_pos k) hj hm
theorem Rts.back {r : Nat → Fin q} {K : Nat} (h : Rts r K) (k : Nat) (F : Nat → Fin q) (hk : k ≤ K) (j : Nat) (hj : j < 2 ^ k) :
    dft r k (fun i => dft r k F ((2 ^ k - 1) * i)) j = pr 2 k * F j := by
  rw [← h.round k F hk (fun m => (2 ^ k - 1) * m) j j hj fun m hm => by rw [Nat.add_comm, mod_neg _ _ _ (Nat.two_pow_pos k) hm hj]; exact ⟨fun e => e.symm, fun e => e.symm⟩]
  unfold dft
  refine sm_congr fun i _ => ?_
  congr 1
  refine sm_congr fun m _ => ?_
  rw [← pr_mul, ← pr_mul]
  congr 2
  rw [← Nat.mul_assoc, Nat.mul_comm i]
end ring
end Go.Proofs.YtimihpddlinmbaaDoor
