/-
  The plain transform, as the code carries it out: on numbers alone.
-/
import Derived.Test.YtimihpddlinmbaaDoorG
namespace Go.Proofs.YtimihpddlinmbaaDoor
set_option linter.unusedVariables false
set_option linter.unusedSimpArgs false

/-- The powers of the l-th root of unity. -/
def pw (l : Nat) : Nat → Nat
  | 0 => root 0
  | i + 1 => mt (pw l i) (root l)
/-- A power of the root times z; the first one is left out. -/
def tw (l i z : Nat) : Nat := if i = 0 then z else mt (pw l i) z
/-- One stage: y pairs a block. -/
def stage (l y : Nat) (g : Nat → Nat) (x : Nat) : Nat :=
  if x / y % 2 = 0 then ad (g x) (tw l (x % y) (g (x + y))) else sb (g (x - y)) (tw l (x % y) (g x))
/-- A stage under way: all pairs below i are done, and those at i in the first j blocks. -/
def part (l y i j : Nat) (g : Nat → Nat) (x : Nat) : Nat :=
  if x % y < i ∨ (x % y = i ∧ x / (2 * y) < j) then stage l y g x else g x
/-- l stages. -/
def stages (g : Nat → Nat) : Nat → Nat → Nat
  | 0 => g
  | l + 1 => stage (l + 1) (2 ^ l) (stages g l)
/-- The transform of 2^k numbers. -/
def ntt (k : Nat) (f : Nat → Nat) : Nat → Nat := stages (fun i => f (brev k i)) k

def Small (y : Nat) : Prop := y = 1 ∨ y = 2 ∨ y = 4 ∨ y = 8 ∨ y = 16 ∨ y = 32

theorem small_pow (l : Nat) (h : l < 6) : Small (2 ^ l) := by
  unfold Small
  rcases l with _ | _ | _ | _ | _ | _ | l <;> simp
  omega

theorem part_start (l y : Nat) (g : Nat → Nat) (x : Nat) : part l y 0 0 g x = g x := by
  unfold part; rw [if_neg]; rintro (h | ⟨_, h⟩) <;> exact Nat.not_lt_zero _ h
theorem part_end (l y : Nat) (g : Nat → Nat) (x : Nat) (hy : 0 < y) : part l y y 0 g x = stage l y g x := by
  unfold part; rw [if_pos (Or.inl (Nat.mod_lt _ hy))]
theorem part_row (l y i c n : Nat) (g : Nat → Nat) (x : Nat) (hy : Small y) (hn : n = c * (2 * y)) (hx : x < n) : part l y i c g x = part l y (i + 1) 0 g x := by
  unfold part
  by_cases h : x % y < i ∨ (x % y = i ∧ x / (2 * y) < c)
  · rw [if_pos h, if_pos (by omega)]
  · rw [if_neg h, if_neg ?_]
    have h4 : x / (2 * y) < c := Nat.div_lt_of_lt_mul (by rw [Nat.mul_comm]; omega)
    rintro (h5 | ⟨_, h5⟩)
    · by_cases h6 : x % y = i
      · exact h (Or.inr ⟨h6, h4⟩)
      · exact h (Or.inl (by omega))
    · exact Nat.not_lt_zero _ h5
theorem part_at (l y i j : Nat) (g : Nat → Nat) (hy : Small y) (hi : i < y) : part l y i j g (j * (2 * y) + i) = g (j * (2 * y) + i) := by
  unfold part
  rw [if_neg]
  rcases hy with rfl | rfl | rfl | rfl | rfl | rfl <;> omega
theorem part_at' (l y i j : Nat) (g : Nat → Nat) (hy : Small y) (hi : i < y) : part l y i j g (j * (2 * y) + i + y) = g (j * (2 * y) + i + y) := by
  unfold part
  rw [if_neg]
  rcases hy with rfl | rfl | rfl | rfl | rfl | rfl <;> omega
theorem part_next (l y i j : Nat) (g : Nat → Nat) (x : Nat) (hy : Small y) (hi : i < y) :
    part l y i (j + 1) g x = if x = j * (2 * y) + i + y then sb (g (j * (2 * y) + i)) (tw l i (g (j * (2 * y) + i + y))) else if x = j * (2 * y) + i then ad (g (j * (2 * y) + i)) (tw l i (g (j * (2 * y) + i + y))) else part l y i j g x := by
  by_cases h1 : x = j * (2 * y) + i + y
  · subst h1
    rw [if_pos rfl]
    unfold part
    have e1 : (j * (2 * y) + i + y) % y = i := by rcases hy with rfl | rfl | rfl | rfl | rfl | rfl <;> omega
    have e2 : (j * (2 * y) + i + y) / (2 * y) = j := by rcases hy with rfl | rfl | rfl | rfl | rfl | rfl <;> omega
    have e3 : (j * (2 * y) + i + y) / y % 2 = 1 := by rcases hy with rfl | rfl | rfl | rfl | rfl | rfl <;> omega
    rw [if_pos (by omega)]
    unfold stage
    rw [if_neg (by omega), e1, Nat.add_sub_cancel]
  · rw [if_neg h1]
    by_cases h2 : x = j * (2 * y) + i
    · subst h2
      rw [if_pos rfl]
      unfold part
      have e1 : (j * (2 * y) + i) % y = i := by rcases hy with rfl | rfl | rfl | rfl | rfl | rfl <;> omega
      have e2 : (j * (2 * y) + i) / (2 * y) = j := by rcases hy with rfl | rfl | rfl | rfl | rfl | rfl <;> omega
      have e3 : (j * (2 * y) + i) / y % 2 = 0 := by rcases hy with rfl | rfl | rfl | rfl | rfl | rfl <;> omega
      rw [if_pos (by omega)]
      unfold stage
      rw [if_pos (by omega), e1]
    · rw [if_neg h2]
      unfold part
      by_cases h3 : x % y < i ∨ (x % y = i ∧ x / (2 * y) < j)
      · rw [if_pos h3, if_pos (by omega)]
      · rw [if_neg h3, if_neg ?_]
        rcases hy with rfl | rfl | rfl | rfl | rfl | rfl <;> omega

theorem Small.pos {y : Nat} (h : Small y) : 0 < y := by rcases h with rfl | rfl | rfl | rfl | rfl | rfl <;> omega
theorem pair_lt (x y j c n i : Nat) (hy : Small y) (hn : n = c * (2 * y)) (hx : x = j * (2 * y)) (hj : j < c) (hi : i < y) : x + i < n ∧ x + i + y < n ∧ 0 < y := by
  have h1 : j * (2 * y) + 2 * y ≤ c * (2 * y) := by rw [← Nat.succ_mul]; exact Nat.mul_le_mul_right _ hj
  have := hy.pos
  omega

theorem stage_lt (l y : Nat) (g : Nat → Nat) (x : Nat) : stage l y g x < P := by
  unfold stage; split
  · exact ad_lt _ _
  · exact sb_lt _ _
theorem stages_lt (g : Nat → Nat) (h : ∀ i, g i < P) : ∀ (l i : Nat), stages g l i < P
  | 0, i => h i
  | l + 1, i => stage_lt _ _ _ _

theorem pw_lt (l i : Nat) (h : ∀ l, root l < P) : pw l i < P := by
  rcases i with _ | i
  · exact h 0
  · exact mt_lt _ _
end Go.Proofs.YtimihpddlinmbaaDoor
