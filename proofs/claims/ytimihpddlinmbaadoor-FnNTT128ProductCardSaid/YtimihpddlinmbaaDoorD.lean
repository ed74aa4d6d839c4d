/-
  The row's argument, opened: a list of elements as bytes; and the package's variables, as they are laid.
-/
import Derived.Test.YtimihpddlinmbaaDoorRows
import Derived.Test.YtimihpddlinmbaaDoorL
import Derived.ProofKit
import Derived.LaidMore
import Derived.OpenShut
import Derived.OpenVars
import Derived.MakeChecks
import Derived.Lib.LaidTab
import Derived.Deep.Slices
import Derived.Stop.Joined
import Derived.Stop.LaidErr
namespace Go.Proofs.YtimihpddlinmbaaDoor
open Go.ChangeShapes Go.WideShapes Go.ChangeAt Go.RowKit Go.Deep
set_option linter.unusedVariables false
set_option linter.unusedSimpArgs false

/-- A list of lists of integers: one of them. -/
theorem nest {H : Type} {enc : TypeId × Value → H} {P : Program} {w : World} {base : Nat} {sp : Nat → Bool} {held : Bool} {fuel : Nat} {t e e1 : TypeId} {n m : Nat} {k : IntKind} {cs : List Value} {ds : List (DataW H)} {p : List MemPlace}
    (ht : P.underlying t = some (.array n e)) (he : P.underlying e = some (.array m e1)) (he1 : P.underlying e1 = some (.int k)) (hce1 : P.cellsOf e1 = 1) (hce : P.cellsOf e = m)
    (h : DataW.trod enc P w base sp held fuel t cs = some (.agg ds, p)) (i : Nat) (zs : List Int) (hi : i < n) (hd : ds[i]? = some (Lib.tabData k zs)) : (cs.drop (i * m)).take m = zs.map fun z => Value.int k z := by
  obtain ⟨xs, f, rfl, hx, hl, hn, hel⟩ := DataW.trod_array ht h
  have h1 := hel i hi
  have h2 : xs.map (·.1) = ds := (DataW.agg.inj (congrArg Prod.fst hx)).symm
  rw [← h2, List.getElem?_map, Option.map_eq_some_iff] at hd
  obtain ⟨y, hy, hy1⟩ := hd
  rw [hy, hce] at h1
  exact Lib.cells_of_tab he he1 hce1 hce (show _ = some (Lib.tabData k zs, y.2) from by rw [h1, ← hy1])

/-- The number that some bytes make. -/
def num (z : Nat → Int) : Nat → Nat
  | 0 => 0
  | S + 1 => num z S + (z S).toNat * 256 ^ S
theorem num_lt (z : Nat → Int) : ∀ S, (∀ j, j < S → 0 ≤ z j ∧ z j < 256) → num z S < 256 ^ S
  | 0, _ => by simp [num]
  | S + 1, h => by
    have h1 := num_lt z S fun j hj => h j (by omega)
    have h2 := h S (by omega)
    have h3 : (z S).toNat * 256 ^ S ≤ 255 * 256 ^ S := Nat.mul_le_mul_right _ (by omega)
    unfold num
    rw [Nat.pow_succ]; omega
theorem num_bt (z : Nat → Int) : ∀ S, (∀ j, j < S → 0 ≤ z j ∧ z j < 256) → ∀ j, j < S → ((bt (num z S) j : Nat) : Int) = z j
  | 0, _, j, hj => by omega
  | S + 1, h, j, hj => by
    have h1 := num_lt z S fun j hj => h j (by omega)
    by_cases e : j = S
    · subst e
      unfold bt num
      have h2 := h j (by omega)
      rw [Nat.add_mul_div_right _ _ (Nat.pow_pos (by omega)), Nat.div_eq_of_lt h1, Nat.zero_add, Nat.mod_eq_of_lt (by omega)]
      omega
    · have h4 := num_bt z S (fun j hj => h j (by omega)) j (by omega)
      rw [← h4]
      congr 1
      unfold bt
      obtain ⟨d, hd⟩ : ∃ d, S = j + 1 + d := ⟨S - j - 1, by omega⟩
      have h5 : num z (S + 1) = num z S + (256 ^ d * (z S).toNat * 256) * 256 ^ j := by
        show num z S + (z S).toNat * 256 ^ S = _
        congr 1
        rw [hd, Nat.pow_add, Nat.pow_succ]; ac_rfl
      rw [h5, Nat.add_mul_div_right _ _ (Nat.pow_pos (by omega)), Nat.add_mul_mod_self_right]

/-- An array of bytes: its cells. -/
theorem open_bytes {H : Type} {enc : TypeId × Value → H} {P : Program} {w : World} {base : Nat} {sp : Nat → Bool} {held : Bool} {fuel : Nat} {t e : TypeId} {S : Nat} {cs : List Value} {x : DataW H × List MemPlace}
    (ht : P.underlying t = some (.array S e)) (he : P.underlying e = some (.int .u8)) (hce : P.cellsOf e = 1) (h : DataW.trod enc P w base sp held fuel t cs = some x) :
    ∃ z : Nat → Int, ∀ j, j < S → cs[j]? = some (.int .u8 (z j)) ∧ 0 ≤ z j ∧ z j < 256 := by
  obtain ⟨xs, f, rfl, hx, hl, hn, hel⟩ := DataW.trod_array ht h
  obtain ⟨z, hz⟩ := choose_lt (n := S) (α := Int) (p := fun j z => cs[j]? = some (.int .u8 z) ∧ 0 ≤ z ∧ z < 256) (fun j hj => by
    have h1 := hel j hj
    rw [hce, Nat.mul_one, List.getElem?_eq_getElem (by omega)] at h1
    obtain ⟨k, e1, e2, hw⟩ := DataW.trod_int he h1
    refine ⟨k, ?_, ?_⟩
    · have := congrArg (fun l => l[0]?) e1
      simpa [List.getElem?_take, List.getElem?_drop] using this
    · have h2 : 0 ≤ k ∧ k ≤ 255 := by simpa [Lit.wf, IntKind.min, IntKind.max, IntKind.signed, IntKind.bits] using hw
      omega)
  exact ⟨z, hz⟩

theorem addr_plus (b o j : Nat) : (⟨b, o, none⟩ : Addr).add j = ⟨b, o + j, none⟩ := by
  unfold Addr.add
  by_cases h : j = 0
  · subst h; rfl
  · rw [if_neg h]

/-- The argument: nothing, or n elements. -/
theorem open_arg {H : Type} {enc : TypeId × Value → H} {W : World} {v : Value} {d : DataW H} {p : List MemPlace} {r : Reach} {b0 : Nat} (hval : Value.okWide Tryd.prog W r b0 22 v) (h : DataW.Trod enc Tryd.prog W 0 (fun _ => true) true 22 v d p) :
    ∃ q n cp, v = .slice q n cp ∧ (n = 0 ∨ ∃ b o f, q = some ⟨b, o, none⟩ ∧ 0 < n ∧ (∀ i, i < n → f i < 256 ^ 16) ∧ BRow W b o n f) := by
  obtain ⟨fuel, hf⟩ := h
  have hv : ∃ q n cp, v = .slice q n cp ∧ v.cells.toList = [.slice q n cp] := by
    cases v <;> simp [Value.okWide, Tryd.underlying22, Cell.okWide, Cell.ok, Value.cells] at hval ⊢
  obtain ⟨q, n, cp, rfl, hc⟩ := hv
  refine ⟨q, n, cp, rfl, ?_⟩
  rw [hc] at hf
  rcases open_slice Tryd.underlying22 hf with ⟨h0, _⟩ | ⟨a, len, cap, m, k, D, Pl, h0, _, hl, _, hm, _, hel⟩
  · simp at h0
    exact Or.inl h0.2.1
  · simp only [List.cons.injEq, Value.slice.injEq, and_true] at h0
    obtain ⟨rfl, rfl, rfl⟩ := h0
    by_cases hn : n = 0
    · exact Or.inl hn
    right
    have hcE : Tryd.prog.cellsOf 30 = 16 := by kernel_rfl
    rw [hcE] at hel
    have hm' : n ≤ m := by rw [hm]; simp; exact hl
    obtain ⟨b, o, spot⟩ := a
    obtain ⟨f, hfz⟩ := choose_lt (n := n) (α := Nat) (p := fun i x => x < 256 ^ 16 ∧ ∀ j, j < 16 → W.cell? ((⟨b, o, spot⟩ : Addr).add (i * 16 + j)) = some (.int .u8 ((bt x j : Nat) : Int))) (fun i hi => by
      obtain ⟨cs', h1, h2⟩ := hel i (by omega)
      obtain ⟨_, hlen, hcell⟩ := World.cells?_some h1
      obtain ⟨z, hz⟩ := open_bytes Tryd.underlying30 Tryd.underlying5 (by kernel_rfl) h2
      refine ⟨num z 16, num_lt z 16 fun j hj => (hz j hj).2, fun j hj => ?_⟩
      rw [← add_add, hcell j hj, (hz j hj).1, num_bt z 16 (fun j hj => (hz j hj).2) j hj])
    have hs : spot = none := by
      have := (hfz 0 (by omega)).2 0 (by omega)
      simp only [Nat.zero_mul, Nat.add_zero] at this
      simpa [Addr.add] using World.cell?_spot this
    subst hs
    refine ⟨b, o, f, rfl, by omega, fun i hi => (hfz i hi).1, fun i hi j hj => ?_⟩
    have := (hfz i hi).2 j hj
    rw [addr_plus] at this
    rw [Nat.add_assoc]; exact this
end Go.Proofs.YtimihpddlinmbaaDoor
