/-
  The field of 128 bits: a list turned round, the transform back, and the thin package's transform.
-/
import Derived.Test.YtimihpddlinmbaaDoorT
import Derived.BigRegion
namespace Go.Proofs.YtimihpddlinmbaaDoor
open Go.RowKit
set_option linter.unusedVariables false
set_option linter.unusedSimpArgs false

/-- m elements from place o on; they may be written. -/
def ORow (w : World) (b o m : Nat) (h : Nat → Nat) : Prop := ∀ i, i < m → El w b (o + i * 2) (h i) ∧ Wt w b (o + i * 2)
/-- A list of m, turned round as far as t. -/
def turn (m t : Nat) (h : Nat → Nat) (i : Nat) : Nat := if i < t ∨ m < i + 1 + t then h (m - 1 - i) else h i

structure RevInv (w : World) (B b o m : Nat) (h : Nat → Nat) (wr : World) : Prop where
  below : Below B w wr
  size : w.heap.size ≤ wr.heap.size
  row : ORow wr b o m h
  low : ∀ j x, (j + 1 < o ∨ o + m * 2 ≤ j) → El w b j x → El wr b j x
  lowt : ∀ j, (j + 1 < o ∨ o + m * 2 ≤ j) → Wt w b j → Wt wr b j

theorem RevInv.put {w wr w' : World} {B b o m x y : Nat} {h : Nat → Nat} (hi : RevInv w B b o m h wr) (hB : B ≤ b) (hBw : B ≤ w.heap.size) (hx : x < m) (h2 : Wr wr b (o + x * 2) (lim y) w') :
    RevInv w B b o m (fun i => if i = x then y else h i) w' := by
  refine ⟨hi.below.trans (h2.keep hB (by have := hi.size; omega)), by have := hi.size; have := h2.size; omega, fun i him => ?_, fun j x hj he => (hi.low j x hj he).wr_out h2 (fun _ => by omega), fun j hj he => (hi.lowt j hj he).wr_out h2 (fun _ => by omega)⟩
  have h3 := (hi.row i him).1
  have h4 := (hi.row i him).2
  by_cases e : i = x
  · subst e
    simp only [if_true]
    exact ⟨El.of_wr h4 h2, Wt.of_wr h4 h2⟩
  · simp only [if_neg e]
    exact ⟨El.wr_out h2 (fun _ => by omega) h3, Wt.wr_out h2 (fun _ => by omega) h4⟩
theorem RevInv.cast {w wr : World} {B b o m : Nat} {g g' : Nat → Nat} (h : RevInv w B b o m g wr) (e : ∀ i, i < m → g i = g' i) : RevInv w B b o m g' wr :=
  ⟨h.below, h.size, fun i hi => by rw [← e i hi]; exact h.row i hi, h.low, h.lowt⟩

theorem turn_next (m t u : Nat) (h : Nat → Nat) (hu : t + u + 1 = m) (htu : t < u) (i : Nat) (hi : i < m) : turn m (t + 1) h i = if i = u then h t else if i = t then h u else turn m t h i := by
  unfold turn
  by_cases h1 : i = u
  · subst h1
    rw [if_pos (by omega), if_pos rfl]
    congr 1; omega
  · rw [if_neg h1]
    by_cases h2 : i = t
    · subst h2
      rw [if_pos (by omega), if_pos rfl]
      congr 1; omega
    · rw [if_neg h2]
      by_cases h3 : i < t ∨ m < i + 1 + t
      · rw [if_pos h3, if_pos (by omega)]
      · rw [if_neg h3, if_neg (by omega)]

set_option maxRecDepth 100000 in
set_option maxHeartbeats 1000000 in
theorem reverse (m b o cp B : Nat) (h : Nat → Nat) (hm : m ≤ 4096) (hB : B ≤ b) (w : World) (hBw : B ≤ w.heap.size) (hr : ORow w b o m h) :
    Calls Tryd.prog 30 #[.slice (some ⟨b, o, none⟩) m cp] w fun e w' => e = .returned (.tuple #[]) ∧ (ORow w' b o m (fun i => h (m - 1 - i)) ∧ (∀ j x, (j + 1 < o ∨ o + m * 2 ≤ j) → El w b j x → El w' b j x) ∧ (∀ j, (j + 1 < o ∨ o + m * 2 ≤ j) → Wt w b j → Wt w' b j)) ∧ Below B w w' := by
  have HB := Lib.hid hB
  have HBw := Lib.hid hBw
  have hi : RevInv w B b o m (turn m 0 h) w := ⟨Below.refl _ _, Nat.le_refl _, fun i him => by unfold turn; rw [if_neg (by omega)]; exact hr i him, fun _ _ _ h => h, fun _ _ h => h⟩
  clear hB hBw hr
  go_enter Tryd.func30, Tryd.ntmps30
  go_wp2_with fail
  obtain ⟨w1, hw1⟩ : ∃ w1, w1 = w := ⟨_, rfl⟩
  have hi1 : RevInv w B b o m (turn m 0 h) w1 := by rw [hw1]; exact hi
  rw [← hw1]
  clear hw1 hi
  go_loopw [2, 3] (fun i j wr => ∃ t : Nat, 2 * t ≤ m ∧ i = .int .i64 t ∧ j = .int .i64 ((m : Int) - 1 - (t : Int)) ∧ RevInv w B b o m (turn m t h) wr) (fun i _ _ => m - (intOf i).toNat)
  case atStart => exact ⟨0, by omega, rfl, by go_num, hi1⟩
  case round =>
    obtain ⟨t, ht, rfl, rfl, hinv⟩ := hrel
    have HI := Lib.hid hinv
    clear hinv hi1
    by_cases hlt : 2 * t + 1 < m
    · obtain ⟨u, hu⟩ : ∃ u, u = m - 1 - t := ⟨_, rfl⟩
      have hu1 : (m : Int) - 1 - (t : Int) = (u : Int) := by omega
      have htu : t < u := by omega
      have hum : u < m := by omega
      have HU := Lib.hid (show t + u + 1 = m by omega)
      have et : turn m t h t = h t := by unfold turn; rw [if_neg (by omega)]
      have eu : turn m t h u = h u := by unfold turn; rw [if_neg (by omega)]
      have et' := (HI.out.row t (by omega)).1
      have eu' := (HI.out.row u hum).1
      obtain ⟨⟨_, ft⟩, _, ft'⟩ := (HI.out.row t (by omega)).2
      obtain ⟨⟨_, fu⟩, _, fu'⟩ := (HI.out.row u hum).2
      rw [et] at et'
      rw [eu] at eu'
      have HCT := Lib.hid et'
      have HCU := Lib.hid eu'
      obtain ⟨ct, ct'⟩ := et'
      obtain ⟨cu, cu'⟩ := eu'
      have n00 : (⟨b, o + t * 2, none⟩ : Addr) ≠ ⟨b, o + u * 2, none⟩ := by intro e; injection e; omega
      have n01 : (⟨b, o + t * 2, none⟩ : Addr) ≠ ⟨b, o + u * 2 + 1, none⟩ := by intro e; injection e; omega
      have n10 : (⟨b, o + t * 2 + 1, none⟩ : Addr) ≠ ⟨b, o + u * 2, none⟩ := by intro e; injection e; omega
      have n11 : (⟨b, o + t * 2 + 1, none⟩ : Addr) ≠ ⟨b, o + u * 2 + 1, none⟩ := by intro e; injection e; omega
      obtain ⟨W1, hW1⟩ : ∃ W1, W1 = (wr.setCell ⟨b, o + t * 2, none⟩ (.int .u64 ((lo64 (h u) : Nat) : Int))).setCell ⟨b, o + t * 2 + 1, none⟩ (.int .u64 ((hi64 (h u) : Nat) : Int)) := ⟨_, rfl⟩
      have x1 : W1.cell? ⟨b, o + u * 2, none⟩ = some (.int .u64 ((lo64 (h u) : Nat) : Int)) := by rw [hW1, World.cell?_setCell_other _ _ _ _ n10, World.cell?_setCell_other _ _ _ _ n00]; exact cu
      have x2 : W1.cell? ⟨b, o + u * 2 + 1, none⟩ = some (.int .u64 ((hi64 (h u) : Nat) : Int)) := by rw [hW1, World.cell?_setCell_other _ _ _ _ n11, World.cell?_setCell_other _ _ _ _ n01]; exact cu'
      have HW1 := Lib.hid hW1
      rw [hW1] at x1 x2
      obtain ⟨W2, hW2⟩ : ∃ W2, W2 = (wr.setCell ⟨b, o + u * 2, none⟩ (.int .u64 ((lo64 (h t) : Nat) : Int))).setCell ⟨b, o + u * 2 + 1, none⟩ (.int .u64 ((hi64 (h t) : Nat) : Int)) := ⟨_, rfl⟩
      have y1 : W2.cell? ⟨b, o + t * 2, none⟩ = some (.int .u64 ((lo64 (h t) : Nat) : Int)) := by rw [hW2, World.cell?_setCell_other _ _ _ _ n01.symm, World.cell?_setCell_other _ _ _ _ n00.symm]; exact ct
      have y2 : W2.cell? ⟨b, o + t * 2 + 1, none⟩ = some (.int .u64 ((hi64 (h t) : Nat) : Int)) := by rw [hW2, World.cell?_setCell_other _ _ _ _ n11.symm, World.cell?_setCell_other _ _ _ _ n10.symm]; exact ct'
      rw [hW2] at y1 y2
      clear hu et eu n00 n01 n10 n11 hW1 hW2
      go_wp2_with fail
      go_region
      rw [← HW1.out]
      have h1 : Wr wr b (o + t * 2) (lim (h u)) W1 := Wr.two (Below.refl _ _) HCT.out.lt (by rw [HW1.out]; exact Below.refl _ _)
      have i1 := HI.out.put HB.out HBw.out (show t < m by omega) h1
      have h2 : Wr W1 b (o + u * 2) (lim (h t)) ((W1.setCell ⟨b, o + u * 2, none⟩ (.int .u64 ((lo64 (h t) : Nat) : Int))).setCell ⟨b, o + u * 2 + 1, none⟩ (.int .u64 ((hi64 (h t) : Nat) : Int))).drew := Wr.two (Below.refl _ _) (by have := HCT.out.lt; have := h1.size; omega) (Below.refl _ _).drew
      have i2 := i1.put HB.out HBw.out hum h2
      generalize ((W1.setCell ⟨b, o + u * 2, none⟩ (.int .u64 ((lo64 (h t) : Nat) : Int))).setCell ⟨b, o + u * 2 + 1, none⟩ (.int .u64 ((hi64 (h t) : Nat) : Int))).drew = w5 at *
      have I2 := Lib.hid (i2.cast (g' := turn m (t + 1) h) fun i hi => by rw [turn_next m t u h HU.out htu i hi])
      clear h1 i1 h2 i2 x1 x2 y1 y2 ct cu ft fu ct' cu' ft' fu'
      go_wp2_with fail
      go_roundw
      case rel => exact ⟨t + 1, by omega, by go_num, by have := HU.out; go_num, I2.out⟩
      case measure => simp [intOf]; omega
    · go_wp2_with fail
      go_end0
      refine ⟨rfl, ⟨fun i hi => ?_, HI.out.low, HI.out.lowt⟩, HI.out.below⟩
      have h3 := HI.out.row i hi
      have e : turn m t h i = h (m - 1 - i) := by
        unfold turn
        by_cases h4 : i < t ∨ m < i + 1 + t
        · rw [if_pos h4]
        · rw [if_neg h4]; congr 1; omega
      rw [e] at h3
      exact h3

theorem fpRow_new (n : Nat) (w1 : World) : FRow (w1.alloc (.cells (fpZeros n) 53)) w1.heap.size n (fun _ => 0) := by
  intro i hi
  have e0 : (fpZeros n)[i * 2]? = some (.int .u64 ((lo64 0 : Nat) : Int)) := by rw [fpZeros_get n (i * 2) (by omega)]; rfl
  have e1 : (fpZeros n)[i * 2 + 1]? = some (.int .u64 ((hi64 0 : Nat) : Int)) := by rw [fpZeros_get n (i * 2 + 1) (by omega)]; rfl
  exact ⟨⟨box_cell rfl e0, box_cell rfl e1⟩, ⟨⟨_, box_cell rfl e0⟩, box_free rfl⟩, ⟨_, box_cell rfl e1⟩, box_free rfl⟩

/-- The transform back. -/
def inv (k : Nat) (f : Nat → Nat) (i : Nat) : Nat := if i = 0 then ntt k f 0 else ntt k f (2 ^ k - i)

set_option maxRecDepth 100000 in
set_option maxHeartbeats 1000000 in
theorem inv_yes (k n vb ub cu B : Nat) (f g0 : Nat → Nat) (hk : k < 7) (hn : n = 2 ^ k) (hf : ∀ i, i < n → f i < P) (hB : 7 ≤ B) (hv : B ≤ vb) (hu : ub < B) (w : World) (hBw : B ≤ w.heap.size) (hg : Glob w) (hr : FRow w vb n g0) (hs : FRow w ub n f) :
    Calls Tryd.prog 16 #[.slice (some ⟨vb, 0, none⟩) n n, .slice (some ⟨ub, 0, none⟩) n cu, .int .u64 (n : Int)] w fun e w' => e = .returned (.tuple #[]) ∧ FRow w' vb n (inv k f) ∧ Below B w w' := by
  have h1 : 0 < n := by rw [hn]; exact Nat.two_pow_pos k
  have hn64 : n ≤ 64 := by
    rw [hn]
    have : 2 ^ k ≤ 2 ^ 6 := Nat.pow_le_pow_right (by omega) (by omega)
    omega
  have HN := Lib.hid hn
  have HV := Lib.hid hv
  have HBw := Lib.hid hBw
  have K := Lib.hid (ntt_yes k n vb ub n cu B f g0 hk hn hf hB hv hu w hBw hg hr hs)
  clear hn hf hB hv hu hBw hg hr hs
  by_cases h2 : n = 1
  · have hk0 : k = 0 := by
      have h5 := HN.out
      rcases k with _ | k
      · rfl
      · rw [h2, Nat.pow_succ] at h5; omega
    have H2 := Lib.hid h2
    subst h2
    subst hk0
    show Calls Tryd.prog 16 #[.slice (some ⟨vb, 0, none⟩) 1 1, .slice (some ⟨ub, 0, none⟩) 1 cu, .int .u64 1] w fun e w' => e = .returned (.tuple #[]) ∧ FRow w' vb 1 (inv 0 f) ∧ Below B w w'
    go_enter Tryd.func16, Tryd.ntmps16
    go_wp2_with fail
    refine K.out.mono ?_
    rintro e w1 ⟨rfl, hr1, hb1⟩
    have R1 := Lib.hid hr1
    have B1 := Lib.hid hb1
    clear hr1 hb1 K
    go_wp2_with fail
    refine (reverse 0 vb 0 0 B (fun _ => 0) (by omega) HV.out w1 (by have := B1.out.size; have := HBw.out; omega) (fun i hi => by omega)).mono ?_
    rintro e w2 ⟨rfl, ⟨_, hl2, ht2⟩, hb2⟩
    have R2 := Lib.hid (show FRow w2 vb 1 (inv 0 f) by
      intro i hi
      obtain rfl : i = 0 := by omega
      exact ⟨hl2 0 _ (by omega) (R1.out 0 hi).1, ht2 0 (by omega) (R1.out 0 hi).2⟩)
    have B2 := Lib.hid (B1.out.trans hb2)
    clear hl2 ht2 hb2
    go_wp2_with fail
    go_end0
    exact ⟨rfl, R2.out, B2.out⟩
  · have h3 : 1 < n := by omega
    have h4 : ¬ n = 1 := h2
    go_enter Tryd.func16, Tryd.ntmps16
    go_wp2_with fail
    refine K.out.mono ?_
    rintro e w1 ⟨rfl, hr1, hb1⟩
    have R1 := Lib.hid hr1
    have B1 := Lib.hid hb1
    clear hr1 hb1 K
    go_wp2_with fail
    refine (reverse (n - 1) vb 2 (n - 1) B (fun i => ntt k f (1 + i)) (by omega) HV.out w1 (by have := B1.out.size; have := HBw.out; omega) (fun i hi => by rw [show 2 + i * 2 = (1 + i) * 2 by omega]; exact R1.out (1 + i) (by omega))).mono ?_
    rintro e w2 ⟨rfl, ⟨hr2, hl2, ht2⟩, hb2⟩
    have R2 := Lib.hid (show FRow w2 vb n (inv k f) by
      intro i hi
      by_cases e : i = 0
      · subst e
        refine ⟨hl2 0 _ (by omega) ?_, ht2 0 (by omega) (R1.out 0 hi).2⟩
        exact (R1.out 0 hi).1
      · have h5 := hr2 (i - 1) (by omega)
        rw [show 2 + (i - 1) * 2 = i * 2 by omega] at h5
        have e2 : inv k f i = ntt k f (1 + (n - 1 - 1 - (i - 1))) := by
          unfold inv; rw [if_neg e, ← HN.out]; congr 1; omega
        rw [e2]; exact h5)
    have B2 := Lib.hid (B1.out.trans hb2)
    clear hr2 hl2 ht2 hb2
    go_wp2_with fail
    go_end0
    exact ⟨rfl, R2.out, B2.out⟩

theorem ntt_lt (k : Nat) (f : Nat → Nat) (h : ∀ i, i < 2 ^ k → f i < P) (i : Nat) : ntt k f i < P := stages_lt _ (fun i => h _ (brev_lt k i)) k i
theorem inv_lt (k : Nat) (f : Nat → Nat) (h : ∀ i, i < 2 ^ k → f i < P) (i : Nat) : inv k f i < P := by
  unfold inv; split <;> exact ntt_lt k f h _

set_option maxRecDepth 100000 in
set_option maxHeartbeats 1000000 in
theorem ntt64 (k n b o cp : Nat) (f : Nat → Nat) (hk : k < 7) (hn : n = 2 ^ k) (hf : ∀ i, i < n → f i < P) (w : World) (hg : Glob w) (hr : BRow w b o n f) :
    Calls Tryd.prog 6 #[.slice (some ⟨b, o, none⟩) n cp, .bool false] w (GotRow w n (fun i => mt (ntt k (fun i => mt (f i) rsq) i) 1)) := by
  have h1 : 0 < n := by rw [hn]; exact Nat.two_pow_pos k
  have hn64 : n ≤ 64 := by
    rw [hn]
    have : 2 ^ k ≤ 2 ^ 6 := Nat.pow_le_pow_right (by omega) (by omega)
    omega
  have hand : bits BinOp.and IntKind.i64 (n : Int) ((n : Int) - 1) = 0 := by
    rw [hn]
    rcases k with _ | _ | _ | _ | _ | _ | _ | k <;> first | rfl | omega
  have hz : ((n : Int) == 0) = false := by simp; omega
  have hz2 : decide ((256 : Int) < (n : Int)) = false := by simp; omega
  have hz4 : decide (n > 256) = false := by simp; omega
  have HN := Lib.hid hn
  have HF := Lib.hid hf
  have HG := Lib.hid hg
  have K := Lib.hid (list_yes n b o cp f (by omega) hf w hg hr (fun _ => (hr 0 h1).lt (by omega)))
  have mk := fun w => make46 n (by omega) w
  clear hn hf hg hr
  go_enter Tryd.func6, Tryd.ntmps6
  go_wp2_with fail
  refine K.out.mono ?_
  rintro e w1 ⟨rfl, hr1, hb1⟩
  have R1 := Lib.hid hr1
  have B1 := Lib.hid hb1
  clear K hr1 hb1
  go_wp2_with fail
  have hr2 : FRow (w1.alloc (.cells (fpZeros n) 53)) w1.heap.size n (fun _ => 0) := fpRow_new n w1
  have hb2 : Below w1.heap.size w1 (w1.alloc (.cells (fpZeros n) 53)) := (Below.refl _ w1).alloc (Nat.le_refl _) _
  have hz3 : w1.heap.size ≤ (w1.alloc (.cells (fpZeros n) 53)).heap.size := by simp
  generalize w1.alloc (.cells (fpZeros n) 53) = w2 at *
  have R2 := Lib.hid hr2
  have B2 := Lib.hid hb2
  have Z3 := Lib.hid hz3
  clear hr2 hb2 hz3
  refine (ntt_yes k n w1.heap.size w.heap.size n n w1.heap.size (fun i => mt (f i) rsq) (fun _ => 0) hk HN.out (fun i _ => mt_lt _ _) (by have := HG.out.size; have := B1.out.size; omega) (Nat.le_refl _) (R1.out 0 h1).1.lt w2 Z3.out (HG.out.keep (B1.out.trans (B2.out.mono B1.out.size)) HG.out.size5) R2.out (R1.out.keep B2.out (R1.out 0 h1).1.lt)).mono ?_
  rintro e w3 ⟨rfl, hr3, hb3⟩
  have R3 := Lib.hid hr3
  have B3 := Lib.hid (B1.out.trans ((B2.out.trans hb3).mono B1.out.size))
  clear hr3 hb3
  go_wp2_with fail
  refine (all_yes n w1.heap.size n _ (by omega) (fun i hi => ?_) w3 (fun i hi => (R3.out i hi).1)).mono ?_
  · exact ntt_lt k _ (fun i _ => mt_lt _ _) i
  rintro e w4 ⟨rfl, hr4, hb4⟩
  have G := Lib.hid (show GotRow w n (fun i => mt (ntt k (fun i => mt (f i) rsq) i) 1) (.returned (.tuple #[.slice (some ⟨w3.heap.size, 0, none⟩) n n, .bool true])) w4 from
    ⟨w3.heap.size, rfl, B3.out.size, (hr4 0 h1).lt (by omega), hr4, B3.out.trans (hb4.mono B3.out.size)⟩)
  clear hr4 hb4
  go_wp2_with fail
  go_ret2
  exact G.out

set_option maxRecDepth 100000 in
set_option maxHeartbeats 1000000 in
theorem inv64 (k n b o cp : Nat) (f : Nat → Nat) (hk : k < 7) (hn : n = 2 ^ k) (hf : ∀ i, i < n → f i < P) (w : World) (hg : Glob w) (hr : BRow w b o n f) :
    Calls Tryd.prog 6 #[.slice (some ⟨b, o, none⟩) n cp, .bool true] w (GotRow w n (fun i => mt (inv k (fun i => mt (f i) rsq) i) 1)) := by
  have h1 : 0 < n := by rw [hn]; exact Nat.two_pow_pos k
  have hn64 : n ≤ 64 := by
    rw [hn]
    have : 2 ^ k ≤ 2 ^ 6 := Nat.pow_le_pow_right (by omega) (by omega)
    omega
  have hand : bits BinOp.and IntKind.i64 (n : Int) ((n : Int) - 1) = 0 := by
    rw [hn]
    rcases k with _ | _ | _ | _ | _ | _ | _ | k <;> first | rfl | omega
  have hz : ((n : Int) == 0) = false := by simp; omega
  have hz2 : decide ((256 : Int) < (n : Int)) = false := by simp; omega
  have hz4 : decide (n > 256) = false := by simp; omega
  have HN := Lib.hid hn
  have HF := Lib.hid hf
  have HG := Lib.hid hg
  have K := Lib.hid (list_yes n b o cp f (by omega) hf w hg hr (fun _ => (hr 0 h1).lt (by omega)))
  have mk := fun w => make46 n (by omega) w
  clear hn hf hg hr
  go_enter Tryd.func6, Tryd.ntmps6
  go_wp2_with fail
  refine K.out.mono ?_
  rintro e w1 ⟨rfl, hr1, hb1⟩
  have R1 := Lib.hid hr1
  have B1 := Lib.hid hb1
  clear K hr1 hb1
  go_wp2_with fail
  have hr2 : FRow (w1.alloc (.cells (fpZeros n) 53)) w1.heap.size n (fun _ => 0) := fpRow_new n w1
  have hb2 : Below w1.heap.size w1 (w1.alloc (.cells (fpZeros n) 53)) := (Below.refl _ w1).alloc (Nat.le_refl _) _
  have hz3 : w1.heap.size ≤ (w1.alloc (.cells (fpZeros n) 53)).heap.size := by simp
  generalize w1.alloc (.cells (fpZeros n) 53) = w2 at *
  have R2 := Lib.hid hr2
  have B2 := Lib.hid hb2
  have Z3 := Lib.hid hz3
  clear hr2 hb2 hz3
  refine (inv_yes k n w1.heap.size w.heap.size n w1.heap.size (fun i => mt (f i) rsq) (fun _ => 0) hk HN.out (fun i _ => mt_lt _ _) (by have := HG.out.size; have := B1.out.size; omega) (Nat.le_refl _) (R1.out 0 h1).1.lt w2 Z3.out (HG.out.keep (B1.out.trans (B2.out.mono B1.out.size)) HG.out.size5) R2.out (R1.out.keep B2.out (R1.out 0 h1).1.lt)).mono ?_
  rintro e w3 ⟨rfl, hr3, hb3⟩
  have R3 := Lib.hid hr3
  have B3 := Lib.hid (B1.out.trans ((B2.out.trans hb3).mono B1.out.size))
  clear hr3 hb3
  go_wp2_with fail
  refine (all_yes n w1.heap.size n _ (by omega) (fun i hi => ?_) w3 (fun i hi => (R3.out i hi).1)).mono ?_
  · exact inv_lt k _ (fun i _ => mt_lt _ _) i
  rintro e w4 ⟨rfl, hr4, hb4⟩
  have G := Lib.hid (show GotRow w n (fun i => mt (inv k (fun i => mt (f i) rsq) i) 1) (.returned (.tuple #[.slice (some ⟨w3.heap.size, 0, none⟩) n n, .bool true])) w4 from
    ⟨w3.heap.size, rfl, B3.out.size, (hr4 0 h1).lt (by omega), hr4, B3.out.trans (hb4.mono B3.out.size)⟩)
  clear hr4 hb4
  go_wp2_with fail
  go_ret2
  exact G.out
end Go.Proofs.YtimihpddlinmbaaDoor
