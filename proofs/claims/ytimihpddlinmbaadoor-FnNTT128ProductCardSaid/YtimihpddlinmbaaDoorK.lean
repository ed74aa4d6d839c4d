/-
  Small laws on worlds: what a call that writes one stretch of cells, and makes blocks of its own, leaves of the rest. No program in sight.
-/
import Derived.WalkKit
import Derived.Lib.Hide
import Derived.Lib.Mul64
import Derived.Laws.Bits64b
import Derived.Deep.QuietTactic
import Derived.BigQuiet
import Derived.KernelRfl
namespace Go.Proofs.YtimihpddlinmbaaDoor
open Go.RowKit
set_option linter.unusedVariables false
set_option linter.unusedSimpArgs false

/-- Behind the call the cells of block b from o on hold vs; all else that was there is as it was. -/
def Wr (w : World) (b o : Nat) (vs : List Value) (w' : World) : Prop := Below w.heap.size (w.setCells b o vs) w'

theorem size_setCells (b : Nat) : ∀ (vs : List Value) (o : Nat) (w : World), (w.setCells b o vs).heap.size = w.heap.size
  | [], _, _ => rfl
  | v :: r, o, w => by rw [World.setCells, size_setCells b r]; simp

theorem heap_setCells (b : Nat) : ∀ (vs : List Value) (o : Nat) (w : World) (k : Nat), k ≠ b → (w.setCells b o vs).heap[k]? = w.heap[k]?
  | [], _, _, _, _ => rfl
  | v :: r, o, w, k, h => by rw [World.setCells, heap_setCells b r _ _ _ h, Below.heap_setCell _ _ _ _ (by simpa using h)]

theorem setCells_rest (b : Nat) : ∀ (vs : List Value) (o : Nat) (w : World), (w.setCells b o vs).os = w.os ∧ (w.setCells b o vs).tape = w.tape ∧ (w.setCells b o vs).output = w.output
  | [], _, _ => ⟨rfl, rfl, rfl⟩
  | v :: r, o, w => by
    have h := setCells_rest b r (o + 1) (w.setCell ⟨b, o, none⟩ v)
    rw [World.setCells]
    exact ⟨h.1, h.2.1, h.2.2⟩

theorem Wr.out {w w' : World} {b o : Nat} {vs : List Value} (h : Wr w b o vs w') {p : Addr} (hp : p.block < w.heap.size) (hd : p.block = b → p.off < o ∨ o + vs.length ≤ p.off) :
    w'.cell? p = w.cell? p := by
  rw [h.cell hp, World.cell?_setCells_out b vs o w p (fun e _ => hd e)]

theorem Wr.in {w w' : World} {b o : Nat} {vs : List Value} (h : Wr w b o vs w') (hc : ∀ j, j < vs.length → (w.cell? ⟨b, o + j, none⟩).isSome = true) (hb : b < w.heap.size) (j : Nat) (hj : j < vs.length) :
    w'.cell? ⟨b, o + j, none⟩ = some vs[j] := by
  rw [h.cell hb, World.cell?_setCells_in b vs o w hc j hj]

theorem Wr.frozen {w w' : World} {b o : Nat} {vs : List Value} (h : Wr w b o vs w') {p : Addr} (hp : p.block < w.heap.size) : w'.frozen? p = w.frozen? p := by
  rw [Below.frozen h hp, World.frozen?_setCells]

theorem Wr.size {w w' : World} {b o : Nat} {vs : List Value} (h : Wr w b o vs w') : w.heap.size ≤ w'.heap.size := by
  have := Below.size h
  rwa [size_setCells] at this

theorem Wr.block {w w' : World} {b o : Nat} {vs : List Value} (h : Wr w b o vs w') {k : Nat} (hk : k < w.heap.size) (hkb : k ≠ b) : w'.heap[k]? = w.heap[k]? := by
  rw [Below.block h k hk, heap_setCells b vs o w k hkb]

/-- Written into a block from B on: below B nothing has turned. -/
theorem Wr.keep {w w' : World} {b o : Nat} {vs : List Value} (h : Wr w b o vs w') {B : Nat} (hB : B ≤ b) (hB' : B ≤ w.heap.size) : Below B w w' := by
  have r := setCells_rest b vs o w
  exact ⟨h.os.trans r.1, h.tape.trans r.2.1, h.output.trans r.2.2, h.size, fun k hk => h.block (by omega) (by omega)⟩

theorem cell_lt {w : World} {p : Addr} {v : Value} (h : w.cell? p = some v) : p.block < w.heap.size := by
  unfold World.cell? at h
  rcases hb : w.heap[p.block]? with _ | x
  · rw [hb] at h; simp at h
  · exact (Array.getElem?_eq_some_iff.1 hb).1

theorem setCells_congr (b : Nat) : ∀ (vs : List Value) (o : Nat) (w w1 : World), w1.heap[b]? = w.heap[b]? → (w1.setCells b o vs).heap[b]? = (w.setCells b o vs).heap[b]?
  | [], _, _, _, h => h
  | v :: r, o, w, w1, h => by
    rw [World.setCells, World.setCells]
    refine setCells_congr b r (o + 1) _ _ ?_
    simp only [World.setCell, Array.getElem?_modify, h]

/-- What was made ahead of the writing counts for nothing. -/
theorem Wr.pre {w w1 w' : World} {b o : Nat} {vs : List Value} (h1 : Below w.heap.size w w1) (hb : b < w.heap.size) (h : Wr w1 b o vs w') : Wr w b o vs w' := by
  have r := setCells_rest b vs o w
  have r1 := setCells_rest b vs o w1
  refine ⟨h.os.trans (r1.1.trans (h1.os.trans r.1.symm)), h.tape.trans (r1.2.1.trans (h1.tape.trans r.2.1.symm)), h.output.trans (r1.2.2.trans (h1.output.trans r.2.2.symm)), ?_, fun k hk => ?_⟩
  · have := h.size; have := h1.size; rw [size_setCells] at *; omega
  · rw [Below.block h k (by have := h1.size; omega)]
    by_cases e : k = b
    · subst e; exact setCells_congr k vs o w w1 (h1.block k hk)
    · rw [heap_setCells b vs o w1 k e, heap_setCells b vs o w k e, h1.block k hk]

/-- The cells of a row with vs laid from place o on. -/
def putAt (cs : Array Value) : Nat → List Value → Array Value
  | _, [] => cs
  | o, v :: r => putAt (cs.setIfInBounds o v) (o + 1) r

theorem putAt_size : ∀ (vs : List Value) (o : Nat) (cs : Array Value), (putAt cs o vs).size = cs.size
  | [], _, _ => rfl
  | v :: r, o, cs => by rw [putAt, putAt_size r]; simp

theorem putAt_get : ∀ (vs : List Value) (o : Nat) (cs : Array Value) (i : Nat), (putAt cs o vs)[i]? = if o ≤ i ∧ i < o + vs.length ∧ i < cs.size then vs[i - o]? else cs[i]?
  | [], o, cs, i => by
    rw [if_neg (by simp; omega)]; rfl
  | v :: r, o, cs, i => by
    rw [putAt, putAt_get r, Array.size_setIfInBounds, Array.getElem?_setIfInBounds]
    by_cases h : o = i
    · subst h
      rw [if_neg (by omega), if_pos rfl]
      by_cases hs : o < cs.size
      · rw [if_pos hs, if_pos (by simp; omega)]; simp
      · rw [if_neg hs, if_neg (by simp; omega)]
        exact (Array.getElem?_eq_none (by omega)).symm
    · rw [if_neg h]
      by_cases h2 : o + 1 ≤ i ∧ i < o + 1 + r.length ∧ i < cs.size
      · rw [if_pos h2, if_pos (by simp; omega), show i - o = (i - (o + 1)) + 1 by omega]; rfl
      · rw [if_neg h2, if_neg (by simp; omega)]

theorem putAt_putAt (cs : Array Value) (o : Nat) (vs us : List Value) (h : vs.length = us.length) : putAt (putAt cs o vs) o us = putAt cs o us := by
  refine Array.ext_getElem? fun i => ?_
  rw [putAt_get, putAt_get, putAt_get, putAt_size]
  by_cases h1 : o ≤ i ∧ i < o + us.length ∧ i < cs.size
  · rw [if_pos h1, if_pos h1]
  · rw [if_neg h1, if_neg h1, if_neg (by rw [h]; exact h1)]

theorem heap_setCells_at (b : Nat) (t : TypeId) (fr : Nat × Nat) : ∀ (vs : List Value) (o : Nat) (w : World) (cs : Array Value), w.heap[b]? = some (.cells cs t fr) → (w.setCells b o vs).heap[b]? = some (.cells (putAt cs o vs) t fr)
  | [], _, _, _, h => h
  | v :: r, o, w, cs, h => by
    rw [World.setCells, putAt]
    refine heap_setCells_at b t fr r (o + 1) _ _ ?_
    simp [World.setCell, Array.getElem?_modify, h]

theorem cells_of {w : World} {p : Addr} {v : Value} (h : w.cell? p = some v) : ∃ cs t fr, w.heap[p.block]? = some (.cells cs t fr) ∧ cs[p.off]? = some v := by
  unfold World.cell? at h
  split at h
  · rename_i c e f hb
    split at h
    · cases h
    · exact ⟨c, e, f, hb, h⟩
  · cases h

/-- Written twice: the second writing counts. -/
theorem Wr.again {w w1 w' : World} {b o : Nat} {vs us : List Value} {v : Value} (hl : vs.length = us.length) (hc : w.cell? ⟨b, o, none⟩ = some v) (h1 : Wr w b o vs w1) (h : Wr w1 b o us w') : Wr w b o us w' := by
  have hb := cell_lt hc
  obtain ⟨cs, t, fr, hh, _⟩ := cells_of hc
  have r := setCells_rest b us o w
  have r1 := setCells_rest b us o w1
  have r2 := setCells_rest b vs o w
  refine ⟨h.os.trans (r1.1.trans (h1.os.trans (r2.1.trans r.1.symm))), h.tape.trans (r1.2.1.trans (h1.tape.trans (r2.2.1.trans r.2.1.symm))), h.output.trans (r1.2.2.trans (h1.output.trans (r2.2.2.trans r.2.2.symm))), ?_, fun k hk => ?_⟩
  · have := h.size; have := h1.size; rw [size_setCells] at *; omega
  · rw [Below.block h k (by have := Wr.size h1; omega)]
    by_cases e : k = b
    · subst e
      have e1 : w1.heap[k]? = some (.cells (putAt cs o vs) t fr) := by rw [Below.block h1 k hk]; exact heap_setCells_at k t fr vs o w cs hh
      rw [heap_setCells_at k t fr us o w1 _ e1, heap_setCells_at k t fr us o w cs hh, putAt_putAt _ _ _ _ hl]
    · rw [heap_setCells b us o w1 k e, heap_setCells b us o w k e, Below.block h1 k hk, heap_setCells b vs o w k e]

/-- What is made behind the writing counts for nothing. -/
theorem Wr.post {w w1 w' : World} {b o : Nat} {vs : List Value} (h : Wr w b o vs w1) (h1 : Below w.heap.size w1 w') : Wr w b o vs w' := Below.trans h h1

theorem Wr.below {w w' : World} {b o : Nat} {vs : List Value} (h : Wr w b o vs w') {B : Nat} (hB : B ≤ b) (hB' : B ≤ w.heap.size) : Below B w w' := h.keep hB hB'

/-- A store into a box that one owns: the box holds it, and below nothing has turned. -/
theorem own_store {w w2 : World} {n o : Nat} {u x : Value} (hb : Below w.heap.size w w2) (hn : w.heap.size ≤ n) (hc : w2.cell? ⟨n, o, none⟩ = some u) :
    ∃ w3, w3 = w2.setCell ⟨n, o, none⟩ x ∧ Below w.heap.size w w3 ∧ w3.cell? ⟨n, o, none⟩ = some x :=
  ⟨_, rfl, hb.setCell hn x, World.cell?_setCell_same _ _ _ hc⟩

theorem drewN_eq (w : World) (n : Nat) : (w.drewN n).heap = w.heap := rfl

/-- A stretch of one cell. -/
theorem Wr.one {w w1 w' : World} {b o : Nat} {v : Value} (h1 : Below w.heap.size w w1) (hb : b < w.heap.size) (h : Below w.heap.size (w1.setCell ⟨b, o, none⟩ v) w') : Wr w b o [v] w' := by
  refine ⟨h.os.trans h1.os, h.tape.trans h1.tape, h.output.trans h1.output, ?_, fun k hk => ?_⟩
  · have := h.size; have := h1.size; simp [World.setCells] at *; omega
  · rw [h.block k hk]
    simp only [World.setCells, World.setCell, Array.getElem?_modify, h1.block k hk]

/-- A stretch of two cells. -/
theorem Wr.two {w w1 w' : World} {b o : Nat} {v0 v1 : Value} (h1 : Below w.heap.size w w1) (hb : b < w.heap.size) (h : Below w.heap.size ((w1.setCell ⟨b, o, none⟩ v0).setCell ⟨b, o + 1, none⟩ v1) w') : Wr w b o [v0, v1] w' := by
  refine ⟨h.os.trans h1.os, h.tape.trans h1.tape, h.output.trans h1.output, ?_, fun k hk => ?_⟩
  · have := h.size; have := h1.size; simp [World.setCells] at *; omega
  · rw [h.block k hk]
    simp only [World.setCells, World.setCell, Array.getElem?_modify, h1.block k hk]

theorem Below.drewN (B : Nat) (w : World) (n : Nat) : Below B w (w.drewN n) := ⟨rfl, rfl, rfl, Nat.le_refl _, fun _ _ => rfl⟩

theorem heap_new (w0 : World) (o : Obj) (n : Nat) (h : n = w0.heap.size) : (w0.alloc o).heap[n]? = some o := by
  subst h
  show (w0.heap.push o)[w0.heap.size]? = _
  simp

theorem heap_old (w0 : World) (o : Obj) (n : Nat) (h : n < w0.heap.size) : (w0.alloc o).heap[n]? = w0.heap[n]? := Below.heap_alloc _ _ _ h

theorem cell_past {w : World} {p : Addr} {v : Value} (o : Obj) (h : w.cell? p = some v) : (w.alloc o).cell? p = some v := by
  have hb : Below w.heap.size w (w.alloc o) := (Below.refl _ w).alloc (Nat.le_refl _) o
  have hl : p.block < w.heap.size := by
    unfold World.cell? at h
    rcases hb : w.heap[p.block]? with _ | x
    · rw [hb] at h; simp at h
    · exact (Array.getElem?_eq_some_iff.1 hb).1
  rw [hb.cell hl]; exact h

theorem free_past {w : World} {p : Addr} {f : Bool} (o : Obj) (hl : p.block < w.heap.size) (h : w.frozen? p = f) : (w.alloc o).frozen? p = f := by
  have hb : Below w.heap.size w (w.alloc o) := (Below.refl _ w).alloc (Nat.le_refl _) o
  rw [hb.frozen hl]; exact h

theorem box_cell {w0 : World} {cs : Array Value} {t : TypeId} {fr : Nat × Nat} {n i : Nat} {c : Value} (h : n = w0.heap.size) (hc : cs[i]? = some c) : (w0.alloc (.cells cs t fr)).cell? ⟨n, i, none⟩ = some c := by
  unfold World.cell?
  rw [heap_new _ _ _ h]
  exact hc

theorem box_free {w0 : World} {cs : Array Value} {t : TypeId} {n i : Nat} (h : n = w0.heap.size) : (w0.alloc (.cells cs t (0, 0))).frozen? ⟨n, i, none⟩ = false := by
  unfold World.frozen?
  rw [heap_new _ _ _ h]
  simp

/-- A box of one cell, made and written: the box holds it, and an old cell is as it was. -/
theorem after_box {w w0 w1 : World} {t : TypeId} {u x : Value} {fr : Nat × Nat} {v : Value} {p : Addr} (hw : w1 = (w0.alloc (.cells #[u] t fr)).setCell ⟨w0.heap.size, 0, none⟩ x) (h : w.cell? p = some v) (hf : w.frozen? p = false) (hp : p.block < w.heap.size) (h0 : w0.heap = w.heap)
    (hb : Below w.heap.size w w0) :
    Below w.heap.size w w1 ∧ w1.cell? ⟨w.heap.size, 0, none⟩ = some x ∧ w1.cell? p = some v ∧ w1.frozen? p = false := by
  have h1 : Below w.heap.size w w1 := by
    rw [hw]
    refine (hb.alloc (by rw [h0]; exact Nat.le_refl _) _).setCell ?_ _
    rw [h0]; exact Nat.le_refl _
  refine ⟨h1, ?_, ?_, ?_⟩
  · rw [hw, h0]; simp [World.cell?, World.alloc, World.setCell, h0, Array.getElem_modify]
  · rw [Below.cell h1 hp]; exact h
  · rw [Below.frozen h1 hp]; exact hf

/-- g ahead of place k, f from there on. -/
def upTo (k : Nat) (g f : Nat → Nat) (i : Nat) : Nat := if i < k then g i else f i
theorem upTo_lt {k i : Nat} {g f : Nat → Nat} (h : i < k) : upTo k g f i = g i := if_pos h
theorem upTo_ge {k i : Nat} {g f : Nat → Nat} (h : ¬ i < k) : upTo k g f i = f i := if_neg h

/-- 2^64, kept from the walk's sight. -/
def M64 : Int := 18446744073709551616

def sub64Entry : Array Value → Sem Value := fun args => do
  let (x, y, b) ← Extern.MathBitsCarry.three "Sub64" args
  pure (Extern.MathBitsCarry.pair ((x + Extern.MathBitsCarry.m64 - y - b) % Extern.MathBitsCarry.m64) (if x < y + b then 1 else 0))

/-- What a masked choice comes to. -/
def sel (c x y : Int) : Int := if c = 0 then x else y

theorem cmov_val (x y c : Int) (hx : 0 ≤ x) (hy : 0 ≤ y) (hx1 : x < M64) (hy1 : y < M64) (hc0 : 0 ≤ c) (hc : c ≤ 1) :
    bits BinOp.or IntKind.u64 (bits BinOp.andNot IntKind.u64 x (IntKind.u64.wrap (-c))) (bits BinOp.and IntKind.u64 y (IntKind.u64.wrap (-c))) = sel c x y := by
  obtain ⟨X, rfl⟩ := Int.eq_ofNat_of_zero_le hx
  obtain ⟨Y, rfl⟩ := Int.eq_ofNat_of_zero_le hy
  unfold M64 at hx1 hy1
  have hc' : c = 0 ∨ c = 1 := by omega
  rcases hc' with rfl | rfl
  · have e : IntKind.u64.wrap (-0) = ((0 : Nat) : Int) := by rfl
    unfold sel
    rw [e, if_pos rfl, u64_andNot_nat X 0 (by omega) (by omega), bits_and_u64_nat Y 0 (by omega) (by omega), Nat.and_zero, Nat.sub_zero]
    rw [show X &&& 18446744073709551615 = X % 18446744073709551616 from Nat.and_two_pow_sub_one_eq_mod X 64, Nat.mod_eq_of_lt (by omega), bits_or_u64_nat X 0 (by omega) (by omega), Nat.or_zero]
  · have e : IntKind.u64.wrap (-1) = ((18446744073709551615 : Nat) : Int) := by rfl
    unfold sel
    rw [e, if_neg (by omega), u64_andNot_nat X 18446744073709551615 (by omega) (by omega), bits_and_u64_nat Y 18446744073709551615 (by omega) (by omega), Nat.sub_self, Nat.and_zero]
    rw [show Y &&& 18446744073709551615 = Y % 18446744073709551616 from Nat.and_two_pow_sub_one_eq_mod Y 64, Nat.mod_eq_of_lt (by omega), bits_or_u64_nat 0 Y (by omega) (by omega), Nat.zero_or]
end Go.Proofs.YtimihpddlinmbaaDoor
