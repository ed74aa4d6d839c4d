/-
  Rows of new cells.
-/
import Derived.Test.YtimihpddlinmbaaDoorProg
import Derived.Test.YtimihpddlinmbaaDoorK
import Derived.Laws.MakeOwn
namespace Go.Proofs.YtimihpddlinmbaaDoor
open Go.RowKit
set_option linter.unusedVariables false
set_option linter.unusedSimpArgs false

theorem made_get (v : Value) (k m j : Nat) (hk : 0 < k) (hj : j < m) : (madeCells (Array.replicate k v) m)[j]? = some v := by
  have h := Nat.mod_lt j hk
  simp only [madeCells, Array.size_replicate]
  rw [Array.getElem?_map, Array.getElem?_range, if_pos hj]
  simp [h]

/-- 'make([]fp.Fp, n)': n elements of zeros. -/
def fpZeros (n : Nat) : Array Value := madeCells (Array.replicate 2 (.int .u64 0)) (n * 2)
def byZeros (n : Nat) : Array Value := madeCells (Array.replicate 16 (.int .u8 0)) (n * 16)
def wZeros (n : Nat) : Array Value := madeCells (Array.replicate 2 (.int .u64 0)) (n * 2)

theorem fpZeros_get (n j : Nat) (h : j < n * 2) : (fpZeros n)[j]? = some (.int .u64 0) := made_get _ _ _ _ (by omega) h
theorem byZeros_get (n j : Nat) (h : j < n * 16) : (byZeros n)[j]? = some (.int .u8 0) := made_get _ _ _ _ (by omega) h
theorem wZeros_get (n j : Nat) (h : j < n * 2) : (wZeros n)[j]? = some (.int .u64 0) := made_get _ _ _ _ (by omega) h

theorem info54 : (Tryd.prog.info? 53).map (fun i => (i.zero, i.size, i.bytes)) = some (some (.agg (Array.replicate 2 (.int .u64 0))), 2, 16) := by kernel_rfl
theorem info30 : (Tryd.prog.info? 30).map (fun i => (i.zero, i.size, i.bytes)) = some (some (.agg (Array.replicate 16 (.int .u8 0))), 16, 16) := by kernel_rfl
theorem info35 : (Tryd.prog.info? 35).map (fun i => (i.zero, i.size, i.bytes)) = some (some (.agg (Array.replicate 2 (.int .u64 0))), 2, 16) := by kernel_rfl

theorem make_any (t e : TypeId) (z : Array Value) (size bytes n : Nat) (ht : Tryd.prog.underlying t = some (.slice e)) (hi : (Tryd.prog.info? e).map (fun i => (i.zero, i.size, i.bytes)) = some (some (.agg z), size, bytes)) (hn : n ≤ 4096) (hb : bytes ≤ 4096) (w : World) :
    (Instr.makeSlice t (.int .i64 (n : Int)) (.int .i64 (n : Int))).run Tryd.prog w = .ok (.slice (some ⟨w.heap.size, 0, none⟩) n n) (w.alloc (.cells (madeCells z (n * size)) e)) := by
  obtain ⟨i, hi0, hi1⟩ := Option.map_eq_some_iff.1 hi
  simp only [Prod.mk.injEq] at hi1
  obtain ⟨h1, h2, h3⟩ := hi1
  have hp : bytes * n ≤ 4096 * 4096 := Nat.mul_le_mul hb hn
  have := run_make (P := Tryd.prog) w t e i (.agg z) ht hi0 h1 .i64 .i64 (n : Int) (n : Int) (by omega) (by omega) (by rw [h3, ← Int.natCast_mul]; omega) (by omega)
  rw [this, h2]
  rfl

theorem make43 (n : Nat) (hn : n ≤ 4096) (w : World) : (Instr.makeSlice 43 (.int .i64 (n : Int)) (.int .i64 (n : Int))).run Tryd.prog w = .ok (.slice (some ⟨w.heap.size, 0, none⟩) n n) (w.alloc (.cells (fpZeros n) 53)) :=
  make_any 43 53 _ _ _ n Tryd.underlying43 info54 hn (by omega) w
theorem make46 (n : Nat) (hn : n ≤ 4096) (w : World) : (Instr.makeSlice 46 (.int .i64 (n : Int)) (.int .i64 (n : Int))).run Tryd.prog w = .ok (.slice (some ⟨w.heap.size, 0, none⟩) n n) (w.alloc (.cells (fpZeros n) 53)) :=
  make_any 46 53 _ _ _ n Tryd.underlying46 info54 hn (by omega) w
theorem make22 (n : Nat) (hn : n ≤ 4096) (w : World) : (Instr.makeSlice 22 (.int .i64 (n : Int)) (.int .i64 (n : Int))).run Tryd.prog w = .ok (.slice (some ⟨w.heap.size, 0, none⟩) n n) (w.alloc (.cells (byZeros n) 30)) :=
  make_any 22 30 _ _ _ n Tryd.underlying22 info30 hn (by omega) w
theorem make28 (n : Nat) (hn : n ≤ 4096) (w : World) : (Instr.makeSlice 28 (.int .i64 (n : Int)) (.int .i64 (n : Int))).run Tryd.prog w = .ok (.slice (some ⟨w.heap.size, 0, none⟩) n n) (w.alloc (.cells (wZeros n) 35)) :=
  make_any 28 35 _ _ _ n Tryd.underlying28 info35 hn (by omega) w
end Go.Proofs.YtimihpddlinmbaaDoor
