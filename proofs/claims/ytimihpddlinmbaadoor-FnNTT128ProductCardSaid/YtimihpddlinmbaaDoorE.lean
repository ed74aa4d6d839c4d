/-
  What the package's variables hold, out of the row's condition.
-/
import Derived.Test.YtimihpddlinmbaaDoorD
namespace Go.Proofs.YtimihpddlinmbaaDoor
open Go.ChangeShapes Go.WideShapes Go.ChangeAt Go.RowKit Go.Deep
set_option linter.unusedVariables false
set_option linter.unusedSimpArgs false

theorem g0 : Tryd.prog.globalNamed "loop.example/pub-g03033/pub/circl/vdaf/fp128.rootOfUnityTwoN" = some 0 := by kernel_rfl
theorem g2 : Tryd.prog.globalNamed "loop.example/pub-g03033/pub/circl/vdaf/fp128.half" = some 2 := by kernel_rfl
theorem g4 : Tryd.prog.globalNamed "loop.example/pub-g03033/pub/circl/vdaf/fp128.rSquare" = some 4 := by kernel_rfl
theorem g6 : Tryd.prog.globalNamed "math/bits.deBruijn64tab" = some 6 := by kernel_rfl
theorem t0 : (Tryd.prog.globals[0]?).map (·.type) = some 76 := by kernel_rfl
theorem t2 : (Tryd.prog.globals[2]?).map (·.type) = some 53 := by kernel_rfl
theorem t4 : (Tryd.prog.globals[4]?).map (·.type) = some 53 := by kernel_rfl
theorem t6 : (Tryd.prog.globals[6]?).map (·.type) = some 98 := by kernel_rfl
theorem c54 : Tryd.prog.cellsOf 53 = 2 := by kernel_rfl
theorem c33 : Tryd.prog.cellsOf 33 = 1 := by kernel_rfl
theorem c5 : Tryd.prog.cellsOf 5 = 1 := by kernel_rfl
theorem c99 : Tryd.prog.cellsOf 98 = 64 := by kernel_rfl

def db64 : List Int := [0, 1, 56, 2, 57, 49, 28, 3, 61, 58, 42, 50, 38, 29, 17, 4, 62, 47, 59, 36, 45, 43, 51, 22, 53, 39, 33, 30, 24, 18, 12, 5, 63, 55, 48, 27, 60, 41, 37, 16, 46, 35, 44, 21, 52, 32, 23, 11, 54, 26, 40, 15, 34, 20, 31, 10, 25, 14, 19, 9, 13, 8, 7, 6]
theorem db64_is {H : Type} : (Rows.laid_math_bits_deBruijn64tab : DataW H) = Lib.tabData .u8 db64 := rfl

theorem glob_of_laid {W : World} (h : laidMetH Tryd.prog Rows.fnNTT128BackRow.laid W) : Glob W := by
  rw [MakeChecks.laidMetH_plain _ _ _ (by kernel_rfl)] at h
  have h1 : laidMet Tryd.prog _ W := laidMet.tail h
  have h2 : laidMet Tryd.prog _ W := h1.tail
  have h3 : laidMet Tryd.prog _ W := h2.tail
  have h4 : laidMet Tryd.prog _ W := h3.tail
  have q6 := Lib.tabIs_of_head (k := .u8) (zs := db64) g6 t6 Tryd.underlying98 Tryd.underlying5 c5 c99 h1
  have q4 := Lib.tabIs_of_head (k := .u64) (zs := [18446744073709550833, 21895]) g4 t4 Tryd.underlying53 Tryd.underlying33 c33 c54 h2
  have q2 := Lib.tabIs_of_head (k := .u64) (zs := [0, 9223372036854775808]) g2 t2 Tryd.underlying53 Tryd.underlying33 c33 c54 h3
  have x6 := fun i hi => q6.cell g6 i hi
  have x4 := q4.cell g4 0 (by simp)
  have x4' := q4.cell g4 1 (by simp)
  have x2 := q2.cell g2 0 (by simp)
  have x2' := q2.cell g2 1 (by simp)
  obtain ⟨ps, ⟨gg, tt, cs, fuel, p, q, hg, ht, hv, hd, _, _⟩, _⟩ := h4
  obtain rfl := Option.some.inj (g0.symm.trans hg)
  obtain rfl := Option.some.inj (t0.symm.trans ht)
  refine ⟨?_, ⟨x2, x2'⟩, ⟨x4, x4'⟩, ?_, ?_⟩
  · intro i hi
    have h4 := nest (k := .u64) Tryd.underlying76 Tryd.underlying53 Tryd.underlying33 c33 c54 hd i [((lo64 (root i) : Nat) : Int), ((hi64 (root i) : Nat) : Int)] (by omega) (by
      rcases i with _ | _ | _ | _ | _ | _ | _ | i <;> first | omega | rfl)
    unfold El
    rw [World.var?_cell hg hv (i * 2), World.var?_cell hg hv (i * 2 + 1)]
    have h5 := congrArg (fun l => l[0]?) h4
    have h6 := congrArg (fun l => l[1]?) h4
    exact ⟨by simpa [List.getElem?_take, List.getElem?_drop] using h5, by simpa [List.getElem?_take, List.getElem?_drop] using h6⟩
  · intro k hk
    rcases k with _ | _ | _ | _ | _ | _ | _ | k <;> first | omega | exact x6 _ (by decide)
  · have : 6 < W.heap.size := cell_lt (x6 0 (by decide))
    omega
end Go.Proofs.YtimihpddlinmbaaDoor
