/-
  DERIVED. GIVEN WITH THE SEED: THE PROGRAM's TIES (one call each: nine closed facts by the kernel) AND EACH ROW's TIE, after the 31st guide's Derived/Test/Toyas{Tie, Card}.lean. No idea stands in it: it is a product of the set-up. Laid BY PROGRAM, IN A SANDBOX (cutbox-door.mjs). By AI agents, Wed Nov 11 2026. No macro, syntax, notation, axiom, sorry.
-/
import Derived.Test.YtimihpddlinmbaaDoorRows
import Derived.LaidByTextLater
import Derived.SevenTiedAt
import Derived.LaidSub
import Derived.LaidOnce
namespace Go.Proofs.YtimihpddlinmbaaDoor
open Go
set_option maxRecDepth 100000
theorem seatTie1 : Tryd.prog.laidByTextLater [("math/bits.deBruijn32tab", Rows.laid_math_bits_deBruijn32tab), ("math/bits.deBruijn64tab", Rows.laid_math_bits_deBruijn64tab), ("loop.example/pub-g03033/pub/circl/vdaf/fp128.rSquare", Rows.laid_loop_example_pub_g03033_pub_circl_vdaf_fp128_rSquare), ("loop.example/pub-g03033/pub/circl/vdaf/fp128.half", Rows.laid_loop_example_pub_g03033_pub_circl_vdaf_fp128_half), ("loop.example/pub-g03033/pub/circl/vdaf/fp128.rootOfUnityTwoN", Rows.laid_loop_example_pub_g03033_pub_circl_vdaf_fp128_rootOfUnityTwoN), ("loop.example/pub-g03033/pub/circl/vdaf/fp128.ErrRootsOfUnity", Rows.laid_loop_example_pub_g03033_pub_circl_vdaf_fp128_ErrRootsOfUnity)] [.data, .data, .data, .data, .data, .sentinel] true :=
  Program.laidByTextLater_by_one 120 8 135 (by kernel_rfl) (by kernel_rfl) (by kernel_rfl) (by kernel_rfl) (by kernel_rfl) (by kernel_rfl) (fun _ _ => by kernel_rfl)
theorem noOwnUnsafe : Tryd.pinned.checked.prog.headLifts.contains "ownunsafe" = false := by kernel_rfl
theorem tie : Tryd.prog.laidByTextLater [("math/bits.deBruijn32tab", Rows.laid_math_bits_deBruijn32tab), ("math/bits.deBruijn64tab", Rows.laid_math_bits_deBruijn64tab), ("loop.example/pub-g03033/pub/circl/vdaf/fp128.rSquare", Rows.laid_loop_example_pub_g03033_pub_circl_vdaf_fp128_rSquare), ("loop.example/pub-g03033/pub/circl/vdaf/fp128.half", Rows.laid_loop_example_pub_g03033_pub_circl_vdaf_fp128_half), ("loop.example/pub-g03033/pub/circl/vdaf/fp128.rootOfUnityTwoN", Rows.laid_loop_example_pub_g03033_pub_circl_vdaf_fp128_rootOfUnityTwoN), ("loop.example/pub-g03033/pub/circl/vdaf/fp128.ErrRootsOfUnity", Rows.laid_loop_example_pub_g03033_pub_circl_vdaf_fp128_ErrRootsOfUnity)] [.data, .data, .data, .data, .data, .sentinel] true :=
  Program.laidByTextLater.sub seatTie1 ["math/bits.deBruijn32tab", "math/bits.deBruijn64tab", "loop.example/pub-g03033/pub/circl/vdaf/fp128.rSquare", "loop.example/pub-g03033/pub/circl/vdaf/fp128.half", "loop.example/pub-g03033/pub/circl/vdaf/fp128.rootOfUnityTwoN", "loop.example/pub-g03033/pub/circl/vdaf/fp128.ErrRootsOfUnity"] (by kernel_rfl) (by kernel_rfl)
theorem fnNTT128Back_row_tie : Rows.fnNTT128BackRow.laidByTextAt .later Tryd.pinned [.data, .data, .data, .data, .data, .sentinel] true :=
  OpenClaim.laidByTextAt_later rfl rfl tie noOwnUnsafe
theorem fnNTT128Product_row_tie : Rows.fnNTT128ProductRow.laidByTextAt .later Tryd.pinned [.data, .data, .data, .data, .data, .sentinel] true :=
  OpenClaim.laidByTextAt_later rfl rfl tie noOwnUnsafe
theorem fnNTT128BackUpto_row_tie : Rows.fnNTT128BackUptoRow.laidByTextAt .later Tryd.pinned [.data, .data, .data, .data, .data, .sentinel] true :=
  OpenClaim.laidByTextAt_later rfl rfl tie noOwnUnsafe
theorem fnNTT128ProductUpto_row_tie : Rows.fnNTT128ProductUptoRow.laidByTextAt .later Tryd.pinned [.data, .data, .data, .data, .data, .sentinel] true :=
  OpenClaim.laidByTextAt_later rfl rfl tie noOwnUnsafe
end Go.Proofs.YtimihpddlinmbaaDoor
