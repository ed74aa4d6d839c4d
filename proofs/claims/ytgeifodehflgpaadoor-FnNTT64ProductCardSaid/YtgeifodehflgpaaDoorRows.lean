/-
  NARROWER THAN 'FOR EVERY INPUT', by the rows' own cells (each row's printed sentence says how): FnNTT64Back: ifaces, laid · FnNTT64Product: ifaces, laid.
  DERIVED. THE GIVEN ROWS OF THIS SEAT. 2 by the template 'for every input the law returns true; each argument reads behind the call as it read before'; 0 by the template 'total and deterministic' (their statements: YtgeifodehflgpaaDoorTotals.lean).
  GIVEN WITH THE SEED: the statements are not yours to turn. If you find one false, say at which input.
  Laid BY PROGRAM, IN A SANDBOX (cutbox-rows.mjs): the forced cells as the released guide's own fill.sh prints them over the translation fc7b1a72f9992b66… (all of the seat's roots in one cut). By AI agents, Wed Nov 11 2026. No macro, syntax, notation, axiom, sorry.
-/
import Derived.Test.YtgeifodehflgpaaDoorChecked
import GoSem.Claim
import GoSem.ClaimJoined
import GoSem.ClaimMapViews
import Derived.JoinedTies
import Derived.KernelRfl
namespace Go.Proofs.YtgeifodehflgpaaDoor
/- THE CELL 'sum', in the pinned program and in every row, IS THE sha256 OF THE DUMP (.gsa) THAT YtgeifodehflgpaaDoorProg.lean LOADS. Nothing in Lean hashes anything: it is a label: what it is worth is what the hold of that sum in a sandbox is worth. -/
noncomputable def Tryd.pinned : Pinned := { name := "ytgeifodehflgpaadoor", sum := "fc7b1a72f9992b668cfb8556b339a989ead81765f9e287128b4e51b1a447777b", checked := Tryd.checked }
namespace Rows
def none {H : Type} : Left H := { results := [], args := [] }

/- WHAT THE LISTED PACKAGE-LEVEL VARIABLES READ AS WHEN THE CALL BEGINS. Each datum BY PROGRAM (the guide's laid-datum.mjs) off the statement by which the dump's own 'gosem.cut.vars' lays the variable. In a bare row this is a premise. The card (YtgeifodehflgpaaDoorCards.lean) ties it to the program's text. -/
def laid_math_bits_deBruijn32tab {H : Type} : DataW H := .agg [.lit (.int .u8 0), .lit (.int .u8 1), .lit (.int .u8 28), .lit (.int .u8 2), .lit (.int .u8 29), .lit (.int .u8 14), .lit (.int .u8 24), .lit (.int .u8 3), .lit (.int .u8 30), .lit (.int .u8 22), .lit (.int .u8 20), .lit (.int .u8 15), .lit (.int .u8 25), .lit (.int .u8 17), .lit (.int .u8 4), .lit (.int .u8 8), .lit (.int .u8 31), .lit (.int .u8 27), .lit (.int .u8 13), .lit (.int .u8 23), .lit (.int .u8 21), .lit (.int .u8 19), .lit (.int .u8 16), .lit (.int .u8 7), .lit (.int .u8 26), .lit (.int .u8 12), .lit (.int .u8 18), .lit (.int .u8 6), .lit (.int .u8 11), .lit (.int .u8 5), .lit (.int .u8 10), .lit (.int .u8 9)]
def laid_math_bits_deBruijn64tab {H : Type} : DataW H := .agg [.lit (.int .u8 0), .lit (.int .u8 1), .lit (.int .u8 56), .lit (.int .u8 2), .lit (.int .u8 57), .lit (.int .u8 49), .lit (.int .u8 28), .lit (.int .u8 3), .lit (.int .u8 61), .lit (.int .u8 58), .lit (.int .u8 42), .lit (.int .u8 50), .lit (.int .u8 38), .lit (.int .u8 29), .lit (.int .u8 17), .lit (.int .u8 4), .lit (.int .u8 62), .lit (.int .u8 47), .lit (.int .u8 59), .lit (.int .u8 36), .lit (.int .u8 45), .lit (.int .u8 43), .lit (.int .u8 51), .lit (.int .u8 22), .lit (.int .u8 53), .lit (.int .u8 39), .lit (.int .u8 33), .lit (.int .u8 30), .lit (.int .u8 24), .lit (.int .u8 18), .lit (.int .u8 12), .lit (.int .u8 5), .lit (.int .u8 63), .lit (.int .u8 55), .lit (.int .u8 48), .lit (.int .u8 27), .lit (.int .u8 60), .lit (.int .u8 41), .lit (.int .u8 37), .lit (.int .u8 16), .lit (.int .u8 46), .lit (.int .u8 35), .lit (.int .u8 44), .lit (.int .u8 21), .lit (.int .u8 52), .lit (.int .u8 32), .lit (.int .u8 23), .lit (.int .u8 11), .lit (.int .u8 54), .lit (.int .u8 26), .lit (.int .u8 40), .lit (.int .u8 15), .lit (.int .u8 34), .lit (.int .u8 20), .lit (.int .u8 31), .lit (.int .u8 10), .lit (.int .u8 25), .lit (.int .u8 14), .lit (.int .u8 19), .lit (.int .u8 9), .lit (.int .u8 13), .lit (.int .u8 8), .lit (.int .u8 7), .lit (.int .u8 6)]
def laid_loop_example_pub_g03033_pub_circl_vdaf_fp64_rSquare {H : Type} : DataW H := .agg [.lit (.int .u64 18446744065119617025)]
def laid_loop_example_pub_g03033_pub_circl_vdaf_fp64_half {H : Type} : DataW H := .agg [.lit (.int .u64 9223372036854775808)]
def laid_loop_example_pub_g03033_pub_circl_vdaf_fp64_rootOfUnityTwoN {H : Type} : DataW H := .agg [.agg [.lit (.int .u64 4294967295)], .agg [.lit (.int .u64 18446744065119617026)], .agg [.lit (.int .u64 18446744069414518785)], .agg [.lit (.int .u64 18374686475393433601)], .agg [.lit (.int .u64 268435456)], .agg [.lit (.int .u64 18446673700670406657)], .agg [.lit (.int .u64 18446744069414584193)], .agg [.lit (.int .u64 576460752303421440)], .agg [.lit (.int .u64 16576810576923738718)], .agg [.lit (.int .u64 6647628942875889800)], .agg [.lit (.int .u64 10087739294013848503)], .agg [.lit (.int .u64 2135208489130820273)], .agg [.lit (.int .u64 10781050935026037169)], .agg [.lit (.int .u64 3878014442329970502)], .agg [.lit (.int .u64 1205735313231991947)], .agg [.lit (.int .u64 2523909884358325590)], .agg [.lit (.int .u64 13797134855221748930)], .agg [.lit (.int .u64 12267112747022536458)], .agg [.lit (.int .u64 430584883067102937)], .agg [.lit (.int .u64 10135969988448727187)], .agg [.lit (.int .u64 6815045114074884550)], .agg [.lit (.int .u64 3616995587998296759)], .agg [.lit (.int .u64 16605412514144166046)], .agg [.lit (.int .u64 3961981891181468770)], .agg [.lit (.int .u64 14053449032146768478)], .agg [.lit (.int .u64 7984864372213488273)], .agg [.lit (.int .u64 8707395988713065759)], .agg [.lit (.int .u64 10473709294003837707)], .agg [.lit (.int .u64 20904484799587963)], .agg [.lit (.int .u64 11848168407699165279)], .agg [.lit (.int .u64 13288442737737738162)], .agg [.lit (.int .u64 6163429357473536562)], .agg [.lit (.int .u64 15733474329512464024)]]
def laid_loop_example_pub_g03033_pub_circl_vdaf_fp64_ErrRootsOfUnity {H : Type} : DataW H := .iface "*errors.errorString" (.ptr (.agg [.lit (.string [70, 112, 32, 104, 97, 115, 32, 110, 111, 32, 114, 111, 111, 116, 115, 32, 111, 102, 32, 117, 110, 105, 116, 121, 32, 111, 102, 32, 111, 114, 100, 101, 114, 32, 108, 97, 114, 103, 101, 114, 32, 116, 104, 97, 110, 32, 50, 94, 51, 50])]))

/-- 'laws.FnNTT64Back': WHATEVER THE INPUT: true; the input reads as it did. -/
def fnNTT64BackSpec : ChangeSpec := { name := "fnNTT64Back", vars := ["loop.example/pub-g03033/pub/circl/vdaf/fp64.rSquare", "loop.example/pub-g03033/pub/circl/vdaf/fp64.rootOfUnityTwoN", "loop.example/pub-g03033/pub/circl/vdaf/fp64.ErrRootsOfUnity", "loop.example/pub-g03033/pub/circl/vdaf/fp64.half"], fn := fun _ => fun
  | [d, g1, g2, g3, g4] => { results := [.lit (.bool true)], args := [d], vars := [g1, g2, g3, g4] }
  | _ => none }
def fnNTT64BackRow : OpenClaim := { program := "ytgeifodehflgpaadoor", sum := "fc7b1a72f9992b668cfb8556b339a989ead81765f9e287128b4e51b1a447777b", func := "loop.example/pub-g03033/laws.FnNTT64Back", spec := "fnNTT64Back", inPlace := ["math/bits.Add64", "math/bits.Sub64"], named := ["encoding/binary.LittleEndian", "loop.example/pub-g03033/pub/circl/vdaf/fp64.rSquare", "math/bits.deBruijn32tab", "math/bits.deBruijn64tab", "loop.example/pub-g03033/pub/circl/vdaf/fp64.rootOfUnityTwoN", "loop.example/pub-g03033/pub/circl/vdaf/fp64.ErrRootsOfUnity", "loop.example/pub-g03033/pub/circl/vdaf/fp64.half"], ifaces := true, apart := false, laid := [("math/bits.deBruijn32tab", laid_math_bits_deBruijn32tab), ("math/bits.deBruijn64tab", laid_math_bits_deBruijn64tab), ("loop.example/pub-g03033/pub/circl/vdaf/fp64.rSquare", laid_loop_example_pub_g03033_pub_circl_vdaf_fp64_rSquare), ("loop.example/pub-g03033/pub/circl/vdaf/fp64.half", laid_loop_example_pub_g03033_pub_circl_vdaf_fp64_half), ("loop.example/pub-g03033/pub/circl/vdaf/fp64.rootOfUnityTwoN", laid_loop_example_pub_g03033_pub_circl_vdaf_fp64_rootOfUnityTwoN), ("loop.example/pub-g03033/pub/circl/vdaf/fp64.ErrRootsOfUnity", laid_loop_example_pub_g03033_pub_circl_vdaf_fp64_ErrRootsOfUnity)] }
def FnNTT64BackSaid : Prop := fnNTT64BackRow.holds Tryd.pinned (OpenSpec.ofChange fnNTT64BackSpec)

/-- ITS FALSE NEIGHBOUR: 'it returns false'. Refute it at one input. -/
def fnNTT64BackWrong : ChangeSpec := { name := "fnNTT64Back", vars := ["loop.example/pub-g03033/pub/circl/vdaf/fp64.rSquare", "loop.example/pub-g03033/pub/circl/vdaf/fp64.rootOfUnityTwoN", "loop.example/pub-g03033/pub/circl/vdaf/fp64.ErrRootsOfUnity", "loop.example/pub-g03033/pub/circl/vdaf/fp64.half"], fn := fun _ => fun
  | [d, g1, g2, g3, g4] => { results := [.lit (.bool false)], args := [d], vars := [g1, g2, g3, g4] }
  | _ => none }
def FnNTT64BackWrongFalsely : Prop := fnNTT64BackRow.holds Tryd.pinned (OpenSpec.ofChange fnNTT64BackWrong)

/-- 'laws.FnNTT64Product': WHATEVER THE INPUT: true; the input reads as it did. -/
def fnNTT64ProductSpec : ChangeSpec := { name := "fnNTT64Product", vars := ["loop.example/pub-g03033/pub/circl/vdaf/fp64.rSquare", "loop.example/pub-g03033/pub/circl/vdaf/fp64.rootOfUnityTwoN", "loop.example/pub-g03033/pub/circl/vdaf/fp64.ErrRootsOfUnity", "loop.example/pub-g03033/pub/circl/vdaf/fp64.half"], fn := fun _ => fun
  | [d1, d2, g1, g2, g3, g4] => { results := [.lit (.bool true)], args := [d1, d2], vars := [g1, g2, g3, g4] }
  | _ => none }
def fnNTT64ProductRow : OpenClaim := { program := "ytgeifodehflgpaadoor", sum := "fc7b1a72f9992b668cfb8556b339a989ead81765f9e287128b4e51b1a447777b", func := "loop.example/pub-g03033/laws.FnNTT64Product", spec := "fnNTT64Product", inPlace := ["math/bits.Add64", "math/bits.Sub64"], named := ["encoding/binary.LittleEndian", "loop.example/pub-g03033/pub/circl/vdaf/fp64.rSquare", "math/bits.deBruijn32tab", "math/bits.deBruijn64tab", "loop.example/pub-g03033/pub/circl/vdaf/fp64.rootOfUnityTwoN", "loop.example/pub-g03033/pub/circl/vdaf/fp64.ErrRootsOfUnity", "loop.example/pub-g03033/pub/circl/vdaf/fp64.half"], ifaces := true, apart := false, laid := [("math/bits.deBruijn32tab", laid_math_bits_deBruijn32tab), ("math/bits.deBruijn64tab", laid_math_bits_deBruijn64tab), ("loop.example/pub-g03033/pub/circl/vdaf/fp64.rSquare", laid_loop_example_pub_g03033_pub_circl_vdaf_fp64_rSquare), ("loop.example/pub-g03033/pub/circl/vdaf/fp64.half", laid_loop_example_pub_g03033_pub_circl_vdaf_fp64_half), ("loop.example/pub-g03033/pub/circl/vdaf/fp64.rootOfUnityTwoN", laid_loop_example_pub_g03033_pub_circl_vdaf_fp64_rootOfUnityTwoN), ("loop.example/pub-g03033/pub/circl/vdaf/fp64.ErrRootsOfUnity", laid_loop_example_pub_g03033_pub_circl_vdaf_fp64_ErrRootsOfUnity)] }
def FnNTT64ProductSaid : Prop := fnNTT64ProductRow.holds Tryd.pinned (OpenSpec.ofChange fnNTT64ProductSpec)

/-- ITS FALSE NEIGHBOUR: 'it returns false'. Refute it at one input. -/
def fnNTT64ProductWrong : ChangeSpec := { name := "fnNTT64Product", vars := ["loop.example/pub-g03033/pub/circl/vdaf/fp64.rSquare", "loop.example/pub-g03033/pub/circl/vdaf/fp64.rootOfUnityTwoN", "loop.example/pub-g03033/pub/circl/vdaf/fp64.ErrRootsOfUnity", "loop.example/pub-g03033/pub/circl/vdaf/fp64.half"], fn := fun _ => fun
  | [d1, d2, g1, g2, g3, g4] => { results := [.lit (.bool false)], args := [d1, d2], vars := [g1, g2, g3, g4] }
  | _ => none }
def FnNTT64ProductWrongFalsely : Prop := fnNTT64ProductRow.holds Tryd.pinned (OpenSpec.ofChange fnNTT64ProductWrong)

/- THE SECOND FORM. 'bulk': how many values and letters a reading holds, each counted each time it is reached (what is shared counts as often as it is met; a slice's spare places count too). A statement '..UptoSaid' is the law's where the arguments, and the package variables that the reading takes, are together of bulk at most 1048576: NARROWER than '..Said'. Prove '..Said' where nothing that the law and all that it calls make is longer than what came in: it says more and counts as full. Else prove '..UptoSaid'. A law counts once. -/
mutual
def uptoBulk {H : Type} : DataW H → Nat
  | .lit (.string bytes) => bytes.length + 1
  | .lit _ => 1
  | .nil => 1
  | .ptr d => uptoBulk d + 1
  | .slice elems spare => uptoBulkAll elems + uptoBulkAll spare + 1
  | .agg parts => uptoBulkAll parts + 1
  | .iface _ d => uptoBulk d + 1
  | .map entries => uptoBulkEntries entries + 1
  | .held _ => 1
def uptoBulkAll {H : Type} : List (DataW H) → Nat
  | [] => 0
  | d :: r => uptoBulk d + uptoBulkAll r
def uptoBulkEntries {H : Type} : List (Lit × DataW H) → Nat
  | [] => 0
  | x :: r => uptoBulkEntry x + uptoBulkEntries r
def uptoBulkEntry {H : Type} : Lit × DataW H → Nat
  | (.string bytes, d) => bytes.length + uptoBulk d + 1
  | (_, d) => uptoBulk d + 1
 end
def uptoSmall : (H : Type) → List (DataW H) → Bool := fun _ ds => decide (uptoBulkAll ds ≤ 1048576)
def OpenSpec.upto (s : _root_.Go.ChangeSpec) : _root_.Go.OpenSpec := { _root_.Go.OpenSpec.ofChange s with cond := some uptoSmall }

/-- 'laws.FnNTT64Back', WHERE WHAT IT READS IS OF BULK AT MOST 1048576: true; the input reads as it did. -/
def fnNTT64BackUptoRow : OpenClaim := { program := "ytgeifodehflgpaadoor", sum := "fc7b1a72f9992b668cfb8556b339a989ead81765f9e287128b4e51b1a447777b", func := "loop.example/pub-g03033/laws.FnNTT64Back", spec := "fnNTT64Back", inPlace := ["math/bits.Add64", "math/bits.Sub64"], named := ["encoding/binary.LittleEndian", "loop.example/pub-g03033/pub/circl/vdaf/fp64.rSquare", "math/bits.deBruijn32tab", "math/bits.deBruijn64tab", "loop.example/pub-g03033/pub/circl/vdaf/fp64.rootOfUnityTwoN", "loop.example/pub-g03033/pub/circl/vdaf/fp64.ErrRootsOfUnity", "loop.example/pub-g03033/pub/circl/vdaf/fp64.half"], ifaces := true, apart := false, laid := [("math/bits.deBruijn32tab", laid_math_bits_deBruijn32tab), ("math/bits.deBruijn64tab", laid_math_bits_deBruijn64tab), ("loop.example/pub-g03033/pub/circl/vdaf/fp64.rSquare", laid_loop_example_pub_g03033_pub_circl_vdaf_fp64_rSquare), ("loop.example/pub-g03033/pub/circl/vdaf/fp64.half", laid_loop_example_pub_g03033_pub_circl_vdaf_fp64_half), ("loop.example/pub-g03033/pub/circl/vdaf/fp64.rootOfUnityTwoN", laid_loop_example_pub_g03033_pub_circl_vdaf_fp64_rootOfUnityTwoN), ("loop.example/pub-g03033/pub/circl/vdaf/fp64.ErrRootsOfUnity", laid_loop_example_pub_g03033_pub_circl_vdaf_fp64_ErrRootsOfUnity)], narrowed := true }
def FnNTT64BackUptoSaid : Prop := fnNTT64BackUptoRow.holds Tryd.pinned (OpenSpec.upto fnNTT64BackSpec)

/-- 'laws.FnNTT64Product', WHERE WHAT IT READS IS OF BULK AT MOST 1048576: true; the input reads as it did. -/
def fnNTT64ProductUptoRow : OpenClaim := { program := "ytgeifodehflgpaadoor", sum := "fc7b1a72f9992b668cfb8556b339a989ead81765f9e287128b4e51b1a447777b", func := "loop.example/pub-g03033/laws.FnNTT64Product", spec := "fnNTT64Product", inPlace := ["math/bits.Add64", "math/bits.Sub64"], named := ["encoding/binary.LittleEndian", "loop.example/pub-g03033/pub/circl/vdaf/fp64.rSquare", "math/bits.deBruijn32tab", "math/bits.deBruijn64tab", "loop.example/pub-g03033/pub/circl/vdaf/fp64.rootOfUnityTwoN", "loop.example/pub-g03033/pub/circl/vdaf/fp64.ErrRootsOfUnity", "loop.example/pub-g03033/pub/circl/vdaf/fp64.half"], ifaces := true, apart := false, laid := [("math/bits.deBruijn32tab", laid_math_bits_deBruijn32tab), ("math/bits.deBruijn64tab", laid_math_bits_deBruijn64tab), ("loop.example/pub-g03033/pub/circl/vdaf/fp64.rSquare", laid_loop_example_pub_g03033_pub_circl_vdaf_fp64_rSquare), ("loop.example/pub-g03033/pub/circl/vdaf/fp64.half", laid_loop_example_pub_g03033_pub_circl_vdaf_fp64_half), ("loop.example/pub-g03033/pub/circl/vdaf/fp64.rootOfUnityTwoN", laid_loop_example_pub_g03033_pub_circl_vdaf_fp64_rootOfUnityTwoN), ("loop.example/pub-g03033/pub/circl/vdaf/fp64.ErrRootsOfUnity", laid_loop_example_pub_g03033_pub_circl_vdaf_fp64_ErrRootsOfUnity)], narrowed := true }
def FnNTT64ProductUptoSaid : Prop := fnNTT64ProductUptoRow.holds Tryd.pinned (OpenSpec.upto fnNTT64ProductSpec)

end Rows
end Go.Proofs.YtgeifodehflgpaaDoor
