/-
  The field of 128 bits: what the words of Montgomery's product come to, in plain integers.
-/
import Derived.Test.YtimihpddlinmbaaDoorF
namespace Go.Proofs.YtimihpddlinmbaaDoor
set_option linter.unusedVariables false

/-- The two rows and the two reductions, put together: R1, R2 are the rows, T the first reduction's rest, S the sum carried into the second, V the second's rest. -/
theorem mont_sum (z00 z01 z10 z11 R1 R2 T S V m1 m2 : Int)
  (h1 : R1 = z00 + z01 * 18446744073709551616) (h2 : R2 = z10 + z11 * 18446744073709551616)
  (hT : T * 18446744073709551616 = R1 + m1 * 340282366920938462946865773367900766209) (hS : S = T + R2)
  (hV : V * 18446744073709551616 = S + m2 * 340282366920938462946865773367900766209) :
  V * 340282366920938463463374607431768211456 = (z00 + (z01 + z10) * 18446744073709551616 + z11 * 340282366920938463463374607431768211456) + (m1 + m2 * 18446744073709551616) * 340282366920938462946865773367900766209 := by
  omega
/-- The sum between the two reductions. -/
theorem mid_sum (a b c d e f s0 s1 s2 k0 k1 k2 : Int) (e0 : s0 + k0 * 18446744073709551616 = a + d + 0) (e1 : s1 + k1 * 18446744073709551616 = b + e + k0) (e2 : s2 + k2 * 18446744073709551616 = c + f + k1) :
  s0 + s1 * 18446744073709551616 + s2 * 340282366920938463463374607431768211456 + k2 * 6277101735386680763835789423207666416102355444464034512896
    = (a + b * 18446744073709551616 + c * 340282366920938463463374607431768211456) + (d + e * 18446744073709551616 + f * 340282366920938463463374607431768211456) := by
  omega
theorem split_mul (a0 a1 b0 b1 : Int) : (a0 + a1 * 18446744073709551616) * (b0 + b1 * 18446744073709551616) = a0 * b0 + (a0 * b1 + a1 * b0) * 18446744073709551616 + a1 * b1 * 340282366920938463463374607431768211456 := by grind
end Go.Proofs.YtimihpddlinmbaaDoor
