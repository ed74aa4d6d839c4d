/-
  encoding/binary's little endian words: read, and written.
-/
import Derived.Test.YtimihpddlinmbaaDoorProg
import Derived.Test.YtimihpddlinmbaaDoorK
import Derived.Lib.EndianBits
import Derived.WalkSpells
namespace Go.Proofs.YtimihpddlinmbaaDoor
open Go.RowKit
set_option linter.unusedVariables false
set_option linter.unusedSimpArgs false

def word8 (a b c d e f g h : Int) : Int := a + b * 256 + c * 65536 + d * 16777216 + e * 4294967296 + f * 1099511627776 + g * 281474976710656 + h * 72057594037927936

set_option maxHeartbeats 1000000 in
theorem leUint64 (a b c d e f g h : Int) (ha : 0 ≤ a ∧ a < 256) (hb : 0 ≤ b ∧ b < 256) (hc : 0 ≤ c ∧ c < 256) (hd : 0 ≤ d ∧ d < 256) (he : 0 ≤ e ∧ e < 256) (hf : 0 ≤ f ∧ f < 256) (hg : 0 ≤ g ∧ g < 256) (hh : 0 ≤ h ∧ h < 256)
    (B o n cp : Nat) (hn : 8 ≤ n) (w : World) (c0 : w.cell? ⟨B, o, none⟩ = some (.int .u8 a)) (c1 : w.cell? ⟨B, o + 1, none⟩ = some (.int .u8 b)) (c2 : w.cell? ⟨B, o + 2, none⟩ = some (.int .u8 c)) (c3 : w.cell? ⟨B, o + 3, none⟩ = some (.int .u8 d))
    (c4 : w.cell? ⟨B, o + 4, none⟩ = some (.int .u8 e)) (c5 : w.cell? ⟨B, o + 5, none⟩ = some (.int .u8 f)) (c6 : w.cell? ⟨B, o + 6, none⟩ = some (.int .u8 g)) (c7 : w.cell? ⟨B, o + 7, none⟩ = some (.int .u8 h)) :
    Calls Tryd.prog 67 #[.agg #[], .slice (some ⟨B, o, none⟩) n cp] w fun e' w' => e' = .returned (.int .u64 (word8 a b c d e f g h)) ∧ Below w.heap.size w w' := by
  obtain ⟨ha0, ha1⟩ := ha
  obtain ⟨hb0, hb1⟩ := hb
  obtain ⟨hc0, hc1⟩ := hc
  obtain ⟨hd0, hd1⟩ := hd
  obtain ⟨he0, he1⟩ := he
  obtain ⟨hf0, hf1⟩ := hf
  obtain ⟨hg0, hg1⟩ := hg
  obtain ⟨hh0, hh1⟩ := hh
  have d0 := cell_past (.cells #[] 89) c0
  have d1 := cell_past (.cells #[] 89) c1
  have d2 := cell_past (.cells #[] 89) c2
  have d3 := cell_past (.cells #[] 89) c3
  have d4 := cell_past (.cells #[] 89) c4
  have d5 := cell_past (.cells #[] 89) c5
  have d6 := cell_past (.cells #[] 89) c6
  have d7 := cell_past (.cells #[] 89) c7
  clear c0 c1 c2 c3 c4 c5 c6 c7
  have n0 : 0 < n := by omega
  have n1 : (1 : Int) < (n : Int) := by omega
  have n2 : (2 : Int) < (n : Int) := by omega
  have n3 : (3 : Int) < (n : Int) := by omega
  have n4 : (4 : Int) < (n : Int) := by omega
  have n5 : (5 : Int) < (n : Int) := by omega
  have n6 : (6 : Int) < (n : Int) := by omega
  have n7 : (7 : Int) < (n : Int) := by omega
  clear hn
  go_enter Tryd.func67, Tryd.ntmps67
  go_wp2
  go_quiet (fail)
  go_wp2
  go_ret
  refine ⟨?_, ((Below.refl _ w).alloc (Nat.le_refl _) _).trans ⟨rfl, rfl, rfl, Nat.le_refl _, fun _ _ => rfl⟩⟩
  simp (disch := omega) only [u64_wrap_id, u64_or8, u64_or16, u64_or24, u64_or32, u64_or40, u64_or48, u64_or56]
  rfl

/-- The bytes of a number, the lowest first. -/
def bt (x j : Nat) : Nat := x / 256 ^ j % 256
def bts (S x : Nat) : List Value := (List.range S).map fun j => .int .u8 ((bt x j : Nat) : Int)
theorem bts8 (x : Nat) : bts 8 x = [.int .u8 ((bt x 0 : Nat) : Int), .int .u8 ((bt x 1 : Nat) : Int), .int .u8 ((bt x 2 : Nat) : Int), .int .u8 ((bt x 3 : Nat) : Int), .int .u8 ((bt x 4 : Nat) : Int), .int .u8 ((bt x 5 : Nat) : Int), .int .u8 ((bt x 6 : Nat) : Int), .int .u8 ((bt x 7 : Nat) : Int)] := rfl
/-- The S bytes of x lie at block b, from place o on. -/
def By (w : World) (b o S x : Nat) : Prop := ∀ j, j < S → w.cell? ⟨b, o + j, none⟩ = some (.int .u8 ((bt x j : Nat) : Int))

theorem bt_lt (x j : Nat) : 0 ≤ ((bt x j : Nat) : Int) ∧ ((bt x j : Nat) : Int) < 256 := by
  unfold bt; omega

theorem word8_bt (x : Nat) (hx : x < 18446744073709551616) : word8 (bt x 0 : Nat) (bt x 1 : Nat) (bt x 2 : Nat) (bt x 3 : Nat) (bt x 4 : Nat) (bt x 5 : Nat) (bt x 6 : Nat) (bt x 7 : Nat) = (x : Int) := by
  unfold word8 bt
  simp only [Nat.reducePow, Nat.pow_zero, Nat.div_one]
  omega

theorem leUint64_by (x B o n cp : Nat) (hx : x < 18446744073709551616) (hn : 8 ≤ n) (w : World) (h : By w B o 8 x) :
    Calls Tryd.prog 67 #[.agg #[], .slice (some ⟨B, o, none⟩) n cp] w fun e' w' => e' = .returned (.int .u64 (x : Int)) ∧ Below w.heap.size w w' := by
  have c := leUint64 _ _ _ _ _ _ _ _ (bt_lt x 0) (bt_lt x 1) (bt_lt x 2) (bt_lt x 3) (bt_lt x 4) (bt_lt x 5) (bt_lt x 6) (bt_lt x 7) B o n cp hn w (h 0 (by omega)) (h 1 (by omega)) (h 2 (by omega)) (h 3 (by omega)) (h 4 (by omega)) (h 5 (by omega)) (h 6 (by omega)) (h 7 (by omega))
  rw [word8_bt x hx] at c
  exact c

set_option maxHeartbeats 1000000 in
theorem lePutUint64 (x B o n cp : Nat) (hx : x < 18446744073709551616) (hn : 8 ≤ n) (w : World) (h : ∀ j, j < 8 → (∃ v, w.cell? ⟨B, o + j, none⟩ = some v) ∧ w.frozen? ⟨B, o + j, none⟩ = false) :
    Calls Tryd.prog 58 #[.agg #[], .slice (some ⟨B, o, none⟩) n cp, .int .u64 (x : Int)] w fun e' w' => e' = .returned (.tuple #[]) ∧ Wr w B o (bts 8 x) w' := by
  obtain ⟨⟨v0, c0⟩, f0⟩ := h 0 (by omega)
  obtain ⟨⟨v1, c1⟩, f1⟩ := h 1 (by omega)
  obtain ⟨⟨v2, c2⟩, f2⟩ := h 2 (by omega)
  obtain ⟨⟨v3, c3⟩, f3⟩ := h 3 (by omega)
  obtain ⟨⟨v4, c4⟩, f4⟩ := h 4 (by omega)
  obtain ⟨⟨v5, c5⟩, f5⟩ := h 5 (by omega)
  obtain ⟨⟨v6, c6⟩, f6⟩ := h 6 (by omega)
  obtain ⟨⟨v7, c7⟩, f7⟩ := h 7 (by omega)
  clear h
  simp only [Nat.add_zero] at c0 f0
  have hl := cell_lt c0
  have HL := Lib.hid hl
  have g0 := free_past (.cells #[] 89) hl f0
  have g1 := free_past (.cells #[] 89) (p := ⟨B, o + 1, none⟩) hl f1
  have g2 := free_past (.cells #[] 89) (p := ⟨B, o + 2, none⟩) hl f2
  have g3 := free_past (.cells #[] 89) (p := ⟨B, o + 3, none⟩) hl f3
  have g4 := free_past (.cells #[] 89) (p := ⟨B, o + 4, none⟩) hl f4
  have g5 := free_past (.cells #[] 89) (p := ⟨B, o + 5, none⟩) hl f5
  have g6 := free_past (.cells #[] 89) (p := ⟨B, o + 6, none⟩) hl f6
  have g7 := free_past (.cells #[] 89) (p := ⟨B, o + 7, none⟩) hl f7
  have d0 := cell_past (.cells #[] 89) c0
  have d1 := cell_past (.cells #[] 89) c1
  have d2 := cell_past (.cells #[] 89) c2
  have d3 := cell_past (.cells #[] 89) c3
  have d4 := cell_past (.cells #[] 89) c4
  have d5 := cell_past (.cells #[] 89) c5
  have d6 := cell_past (.cells #[] 89) c6
  have d7 := cell_past (.cells #[] 89) c7
  clear c0 c1 c2 c3 c4 c5 c6 c7 f0 f1 f2 f3 f4 f5 f6 f7 hl
  have n0 : 0 < n := by omega
  have n1 : (1 : Int) < (n : Int) := by omega
  have n2 : (2 : Int) < (n : Int) := by omega
  have n3 : (3 : Int) < (n : Int) := by omega
  have n4 : (4 : Int) < (n : Int) := by omega
  have n5 : (5 : Int) < (n : Int) := by omega
  have n6 : (6 : Int) < (n : Int) := by omega
  have n7 : (7 : Int) < (n : Int) := by omega
  have hx0 : (0 : Int) ≤ (x : Int) := by omega
  clear hn
  go_enter Tryd.func58, Tryd.ntmps58
  go_wp2
  go_end0
  refine ⟨rfl, Wr.pre ((Below.refl _ w).alloc (Nat.le_refl _) (.cells #[] 89)) HL.out ?_⟩
  have e : bts 8 x = [.int .u8 ((x : Int) % 256), .int .u8 ((x : Int) / 256 % 256), .int .u8 ((x : Int) / 65536 % 256), .int .u8 ((x : Int) / 16777216 % 256), .int .u8 ((x : Int) / 4294967296 % 256), .int .u8 ((x : Int) / 1099511627776 % 256), .int .u8 ((x : Int) / 281474976710656 % 256), .int .u8 ((x : Int) / 72057594037927936)] := by
    have h0 : ((bt x 0 : Nat) : Int) = (x : Int) % 256 := by unfold bt; simp only [Nat.reducePow, Nat.pow_zero, Nat.div_one]; omega
    have h1 : ((bt x 1 : Nat) : Int) = (x : Int) / 256 % 256 := by unfold bt; simp only [Nat.reducePow]; omega
    have h2 : ((bt x 2 : Nat) : Int) = (x : Int) / 65536 % 256 := by unfold bt; simp only [Nat.reducePow]; omega
    have h3 : ((bt x 3 : Nat) : Int) = (x : Int) / 16777216 % 256 := by unfold bt; simp only [Nat.reducePow]; omega
    have h4 : ((bt x 4 : Nat) : Int) = (x : Int) / 4294967296 % 256 := by unfold bt; simp only [Nat.reducePow]; omega
    have h5 : ((bt x 5 : Nat) : Int) = (x : Int) / 1099511627776 % 256 := by unfold bt; simp only [Nat.reducePow]; omega
    have h6 : ((bt x 6 : Nat) : Int) = (x : Int) / 281474976710656 % 256 := by unfold bt; simp only [Nat.reducePow]; omega
    have h7 : ((bt x 7 : Nat) : Int) = (x : Int) / 72057594037927936 := by unfold bt; simp only [Nat.reducePow]; omega
    show [Value.int .u8 ((bt x 0 : Nat) : Int), .int .u8 ((bt x 1 : Nat) : Int), .int .u8 ((bt x 2 : Nat) : Int), .int .u8 ((bt x 3 : Nat) : Int), .int .u8 ((bt x 4 : Nat) : Int), .int .u8 ((bt x 5 : Nat) : Int), .int .u8 ((bt x 6 : Nat) : Int), .int .u8 ((bt x 7 : Nat) : Int)] = _
    rw [h0, h1, h2, h3, h4, h5, h6, h7]
  rw [e]
  exact Below.refl _ _
end Go.Proofs.YtimihpddlinmbaaDoor
