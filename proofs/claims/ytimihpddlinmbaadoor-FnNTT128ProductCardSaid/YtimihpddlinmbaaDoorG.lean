/-
  The field of 128 bits: the methods over the four functions on words.
-/
import Derived.Test.YtimihpddlinmbaaDoorFm
import Derived.Test.YtimihpddlinmbaaDoorV
import Derived.WalkSpells
namespace Go.Proofs.YtimihpddlinmbaaDoor
open Go.RowKit
set_option linter.unusedVariables false
set_option linter.unusedSimpArgs false

theorem fpAdd (x y b o ba oa bb ob : Nat) (hx : x < P) (hy : y < P) (w : World) (ha : El w ba oa x) (hb : El w bb ob y) (ho : Wt w b o) :
    Calls Tryd.prog 33 #[.pointer (some ⟨b, o, none⟩), .pointer (some ⟨ba, oa, none⟩), .pointer (some ⟨bb, ob, none⟩)] w fun e w' => e = .returned (.tuple #[]) ∧ Wr w b o (lim (ad x y)) w' := by
  go_enter Tryd.func33, Tryd.ntmps33
  go_wp2_with fail
  refine (fiatAdd x y b o ba oa bb ob hx hy _ ha hb ho).mono ?_
  rintro e w' ⟨rfl, h⟩
  go_wp2_with fail
  go_end0
  exact ⟨rfl, h⟩

theorem fpSub (x y b o ba oa bb ob : Nat) (hx : x < P) (hy : y < P) (w : World) (ha : El w ba oa x) (hb : El w bb ob y) (ho : Wt w b o) :
    Calls Tryd.prog 34 #[.pointer (some ⟨b, o, none⟩), .pointer (some ⟨ba, oa, none⟩), .pointer (some ⟨bb, ob, none⟩)] w fun e w' => e = .returned (.tuple #[]) ∧ Wr w b o (lim (sb x y)) w' := by
  go_enter Tryd.func34, Tryd.ntmps34
  go_wp2_with fail
  refine (fiatSub x y b o ba oa bb ob hx hy _ ha hb ho).mono ?_
  rintro e w' ⟨rfl, h⟩
  go_wp2_with fail
  go_end0
  exact ⟨rfl, h⟩

theorem fpMul (x y b o ba oa bb ob : Nat) (hx : x < P) (hy : y < P) (w : World) (ha : El w ba oa x) (hb : El w bb ob y) (ho : Wt w b o) :
    Calls Tryd.prog 23 #[.pointer (some ⟨b, o, none⟩), .pointer (some ⟨ba, oa, none⟩), .pointer (some ⟨bb, ob, none⟩)] w fun e w' => e = .returned (.tuple #[]) ∧ Wr w b o (lim (mt x y)) w' := by
  go_enter Tryd.func23, Tryd.ntmps23
  go_wp2_with fail
  refine (fiatMul x y b o ba oa bb ob hx hy _ ha hb ho).mono ?_
  rintro e w' ⟨rfl, h⟩
  go_wp2_with fail
  go_end0
  exact ⟨rfl, h⟩

theorem fpMulAssign (x y b o bb ob : Nat) (hx : x < P) (hy : y < P) (w : World) (ha : El w b o x) (hb : El w bb ob y) (ho : Wt w b o) :
    Calls Tryd.prog 37 #[.pointer (some ⟨b, o, none⟩), .pointer (some ⟨bb, ob, none⟩)] w fun e w' => e = .returned (.tuple #[]) ∧ Wr w b o (lim (mt x y)) w' := by
  go_enter Tryd.func37, Tryd.ntmps37
  go_wp2_with fail
  refine (fiatMul x y b o b o bb ob hx hy _ ha hb ho).mono ?_
  rintro e w' ⟨rfl, h⟩
  go_wp2_with fail
  go_end0
  exact ⟨rfl, h⟩

/-- The first seven roots of unity, one half, the square of 2^128, and the table of positions, as the package lays them. -/
def root (i : Nat) : Nat := [516508834063867445247, 340282366920938462430356939304033320962, 129526470195413442198896969089616959958, 169031622068548287099117778531474117974, 81612939378432101163303892927894236156, 122401220764524715189382260548353967708, 199453575871863981432000940507837456190].getD i 0
def half : Nat := 170141183460469231731687303715884105728
def rsq : Nat := 403909908237944342183153
structure Glob (w : World) : Prop where
  root : ∀ i, i < 7 → El w 0 (i * 2) (root i)
  half : El w 2 0 half
  rsq : El w 4 0 rsq
  db : ∀ k, k < 7 → w.cell? ⟨6, dbAt k, none⟩ = some (.int .u8 (k : Int))
  size : 7 ≤ w.heap.size

theorem setOne (b o : Nat) (w : World) (hg : Glob w) (ho : Wt w b o) :
    Calls Tryd.prog 35 #[.pointer (some ⟨b, o, none⟩)] w fun e w' => e = .returned (.tuple #[]) ∧ Wr w b o (lim (root 0)) w' := by
  obtain ⟨⟨⟨v, ho⟩, hf⟩, ⟨u, ho'⟩, hf'⟩ := ho
  obtain ⟨h0, h0'⟩ := hg.root 0 (by omega)
  simp only [Nat.zero_mul, Nat.zero_add] at h0 h0'
  have hs := hg.size
  clear hg
  go_enter Tryd.func35, Tryd.ntmps35
  go_wp2_with fail
  go_end0
  exact ⟨rfl, Wr.two (Below.refl _ _) (cell_lt ho) (Below.refl _ _)⟩

theorem setRoot (l b o : Nat) (hl : l < 7) (w : World) (hg : Glob w) (ho : Wt w b o) :
    Calls Tryd.prog 36 #[.pointer (some ⟨b, o, none⟩), .int .u64 (l : Int)] w fun e w' => e = .returned (.tuple #[]) ∧ Wr w b o (lim (root l)) w' := by
  obtain ⟨⟨⟨v, ho⟩, hf⟩, ⟨u, ho'⟩, hf'⟩ := ho
  obtain ⟨h0, h0'⟩ := hg.root l hl
  have hs := hg.size
  clear hg
  go_enter Tryd.func36, Tryd.ntmps36
  go_wp2_with fail
  go_end0
  exact ⟨rfl, Wr.two (Below.refl _ _) (cell_lt ho) (Below.refl _ _)⟩

theorem rsq_lt : rsq < P := by unfold rsq P; omega

theorem toMont (x b o : Nat) (hx : x < P) (w : World) (hg : Glob w) (ha : El w b o x) (ho : Wt w b o) :
    Calls Tryd.prog 52 #[.pointer (some ⟨b, o, none⟩)] w fun e w' => e = .returned (.tuple #[]) ∧ Wr w b o (lim (mt x rsq)) w' := by
  obtain ⟨h0, h0'⟩ := hg.rsq
  simp only [Nat.zero_add] at h0'
  have hs := hg.size
  have HA := Lib.hid ha
  have HO := Lib.hid ho
  clear hg ha ho
  go_enter Tryd.func52, Tryd.ntmps52
  go_wp2_with fail
  have hb : Below w.heap.size w (w.alloc (Obj.cells #[Value.int IntKind.u64 ((lo64 rsq : Nat) : Int), Value.int IntKind.u64 ((hi64 rsq : Nat) : Int)] 53)) := (Below.refl _ w).alloc (Nat.le_refl _) _
  refine (fiatMul x rsq b o b o w.heap.size 0 hx rsq_lt _ (El.keep hb HA.out.lt HA.out) (El.box rfl rfl) (Wt.keep hb HO.out.lt HO.out)).mono ?_
  rintro e w1 ⟨rfl, h⟩
  have H := Lib.hid (Wr.pre hb HO.out.lt h)
  clear h hb
  go_wp2_with fail
  go_end0
  exact ⟨rfl, H.out⟩

theorem one_words : #[Value.int IntKind.u64 1, Value.int IntKind.u64 0] = #[Value.int IntKind.u64 ((lo64 1 : Nat) : Int), Value.int IntKind.u64 ((hi64 1 : Nat) : Int)] := rfl

theorem fromMont (x b o : Nat) (hx : x < P) (w : World) (ha : El w b o x) :
    Calls Tryd.prog 57 #[.pointer (some ⟨b, o, none⟩)] w fun e w' => e = .returned (.agg (lim (mt x 1)).toArray) ∧ Below w.heap.size w w' := by
  have HA := Lib.hid ha
  clear ha
  go_enter Tryd.func57, Tryd.ntmps57
  go_wp2_with fail
  have hb1 : Below w.heap.size w (w.alloc (Obj.cells #[Value.int IntKind.u64 0, Value.int IntKind.u64 0] 53)) := (Below.refl _ w).alloc (Nat.le_refl _) _
  have hb : Below w.heap.size w ((w.alloc (Obj.cells #[Value.int IntKind.u64 0, Value.int IntKind.u64 0] 53)).alloc (Obj.cells #[Value.int IntKind.u64 1, Value.int IntKind.u64 0] 53)) := hb1.alloc (by simp) _
  have hb2 := (Below.refl (w.heap.size + 1) (w.alloc (Obj.cells #[Value.int IntKind.u64 0, Value.int IntKind.u64 0] 53))).alloc (by simp) (Obj.cells #[Value.int IntKind.u64 1, Value.int IntKind.u64 0] 53)
  have ho : Wt _ w.heap.size 0 := Wt.keep hb2 (by omega) (Wt.box rfl)
  refine (fiatMul x 1 w.heap.size 0 b o (w.heap.size + 1) 0 hx (by unfold P; omega) _ (El.keep hb HA.out.lt HA.out) (El.box (by simp) one_words) ho).mono ?_
  rintro e w1 ⟨rfl, h⟩
  have hc := El.of_wr ho h
  have H := Lib.hid (hb.trans (h.keep (Nat.le_refl _) (by simp; omega)))
  obtain ⟨hc, hc'⟩ := hc
  simp only [Nat.zero_add] at hc'
  clear h hb hb1 hb2 ho
  go_wp2_with fail
  exact bodyPost_ret (v := .agg #[.int .u64 ((lo64 (mt x 1) : Nat) : Int), .int .u64 ((hi64 (mt x 1) : Nat) : Int)]) (by simp [results, Tryd.results57, go_sem, hc, hc']) rfl ⟨rfl, H.out⟩
end Go.Proofs.YtimihpddlinmbaaDoor

