/-
  The field of 128 bits: elements out of bytes, and bytes out of elements.
-/
import Derived.Test.YtimihpddlinmbaaDoorG
import Derived.Test.YtimihpddlinmbaaDoorH
import Derived.Deep.RegionWith
import Derived.Deep.DeepCutAuto
namespace Go.Proofs.YtimihpddlinmbaaDoor
open Go.RowKit
set_option linter.unusedVariables false
set_option linter.unusedSimpArgs false

def inR (x : Nat) : Bool := decide (x < P)
/-- 256 to the power of the number of an element's bytes. -/
def W8 : Nat := 340282366920938463463374607431768211456

theorem inR_t {x : Nat} (h : x < P) : inR x = true := decide_eq_true h
theorem inR_f {x : Nat} (h : ¬ x < P) : inR x = false := decide_eq_false h

theorem By.keep {w w' : World} {B b o S x : Nat} (h : Below B w w') (hb : b < B) (he : By w b o S x) : By w' b o S x := by
  intro j hj; rw [h.cell hb]; exact he j hj
theorem By.lt {w : World} {b o x S : Nat} (hS : 0 < S) (h : By w b o S x) : b < w.heap.size := cell_lt (h 0 hS)

theorem bt_lo (x j : Nat) (h : j < 8) : bt (lo64 x) j = bt x j := by
  unfold bt lo64
  rcases j with _ | _ | _ | _ | _ | _ | _ | _ | j <;> first | omega | (simp only [Nat.zero_add, Nat.reduceAdd, Nat.reducePow, Nat.pow_zero, Nat.div_one]; omega)
theorem bt_hi (x j : Nat) : bt (hi64 x) j = bt x (8 + j) := by
  unfold bt hi64
  rw [Nat.div_div_eq_div_mul, Nat.pow_add]
theorem By.lo {w : World} {b o x : Nat} (h : By w b o 16 x) : By w b o 8 (lo64 x) := by
  intro j hj; rw [bt_lo x j hj]; exact h j (by omega)
theorem By.hi {w : World} {b o x : Nat} (h : By w b o 16 x) : By w b (o + 8) 8 (hi64 x) := by
  intro j hj; rw [bt_hi x j, Nat.add_assoc]; exact h (8 + j) (by omega)
theorem By.both {w : World} {b o x : Nat} (h : By w b o 8 (lo64 x)) (h2 : By w b (o + 8) 8 (hi64 x)) : By w b o 16 x := by
  intro j hj
  by_cases e : j < 8
  · rw [← bt_lo x j e]; exact h j e
  · have := h2 (j - 8) (by omega)
    rw [bt_hi, Nat.add_assoc, show 8 + (j - 8) = j by omega] at this
    exact this
theorem lo64_small (x : Nat) : lo64 x < 18446744073709551616 := Nat.mod_lt _ (by omega)
theorem hi64_small {x : Nat} (h : x < W8) : hi64 x < 18446744073709551616 := by
  unfold W8 at h; unfold hi64; omega

/-- Two cells of one's own: one of them written. -/
structure Own2 (w w2 : World) (n : Nat) (u v : Value) : Prop where
  below : Below w.heap.size w w2
  c0 : w2.cell? ⟨n, 0, none⟩ = some u
  f0 : w2.frozen? ⟨n, 0, none⟩ = false
  c1 : w2.cell? ⟨n, 1, none⟩ = some v
  f1 : w2.frozen? ⟨n, 1, none⟩ = false
theorem Own2.start {w : World} {t : TypeId} {u v : Value} : Own2 w (w.alloc (.cells #[u, v] t (0, 0))) w.heap.size u v :=
  ⟨(Below.refl _ w).alloc (Nat.le_refl _) _, box_cell rfl rfl, box_free rfl, box_cell rfl rfl, box_free rfl⟩
theorem Own2.keep {w w2 w3 : World} {n : Nat} {u v : Value} (h : Own2 w w2 n u v) (hb : Below w2.heap.size w2 w3) : Own2 w w3 n u v := by
  have hl := cell_lt h.c0
  exact ⟨h.below.trans (hb.mono h.below.size), by rw [hb.cell hl]; exact h.c0, by rw [hb.frozen hl]; exact h.f0, by rw [hb.cell (p := ⟨n, 1, none⟩) hl]; exact h.c1, by rw [hb.frozen (p := ⟨n, 1, none⟩) hl]; exact h.f1⟩
theorem Own2.drew {w w2 : World} {n : Nat} {u v : Value} (h : Own2 w w2 n u v) : Own2 w w2.drew n u v := h.keep (Below.refl _ _).drew
theorem Own2.set1 {w w2 w3 : World} {n : Nat} {u v x : Value} (h : Own2 w w2 n u v) (hn : w.heap.size ≤ n) (hw : w3 = w2.setCell ⟨n, 1, none⟩ x) : Own2 w w3 n u x := by
  subst hw
  refine ⟨h.below.setCell hn _, ?_, by rw [World.frozen?_setCell]; exact h.f0, World.cell?_setCell_same _ _ _ h.c1, by rw [World.frozen?_setCell]; exact h.f1⟩
  rw [World.cell?_setCell_other _ _ _ _ (by simp)]; exact h.c0
theorem Own2.set0 {w w2 w3 : World} {n : Nat} {u v x : Value} (h : Own2 w w2 n u v) (hn : w.heap.size ≤ n) (hw : w3 = w2.setCell ⟨n, 0, none⟩ x) : Own2 w w3 n x v := by
  subst hw
  refine ⟨h.below.setCell hn _, World.cell?_setCell_same _ _ _ h.c0, by rw [World.frozen?_setCell]; exact h.f0, ?_, by rw [World.frozen?_setCell]; exact h.f1⟩
  rw [World.cell?_setCell_other _ _ _ _ (by simp)]; exact h.c1

set_option maxHeartbeats 1000000 in
theorem isInRange (x b o : Nat) (hx : x < W8) (w : World) (h : By w b o 16 x) :
    Calls Tryd.prog 51 #[.pointer (some ⟨b, o, none⟩)] w fun e w' => e = .returned (.tuple #[.agg (lim x).toArray, .bool (inR x)]) ∧ Below w.heap.size w w' := by
  have H := Lib.hid h
  have hl := Lib.hid (By.lt (by omega) h)
  have HX := Lib.hid hx
  clear h hx
  go_enter Tryd.func51, Tryd.ntmps51
  go_wp2_with fail
  have hi0 := @Own2.start w 34 (.int .u64 0) (.int .u64 0)
  generalize w.alloc (Obj.cells #[Value.int IntKind.u64 0, Value.int IntKind.u64 0] 34) = w0 at *
  have I0 := Lib.hid hi0
  have K : Calls Tryd.prog 67 #[.agg #[], .slice (some ⟨b, o + 8, none⟩) 8 8] w0.drew fun e w2 => e = .returned (.int .u64 ((hi64 x : Nat) : Int)) ∧ Hid (Own2 w w2 w.heap.size (.int .u64 0) (.int .u64 0)) ∧ w2.cell? ⟨w.heap.size, 1, none⟩ = some (.int .u64 0) ∧ w2.frozen? ⟨w.heap.size, 1, none⟩ = false := by
    refine (leUint64_by (hi64 x) b (o + 8) 8 8 (hi64_small HX.out) (by omega) w0.drew (By.keep I0.out.below.drew hl.out H.out.hi)).mono ?_
    rintro e w2 ⟨he, hb2⟩
    have h2 := I0.out.drew.keep hb2
    exact ⟨he, h2, h2.c1, h2.f1⟩
  have K1 := Lib.hid K
  clear K hi0
  go_region_with (go_at_call 67; refine K1.out.mono ?_; rintro e w2 ⟨rfl, hb2, c2, f2⟩)
  obtain ⟨w3, hw3⟩ : ∃ w3, w3 = w2.setCell ⟨w.heap.size, 1, none⟩ (.int .u64 ((hi64 x : Nat) : Int)) := ⟨_, rfl⟩
  have hi3 := hb2.out.set1 (Nat.le_refl _) hw3
  rw [← hw3]
  clear hw3 hb2 c2 f2 K1
  have I3 := Lib.hid hi3
  have K2 : ∀ W, Hid (Below w3.heap.size w3 W) → Calls Tryd.prog 67 #[.agg #[], .slice (some ⟨b, o, none⟩) 8 16] W fun e w4 => e = .returned (.int .u64 ((lo64 x : Nat) : Int)) ∧ Hid (Own2 w w4 w.heap.size (.int .u64 0) (.int .u64 ((hi64 x : Nat) : Int))) ∧ w4.cell? ⟨w.heap.size, 0, none⟩ = some (.int .u64 0) ∧ w4.frozen? ⟨w.heap.size, 0, none⟩ = false := by
    intro W hW
    have hi4 := I3.out.keep hW.out
    refine (leUint64_by (lo64 x) b o 8 16 (lo64_small x) (by omega) W (By.keep hi4.below hl.out H.out.lo)).mono ?_
    rintro e w4 ⟨he, hb4⟩
    have h4 := hi4.keep hb4
    exact ⟨he, h4, h4.c0, h4.f0⟩
  have K3 := Lib.hid K2
  clear K2 hi3
  go_wp2_with fail
  go_region_with (go_at_call 67; refine (K3.out _ (by first | exact (Below.refl _ _) | exact (Below.refl _ _).drew | exact (Below.refl _ _).drew.drew)).mono ?_; rintro e w4 ⟨rfl, hb4, c4, f4⟩)
  obtain ⟨w5, hw5⟩ : ∃ w5, w5 = w4.setCell ⟨w.heap.size, 0, none⟩ (.int .u64 ((lo64 x : Nat) : Int)) := ⟨_, rfl⟩
  have hi5 := hb4.out.set0 (Nat.le_refl _) hw5
  rw [← hw5]
  clear hw5 hb4 c4 f4 K3 I3
  have c0 := hi5.c0
  have c1 := hi5.c1
  have B5 := Lib.hid hi5.below
  clear hi5
  have hlx := lo64_small x
  have hhx := hi64_small HX.out
  have hr : x = lo64 x + hi64 x * 18446744073709551616 := by unfold lo64 hi64; omega
  by_cases h1 : hi64 x < 18446744073709551588
  · have hi := Lib.hid (inR_t (x := x) (by unfold P; omega))
    have hd : decide (((hi64 x : Nat) : Int) < 18446744073709551588) = true := by simp; omega
    clear hr hhx hlx h1
    go_wp2_with fail
    exact bodyPost_ret (v := .tuple #[.agg #[.int .u64 ((lo64 x : Nat) : Int), .int .u64 ((hi64 x : Nat) : Int)], .bool true]) (by simp [results, Tryd.results51, go_sem, c0, c1]) rfl ⟨by rw [show inR x = _ from hi.out]; rfl, B5.out⟩
  · by_cases h2 : hi64 x = 18446744073709551588 ∧ lo64 x = 0
    · have hi := Lib.hid (inR_t (x := x) (by unfold P; omega))
      have hd : decide (((hi64 x : Nat) : Int) < 18446744073709551588) = false := by simp; omega
      have hd3 : (((hi64 x : Nat) : Int) == 18446744073709551588) = true := by simp; omega
      have hd4 : decide (((lo64 x : Nat) : Int) < 1) = true := by simp; omega
      clear hr hhx hlx h1 h2
      go_wp2_with fail
      exact bodyPost_ret (v := .tuple #[.agg #[.int .u64 ((lo64 x : Nat) : Int), .int .u64 ((hi64 x : Nat) : Int)], .bool true]) (by simp [results, Tryd.results51, go_sem, c0, c1]) rfl ⟨by rw [show inR x = _ from hi.out]; rfl, B5.out⟩
    · have hi := Lib.hid (inR_f (x := x) (by unfold P; omega))
      have hd : decide (((hi64 x : Nat) : Int) < 18446744073709551588) = false := by simp; omega
      by_cases h3 : hi64 x = 18446744073709551588
      · have hd3 : (((hi64 x : Nat) : Int) == 18446744073709551588) = true := by simp; omega
        have hd4 : decide (((lo64 x : Nat) : Int) < 1) = false := by simp; omega
        clear hr hhx hlx h1 h2 h3
        go_wp2_with fail
        exact bodyPost_ret (v := .tuple #[.agg #[.int .u64 ((lo64 x : Nat) : Int), .int .u64 ((hi64 x : Nat) : Int)], .bool false]) (by simp [results, Tryd.results51, go_sem, c0, c1]) rfl ⟨by rw [show inR x = _ from hi.out]; rfl, B5.out⟩
      · have hd3 : (((hi64 x : Nat) : Int) == 18446744073709551588) = false := by simp; omega
        clear hr hhx hlx h1 h2 h3
        go_wp2_with fail
        exact bodyPost_ret (v := .tuple #[.agg #[.int .u64 ((lo64 x : Nat) : Int), .int .u64 ((hi64 x : Nat) : Int)], .bool false]) (by simp [results, Tryd.results51, go_sem, c0, c1]) rfl ⟨by rw [show inR x = _ from hi.out]; rfl, B5.out⟩

theorem bts_len (S x : Nat) : (bts S x).length = S := by simp [bts]

/-- Sixteen new bytes, copied onto. -/
theorem copy16 (x b o cp : Nat) (w : World) (h : By w b o 16 x) (cs : Array Value) (hcs : cs.size = 16) :
    ∃ w1, (Builtin.copy_ #[69, 69] 3 #[.slice (some ⟨w.heap.size, 0, none⟩) 16 16, .slice (some ⟨b, o, none⟩) 16 cp]).run Tryd.prog (w.alloc (.cells cs 30)) = .ok (goInt 16) w1 ∧
      Below w.heap.size w w1 ∧ By w1 w.heap.size 0 16 x ∧ w.heap.size + 1 ≤ w1.heap.size := by
  have hl := By.lt (by omega) h
  have hb : Below w.heap.size w (w.alloc (.cells cs 30)) := (Below.refl _ w).alloc (Nat.le_refl _) _
  have hlen : (bts 16 x).length = 16 := by simp [bts]
  have hget : ∀ j v, (bts 16 x)[j]? = some v → j < 16 ∧ v = .int .u8 ((bt x j : Nat) : Int) := by
    intro j v hv
    have hj : j < 16 := by
      have := (List.getElem?_eq_some_iff.1 hv).1
      omega
    refine ⟨hj, ?_⟩
    simp [bts, List.getElem?_map, List.getElem?_range hj] at hv
    exact hv.symm
  have hcell : ∀ j, j < (bts 16 x).length → ((w.alloc (.cells cs 30)).cell? ⟨w.heap.size, 0 + j, none⟩).isSome = true := by
    intro j hj
    have : cs[0 + j]? = some (cs[0 + j]'(by omega)) := by simp
    rw [box_cell rfl this]; rfl
  have hr := run_copy_cells (P := Tryd.prog) (w.alloc (.cells cs 30)) 69 69 3 5 w.heap.size 0 16 16 ⟨b, o, none⟩ 16 cp (bts 16 x) Tryd.underlying69 (by kernel_rfl) (by rw [hlen]; rfl)
    (fun j v hv => by
      obtain ⟨hj, rfl⟩ := hget j v hv
      have e : (⟨b, o, none⟩ : Addr).add j = ⟨b, o + j, none⟩ := by unfold Addr.add; split <;> simp_all
      rw [e, hb.cell hl]; exact h j hj)
    hcell (fun j hj => box_free rfl) (fun v hv => by simp [bts] at hv; obtain ⟨a, _, rfl⟩ := hv; rfl)
  rw [hlen] at hr
  refine ⟨_, hr, ⟨?_, ?_, ?_, ?_, ?_⟩, ?_, ?_⟩
  · exact (setCells_rest _ _ _ _).1
  · exact (setCells_rest _ _ _ _).2.1
  · exact (setCells_rest _ _ _ _).2.2
  · rw [size_setCells]; simp
  · intro k hk; rw [heap_setCells _ _ _ _ _ (by omega)]; exact hb.block k hk
  · intro j hj
    rw [World.cell?_setCells_in _ _ _ _ hcell j (by omega)]
    simp [bts]
  · rw [size_setCells]; simp

theorem Glob.keep {w w' : World} {B : Nat} (h : Below B w w') (hB : 7 ≤ B) (hg : Glob w) : Glob w' :=
  ⟨fun i hi => El.keep h (by omega) (hg.root i hi), El.keep h (by omega) hg.half, El.keep h (by omega) hg.rsq, fun k hk => by rw [h.cell (by show 6 < B; omega)]; exact hg.db k hk, Nat.le_trans hg.size h.size⟩

theorem Glob.size5 {w : World} (h : Glob w) : 7 ≤ w.heap.size := h.size

/-- Sixteen zero bytes, as they stand in a new row. -/
def z16 : Array Value := #[Value.int IntKind.u8 0, Value.int IntKind.u8 0, Value.int IntKind.u8 0, Value.int IntKind.u8 0, Value.int IntKind.u8 0, Value.int IntKind.u8 0, Value.int IntKind.u8 0, Value.int IntKind.u8 0, Value.int IntKind.u8 0, Value.int IntKind.u8 0, Value.int IntKind.u8 0, Value.int IntKind.u8 0, Value.int IntKind.u8 0, Value.int IntKind.u8 0, Value.int IntKind.u8 0, Value.int IntKind.u8 0]

set_option maxRecDepth 100000 in
set_option maxHeartbeats 1000000 in
theorem ofBytes_yes (x b o zb zo cp : Nat) (hp : x < P) (hzb : 7 ≤ zb) (w : World) (hg : Glob w) (h : By w b o 16 x) (hz : Wt w zb zo) :
    Calls Tryd.prog 41 #[.pointer (some ⟨zb, zo, none⟩), .slice (some ⟨b, o, none⟩) 16 cp] w fun e w' => e = .returned (.bool true) ∧ Wr w zb zo (lim (mt x rsq)) w' := by
  have HP := Lib.hid hp
  have hx := Lib.hid (show x < W8 by unfold W8; unfold P at hp; omega)
  clear hp
  have H := Lib.hid h
  have HZ := Lib.hid hz
  have HG := Lib.hid hg
  clear h hg hz
  go_enter Tryd.func41, Tryd.ntmps41
  go_wp2_with fail
  obtain ⟨w1, hr, hb1, hy1, hs1⟩ := copy16 x b o cp w H.out z16 rfl
  unfold z16 at hr
  rw [hr]
  have B1 := Lib.hid hb1
  have Y1 := Lib.hid hy1
  have S1 := Lib.hid hs1
  clear hr hb1 hy1 hs1
  go_wp2_with fail
  have K := isInRange x w.heap.size 0 hx.out w1 Y1.out
  rw [inR_t HP.out] at K
  refine K.mono ?_
  rintro e w2 ⟨rfl, hb2⟩
  have B2 := Lib.hid (B1.out.trans (hb2.mono (by have := S1.out; omega)))
  clear K hb2
  have Z2 := Lib.hid (Wt.keep B2.out HZ.out.lt HZ.out)
  have hc4 := cell_past (.cells (lim x).toArray 34) Z2.out.1.1.choose_spec
  have hf4 := free_past (.cells (lim x).toArray 34) (p := ⟨zb, zo, none⟩) Z2.out.lt Z2.out.1.2
  have hc5 := cell_past (.cells (lim x).toArray 34) Z2.out.2.1.choose_spec
  have hf5 := free_past (.cells (lim x).toArray 34) (p := ⟨zb, zo + 1, none⟩) Z2.out.lt Z2.out.2.2
  unfold lim at hc4 hf4 hc5 hf5
  unfold lim
  go_wp2_with fail
  have hb3 : Below w.heap.size w (w2.alloc (.cells #[Value.int IntKind.u64 ((lo64 x : Nat) : Int), Value.int IntKind.u64 ((hi64 x : Nat) : Int)] 34)) := B2.out.alloc B2.out.size _
  generalize hw4 : ((w2.alloc (.cells #[Value.int IntKind.u64 ((lo64 x : Nat) : Int), Value.int IntKind.u64 ((hi64 x : Nat) : Int)] 34)).setCell ⟨zb, zo, none⟩ (.int .u64 ((lo64 x : Nat) : Int))).setCell ⟨zb, zo + 1, none⟩ (.int .u64 ((hi64 x : Nat) : Int)) = w4
  have h4 : Wr w zb zo (lim x) w4 := Wr.two hb3 HZ.out.lt (by rw [← hw4]; exact Below.refl _ _)
  have H4 := Lib.hid h4
  clear hw4 h4 hb3 hc4 hf4 hc5 hf5
  refine (toMont x zb zo HP.out w4 ?hg (El.of_wr HZ.out H4.out) (Wt.of_wr HZ.out H4.out)).mono ?_
  case hg => exact Glob.keep (H4.out.keep hzb HG.out.size) (by omega) HG.out
  rintro e w5 ⟨rfl, h5⟩
  have H5 := Lib.hid (Wr.again (vs := lim x) (us := lim (mt x rsq)) (lim_same _ _) HZ.out.1.1.choose_spec H4.out h5)
  clear h5
  go_wp2_with fail
  go_ret
  exact ⟨rfl, H5.out⟩

set_option maxRecDepth 100000 in
set_option maxHeartbeats 1000000 in
theorem of_yes (x : Nat) (hp : x < P) (w : World) (hg : Glob w) :
    Calls Tryd.prog 22 #[.agg (bts 16 x).toArray] w fun e w' => e = .returned (.tuple #[.agg (lim (mt x rsq)).toArray, .bool true]) ∧ Below w.heap.size w w' := by
  have HP := Lib.hid hp
  clear hp
  have HG := Lib.hid hg
  clear hg
  go_enter Tryd.func22, Tryd.ntmps22
  go_wp2_with fail
  have hb1 : Below w.heap.size w (w.alloc (.cells (bts 16 x).toArray 30)) := (Below.refl _ w).alloc (Nat.le_refl _) _
  have hb2 := hb1.alloc (by simp) (.cells #[Value.int IntKind.u64 0, Value.int IntKind.u64 0] 53)
  have hb3 := hb2.alloc (by simp; omega) (.cells #[Value.int IntKind.u64 0, Value.int IntKind.u64 0] 53)
  have hy1 : By (w.alloc (.cells (bts 16 x).toArray 30)) w.heap.size 0 16 x := by
    intro j hj
    exact box_cell rfl (by simp [bts, hj])
  have hy3 : By (((w.alloc (.cells (bts 16 x).toArray 30)).alloc (.cells #[Value.int IntKind.u64 0, Value.int IntKind.u64 0] 53)).alloc (.cells #[Value.int IntKind.u64 0, Value.int IntKind.u64 0] 53)) w.heap.size 0 16 x := by
    intro j hj
    exact cell_past _ (cell_past _ (hy1 j hj))
  generalize hw1 : (w.alloc (.cells (bts 16 x).toArray 30)).alloc (.cells #[Value.int IntKind.u64 0, Value.int IntKind.u64 0] 53) = w1 at *
  have hs1 : w1.heap.size = w.heap.size + 1 + 1 := by rw [← hw1]; simp
  have hO1 : Own2 w w1 (w.heap.size + 1) (.int .u64 0) (.int .u64 0) := by
    rw [← hw1]; exact ⟨hb1.alloc (by simp) _, box_cell (by simp) rfl, box_free (by simp), box_cell (by simp) rfl, box_free (by simp)⟩
  clear hw1
  have HZ : Wt (w1.alloc (.cells #[Value.int IntKind.u64 0, Value.int IntKind.u64 0] 53)) (w.heap.size + 1 + 1) 0 := Wt.box (by rw [hs1])
  have hO2 := hO1.keep ((Below.refl _ w1).alloc (Nat.le_refl _) (.cells #[Value.int IntKind.u64 0, Value.int IntKind.u64 0] 53))
  have hz2 : (w1.alloc (.cells #[Value.int IntKind.u64 0, Value.int IntKind.u64 0] 53)).heap.size = w.heap.size + 1 + 1 + 1 := by simp [hs1]
  generalize w1.alloc (.cells #[Value.int IntKind.u64 0, Value.int IntKind.u64 0] 53) = w2 at *
  refine (ofBytes_yes x w.heap.size 0 (w.heap.size + 1 + 1) 0 16 HP.out (by have := HG.out.size; omega) w2 (Glob.keep hb3 (by have := HG.out.size; omega) HG.out) hy3 HZ).mono ?_
  rintro e w3 ⟨rfl, h3⟩
  have hd : ∀ p : Addr, p.block = w.heap.size + 1 → w3.cell? p = w2.cell? p ∧ w3.frozen? p = w2.frozen? p := fun p hp => ⟨Wr.out h3 (by omega) (fun e => by omega), Wr.frozen h3 (by omega)⟩
  have B3 := hb3.trans (h3.keep (B := w.heap.size) (by omega) (by omega))
  have hO3 : Own2 w w3 (w.heap.size + 1) (.int .u64 0) (.int .u64 0) := ⟨B3, by rw [(hd _ rfl).1]; exact hO2.c0, by rw [(hd _ rfl).2]; exact hO2.f0, by rw [(hd _ rfl).1]; exact hO2.c1, by rw [(hd _ rfl).2]; exact hO2.f1⟩
  obtain ⟨c3, c3'⟩ := El.of_wr HZ h3
  simp only [Nat.zero_add] at c3'
  have O3 := Lib.hid hO3
  have q0 := hO3.c0
  have q1 := hO3.c1
  have z0 := hO3.f0
  have z1 := hO3.f1
  clear hb1 hb2 hb3 hy1 hy3 hs1 HZ hO1 hO2 hO3 hz2 h3 hd B3
  go_wp2_with fail
  obtain ⟨w4, hw4⟩ : ∃ w4, w4 = (w3.setCell ⟨w.heap.size + 1, 0, none⟩ (.int .u64 ((lo64 (mt x rsq) : Nat) : Int))).setCell ⟨w.heap.size + 1, 1, none⟩ (.int .u64 ((hi64 (mt x rsq) : Nat) : Int)) := ⟨_, rfl⟩
  have h4 := (O3.out.set0 (by omega) rfl).set1 (by omega) hw4
  rw [← hw4]
  have d0 := h4.c0
  have d1 := h4.c1
  exact bodyPost_ret (v := .tuple #[.agg #[.int .u64 ((lo64 (mt x rsq) : Nat) : Int), .int .u64 ((hi64 (mt x rsq) : Nat) : Int)], .bool true]) (by simp [results, Tryd.results22, go_sem, d0, d1]) rfl ⟨rfl, h4.below⟩
end Go.Proofs.YtimihpddlinmbaaDoor
