/-
  The field of 64 bits: elements out of bytes, and bytes out of elements.
-/
import Derived.Test.YtgeifodehflgpaaDoorG
import Derived.Test.YtgeifodehflgpaaDoorH
import Derived.Deep.RegionWith
import Derived.Deep.DeepCutAuto
namespace Go.Proofs.YtgeifodehflgpaaDoor
open Go.RowKit
set_option linter.unusedVariables false
set_option linter.unusedSimpArgs false

def inR (x : Nat) : Bool := decide (x < P)
/-- 256 to the power of the number of an element's bytes. -/
def W8 : Nat := 18446744073709551616

theorem inR_t {x : Nat} (h : x < P) : inR x = true := decide_eq_true h
theorem inR_f {x : Nat} (h : ¬ x < P) : inR x = false := decide_eq_false h

theorem By.keep {w w' : World} {B b o S x : Nat} (h : Below B w w') (hb : b < B) (he : By w b o S x) : By w' b o S x := by
  intro j hj; rw [h.cell hb]; exact he j hj
theorem By.lt {w : World} {b o x S : Nat} (hS : 0 < S) (h : By w b o S x) : b < w.heap.size := cell_lt (h 0 hS)

set_option maxHeartbeats 1000000 in
theorem isInRange (x b o : Nat) (hx : x < W8) (w : World) (h : By w b o 8 x) :
    Calls Tryd.prog 51 #[.pointer (some ⟨b, o, none⟩)] w fun e w' => e = .returned (.tuple #[.agg (lim x).toArray, .bool (inR x)]) ∧ Below w.heap.size w w' := by
  have H := Lib.hid h
  have hl := Lib.hid (By.lt (by omega) h)
  clear h
  go_enter Tryd.func51, Tryd.ntmps51
  go_wp2_with fail
  generalize hw0 : w.alloc (Obj.cells #[Value.int IntKind.u64 0] 53) = w0
  have hb0 : Below w.heap.size w w0 := by rw [← hw0]; exact (Below.refl _ w).alloc (Nat.le_refl _) _
  have c0 : w0.cell? ⟨w.heap.size, 0, none⟩ = some (.int .u64 0) := by rw [← hw0]; exact box_cell rfl rfl
  have f0 : w0.frozen? ⟨w.heap.size, 0, none⟩ = false := by rw [← hw0]; exact box_free rfl
  have z0 : w.heap.size + 1 ≤ w0.heap.size := by rw [← hw0]; simp
  clear hw0
  have K : Calls Tryd.prog 67 #[.agg #[], .slice (some ⟨b, o, none⟩) 8 8] w0.drew fun e w2 => e = .returned (.int .u64 (x : Int)) ∧ Hid (Below w.heap.size w w2) ∧ w2.cell? ⟨w.heap.size, 0, none⟩ = some (.int .u64 0) ∧ w2.frozen? ⟨w.heap.size, 0, none⟩ = false := by
    refine (leUint64_by x b o 8 8 hx (by omega) w0.drew (By.keep hb0.drew hl.out H.out)).mono ?_
    rintro e w2 ⟨he, hb2⟩
    exact ⟨he, hb0.drew.trans (hb2.mono (by simp; omega)), by rw [hb2.cell (by simp; omega)]; exact c0, by rw [hb2.frozen (by simp; omega)]; exact f0⟩
  have K1 := Lib.hid K
  clear K hb0 c0 f0 z0
  go_region_with (go_at_call 67; refine K1.out.mono ?_; rintro e w2 ⟨rfl, hb2, c2, f2⟩)
  obtain ⟨w3, hw3, hb3, c3⟩ := own_store (x := .int .u64 (x : Int)) hb2.out (Nat.le_refl _) c2
  rw [← hw3]
  have B3 := Lib.hid hb3
  clear hw3 hb3 c2 f2 hb2 K1
  by_cases hp : x < P
  · have hi := Lib.hid (decide_eq_true hp : inR x = true)
    have hlt : (x : Int) < 18446744069414584321 := by unfold P at hp; omega
    clear hp
    go_wp2_with fail
    exact bodyPost_ret (v := .tuple #[.agg #[.int .u64 (x : Int)], .bool true]) (by simp [results, Tryd.results51, go_sem, c3]) rfl ⟨by rw [show inR x = _ from hi.out]; rfl, B3.out⟩
  · have hi := Lib.hid (decide_eq_false hp : inR x = false)
    have hlt : ¬ (x : Int) < 18446744069414584321 := by unfold P at hp; omega
    clear hp
    go_wp2_with fail
    exact bodyPost_ret (v := .tuple #[.agg #[.int .u64 (x : Int)], .bool false]) (by simp [results, Tryd.results51, go_sem, c3]) rfl ⟨by rw [show inR x = _ from hi.out]; rfl, B3.out⟩

/-- Eight new bytes, copied onto. -/
theorem copy8 (x b o cp : Nat) (w : World) (h : By w b o 8 x) (cs : Array Value) (hcs : cs.size = 8) :
    ∃ w1, (Builtin.copy_ #[70, 70] 3 #[.slice (some ⟨w.heap.size, 0, none⟩) 8 8, .slice (some ⟨b, o, none⟩) 8 cp]).run Tryd.prog (w.alloc (.cells cs 30)) = .ok (goInt 8) w1 ∧
      Below w.heap.size w w1 ∧ By w1 w.heap.size 0 8 x ∧ w.heap.size + 1 ≤ w1.heap.size := by
  have hl := By.lt (by omega) h
  have hb : Below w.heap.size w (w.alloc (.cells cs 30)) := (Below.refl _ w).alloc (Nat.le_refl _) _
  have hlen : (bts 8 x).length = 8 := by simp [bts]
  have hget : ∀ j v, (bts 8 x)[j]? = some v → j < 8 ∧ v = .int .u8 ((bt x j : Nat) : Int) := by
    intro j v hv
    have hj : j < 8 := by
      have := (List.getElem?_eq_some_iff.1 hv).1
      omega
    refine ⟨hj, ?_⟩
    simp [bts, List.getElem?_map, List.getElem?_range hj] at hv
    exact hv.symm
  have hcell : ∀ j, j < (bts 8 x).length → ((w.alloc (.cells cs 30)).cell? ⟨w.heap.size, 0 + j, none⟩).isSome = true := by
    intro j hj
    have : cs[0 + j]? = some (cs[0 + j]'(by omega)) := by simp
    rw [box_cell rfl this]; rfl
  have hr := run_copy_cells (P := Tryd.prog) (w.alloc (.cells cs 30)) 70 70 3 5 w.heap.size 0 8 8 ⟨b, o, none⟩ 8 cp (bts 8 x) Tryd.underlying70 (by kernel_rfl) (by rw [hlen]; rfl)
    (fun j v hv => by
      obtain ⟨hj, rfl⟩ := hget j v hv
      have e : (⟨b, o, none⟩ : Addr).add j = ⟨b, o + j, none⟩ := by unfold Addr.add; split <;> simp_all
      rw [e, hb.cell hl]; exact h j hj)
    hcell (fun j hj => box_free rfl) (fun v hv => by simp [bts] at hv; obtain ⟨a, _, rfl⟩ := hv; rfl)
  rw [hlen] at hr
  refine ⟨_, hr, ⟨?_, ?_, ?_, ?_, ?_⟩, ?_, ?_⟩
  · exact (setCells_rest _ _ _ _).1
  · exact (setCells_rest _ _ _ _).2.1
  · exact (setCells_rest _ _ _ _).2.2
  · rw [size_setCells]; simp
  · intro k hk; rw [heap_setCells _ _ _ _ _ (by omega)]; exact hb.block k hk
  · intro j hj
    rw [World.cell?_setCells_in _ _ _ _ hcell j (by omega)]
    simp [bts]
  · rw [size_setCells]; simp

theorem Glob.keep {w w' : World} {B : Nat} (h : Below B w w') (hB : 7 ≤ B) (hg : Glob w) : Glob w' :=
  ⟨fun i hi => El.keep h (by omega) (hg.root i hi), El.keep h (by omega) hg.half, El.keep h (by omega) hg.rsq, fun k hk => by rw [h.cell (by show 6 < B; omega)]; exact hg.db k hk, Nat.le_trans hg.size h.size⟩

theorem Glob.size5 {w : World} (h : Glob w) : 7 ≤ w.heap.size := h.size

set_option maxRecDepth 100000 in
set_option maxHeartbeats 1000000 in
theorem ofBytes_yes (x b o zb zo cp : Nat) (hp : x < P) (hzb : 7 ≤ zb) (w : World) (hg : Glob w) (h : By w b o 8 x) (hz : Wt w zb zo) :
    Calls Tryd.prog 41 #[.pointer (some ⟨zb, zo, none⟩), .slice (some ⟨b, o, none⟩) 8 cp] w fun e w' => e = .returned (.bool true) ∧ Wr w zb zo (lim (mt x rsq)) w' := by
  have HP := Lib.hid hp
  have hx := Lib.hid (show x < W8 by unfold W8; unfold P at hp; omega)
  clear hp
  have H := Lib.hid h
  have HZ := Lib.hid hz
  have HG := Lib.hid hg
  clear h hg hz
  go_enter Tryd.func41, Tryd.ntmps41
  go_wp2_with fail
  obtain ⟨w1, hr, hb1, hy1, hs1⟩ := copy8 x b o cp w H.out #[Value.int IntKind.u8 0, Value.int IntKind.u8 0, Value.int IntKind.u8 0, Value.int IntKind.u8 0, Value.int IntKind.u8 0, Value.int IntKind.u8 0, Value.int IntKind.u8 0, Value.int IntKind.u8 0] rfl
  rw [hr]
  have B1 := Lib.hid hb1
  have Y1 := Lib.hid hy1
  have S1 := Lib.hid hs1
  clear hr hb1 hy1 hs1
  go_wp2_with fail
  have K := isInRange x w.heap.size 0 hx.out w1 Y1.out
  rw [inR_t HP.out] at K
  refine K.mono ?_
  rintro e w2 ⟨rfl, hb2⟩
  have B2 := Lib.hid (B1.out.trans (hb2.mono (by have := S1.out; omega)))
  clear K hb2
  have Z2 := Lib.hid (Wt.keep B2.out HZ.out.lt HZ.out)
  have hc4 := cell_past (.cells #[Value.int IntKind.u64 (x : Int)] 53) Z2.out.1.choose_spec
  have hf4 := free_past (.cells #[Value.int IntKind.u64 (x : Int)] 53) (p := ⟨zb, zo, none⟩) Z2.out.lt Z2.out.2
  unfold lim
  go_wp2_with fail
  have hb3 : Below w.heap.size w (w2.alloc (.cells #[Value.int IntKind.u64 (x : Int)] 53)) := B2.out.alloc B2.out.size _
  generalize hw4 : (w2.alloc (.cells #[Value.int IntKind.u64 (x : Int)] 53)).setCell ⟨zb, zo, none⟩ (.int .u64 (x : Int)) = w4
  have h4 : Wr w zb zo (lim x) w4 := Wr.one hb3 HZ.out.lt (by rw [← hw4]; exact Below.refl _ _)
  have H4 := Lib.hid h4
  clear hw4 h4 hb3 hc4 hf4
  refine (toMont x zb zo HP.out w4 ?hg (El.of_wr HZ.out H4.out) (Wt.of_wr HZ.out H4.out)).mono ?_
  case hg => exact Glob.keep (H4.out.keep hzb HG.out.size) (by omega) HG.out
  rintro e w5 ⟨rfl, h5⟩
  have H5 := Lib.hid (Wr.again (vs := lim x) (us := lim (mt x rsq)) (lim_same _ _) HZ.out.1.choose_spec H4.out h5)
  clear h5
  go_wp2_with fail
  go_ret
  exact ⟨rfl, H5.out⟩

set_option maxRecDepth 100000 in
set_option maxHeartbeats 1000000 in
theorem of_yes (x : Nat) (hp : x < P) (w : World) (hg : Glob w) :
    Calls Tryd.prog 22 #[.agg (bts 8 x).toArray] w fun e w' => e = .returned (.tuple #[.agg (lim (mt x rsq)).toArray, .bool true]) ∧ Below w.heap.size w w' := by
  have HP := Lib.hid hp
  clear hp
  have HG := Lib.hid hg
  clear hg
  go_enter Tryd.func22, Tryd.ntmps22
  go_wp2_with fail
  have hb1 : Below w.heap.size w (w.alloc (.cells (bts 8 x).toArray 30)) := (Below.refl _ w).alloc (Nat.le_refl _) _
  have hb2 := hb1.alloc (by simp) (.cells #[Value.int IntKind.u64 0] 54)
  have hb3 := hb2.alloc (by simp; omega) (.cells #[Value.int IntKind.u64 0] 54)
  have hy1 : By (w.alloc (.cells (bts 8 x).toArray 30)) w.heap.size 0 8 x := by
    intro j hj
    exact box_cell rfl (by simp [bts, hj])
  have hy3 : By (((w.alloc (.cells (bts 8 x).toArray 30)).alloc (.cells #[Value.int IntKind.u64 0] 54)).alloc (.cells #[Value.int IntKind.u64 0] 54)) w.heap.size 0 8 x := by
    intro j hj
    exact cell_past _ (cell_past _ (hy1 j hj))
  generalize hw1 : (w.alloc (.cells (bts 8 x).toArray 30)).alloc (.cells #[Value.int IntKind.u64 0] 54) = w1 at *
  have hs1 : w1.heap.size = w.heap.size + 1 + 1 := by rw [← hw1]; simp
  have hc1 : w1.cell? ⟨w.heap.size + 1, 0, none⟩ = some (.int .u64 0) := by rw [← hw1]; exact box_cell (by simp) rfl
  have hf1 : w1.frozen? ⟨w.heap.size + 1, 0, none⟩ = false := by rw [← hw1]; exact box_free (by simp)
  clear hw1
  have HZ : Wt (w1.alloc (.cells #[Value.int IntKind.u64 0] 54)) (w.heap.size + 1 + 1) 0 := Wt.box (by rw [hs1])
  have hc2 := cell_past (.cells #[Value.int IntKind.u64 0] 54) hc1
  have hf2 := free_past (.cells #[Value.int IntKind.u64 0] 54) (p := ⟨w.heap.size + 1, 0, none⟩) (by simp; omega) hf1
  have hz2 : (w1.alloc (.cells #[Value.int IntKind.u64 0] 54)).heap.size = w.heap.size + 1 + 1 + 1 := by simp [hs1]
  generalize w1.alloc (.cells #[Value.int IntKind.u64 0] 54) = w2 at *
  refine (ofBytes_yes x w.heap.size 0 (w.heap.size + 1 + 1) 0 8 HP.out (by have := HG.out.size; omega) w2 (Glob.keep hb3 (by have := HG.out.size; omega) HG.out) hy3 HZ).mono ?_
  rintro e w3 ⟨rfl, h3⟩
  have c3 := El.of_wr HZ h3
  have hd : ∀ p : Addr, p.block = w.heap.size + 1 → w3.cell? p = w2.cell? p ∧ w3.frozen? p = w2.frozen? p := fun p hp => ⟨Wr.out h3 (by omega) (fun e => by omega), Wr.frozen h3 (by omega)⟩
  have c4 : w3.cell? ⟨w.heap.size + 1, 0, none⟩ = some (.int .u64 0) := by rw [(hd _ rfl).1]; exact hc2
  have f4 : w3.frozen? ⟨w.heap.size + 1, 0, none⟩ = false := by rw [(hd _ rfl).2]; exact hf2
  have B3 := Lib.hid (hb3.trans (h3.keep (B := w.heap.size) (by omega) (by omega)))
  unfold El at c3
  clear hb1 hb2 hb3 hy1 hy3 hs1 hc1 hf1 HZ hc2 hf2 hz2 h3 hd
  go_wp2_with fail
  obtain ⟨w4, hw4, hb4, c5⟩ := own_store (x := .int .u64 ((mt x rsq : Nat) : Int)) B3.out (by omega) c4
  rw [← hw4]
  exact bodyPost_ret (v := .tuple #[.agg #[.int .u64 ((mt x rsq : Nat) : Int)], .bool true]) (by simp [results, Tryd.results22, go_sem, c5]) rfl ⟨rfl, hb4⟩
end Go.Proofs.YtgeifodehflgpaaDoor
