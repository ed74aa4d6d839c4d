/-
  The reference: a product of polynomials.
-/
import Derived.Test.YtimihpddlinmbaaDoorLb
import Derived.Test.YtimihpddlinmbaaDoorP
import Derived.Deep.RegionHeld3
namespace Go.Proofs.YtimihpddlinmbaaDoor
open Go.RowKit
set_option linter.unusedVariables false
set_option linter.unusedSimpArgs false

/-- What stands in the list behind the first k products of a row, and behind the first i rows. -/
def prow (x y : Nat → Nat) (i : Nat) (g : Nat → Nat) : Nat → Nat → Nat
  | 0 => g
  | k + 1 => fun j => if j = i + k then (prow x y i g k j + x i * y k % P) % P else prow x y i g k j
def prows (x y : Nat → Nat) (n : Nat) : Nat → Nat → Nat
  | 0 => fun _ => 0
  | i + 1 => prow x y i (prows x y n i) n

theorem prow_lt (x y : Nat → Nat) (i : Nat) (g : Nat → Nat) (h : ∀ j, g j < P) : ∀ k j, prow x y i g k j < P
  | 0, j => h j
  | k + 1, j => by
    show (if j = i + k then _ else _) < P
    split
    · exact Nat.mod_lt _ P_pos
    · exact prow_lt x y i g h k j
theorem prows_lt (x y : Nat → Nat) (n : Nat) : ∀ i j, prows x y n i j < P
  | 0, j => P_pos
  | i + 1, j => prow_lt x y i _ (fun j => prows_lt x y n i j) n j

/-- A list of one's own, of m numbers, at the head of block g. -/
structure PrInv (w : World) (g m : Nat) (h : Nat → Nat) (wr : World) : Prop where
  below : Below w.heap.size w wr
  low : w.heap.size ≤ g
  size : g < wr.heap.size
  row : ∀ j, j < m → wr.cell? ⟨g, j * 2, none⟩ = some (wlo (h j)) ∧ wr.cell? ⟨g, j * 2 + 1, none⟩ = some (whi (h j))
  free : ∀ j, j < m → wr.frozen? ⟨g, j * 2, none⟩ = false ∧ wr.frozen? ⟨g, j * 2 + 1, none⟩ = false

theorem PrInv.keep {w wr w' : World} {g m : Nat} {h : Nat → Nat} (i : PrInv w g m h wr) (hb : Below wr.heap.size wr w') : PrInv w g m h w' := by
  have hs := i.size
  refine ⟨i.below.trans (hb.mono i.below.size), i.low, by have := hb.size; omega, fun j hj => ?_, fun j hj => ?_⟩
  · rw [hb.cell (p := ⟨g, j * 2, none⟩) hs, hb.cell (p := ⟨g, j * 2 + 1, none⟩) hs]; exact i.row j hj
  · rw [hb.frozen (p := ⟨g, j * 2, none⟩) hs, hb.frozen (p := ⟨g, j * 2 + 1, none⟩) hs]; exact i.free j hj
theorem PrInv.put {w wr : World} {g m t u : Nat} {h h' : Nat → Nat} (i : PrInv w g m h wr) (ht : t < m) (e : ∀ j, h' j = if j = t then u else h j) :
    PrInv w g m h' ((wr.setCell ⟨g, t * 2, none⟩ (wlo u)).setCell ⟨g, t * 2 + 1, none⟩ (whi u)) := by
  have d1 : (wr.setCell ⟨g, t * 2, none⟩ (wlo u)).cell? ⟨g, t * 2 + 1, none⟩ = some (whi (h t)) := by rw [World.cell?_setCell_other _ _ _ _ (by simp)]; exact (i.row t ht).2
  refine ⟨(i.below.setCell i.low _).setCell i.low _, i.low, by have := i.size; simp; omega, fun j hj => ?_, fun j hj => by rw [World.frozen?_setCell, World.frozen?_setCell, World.frozen?_setCell, World.frozen?_setCell]; exact i.free j hj⟩
  by_cases hjt : j = t
  · subst hjt
    rw [e j, if_pos rfl]
    exact ⟨by rw [World.cell?_setCell_other _ _ _ _ (by simp)]; exact World.cell?_setCell_same _ _ _ (i.row j hj).1, World.cell?_setCell_same _ _ _ d1⟩
  · rw [e j, if_neg hjt, World.cell?_setCell_other _ _ _ _ (by intro e; injection e; omega), World.cell?_setCell_other _ _ _ _ (by intro e; injection e; omega), World.cell?_setCell_other _ _ _ _ (by intro e; injection e; omega), World.cell?_setCell_other _ _ _ _ (by intro e; injection e; omega)]
    exact i.row j hj
theorem PrInv.cast {w wr : World} {g m : Nat} {h h' : Nat → Nat} (i : PrInv w g m h wr) (e : ∀ j, h j = h' j) : PrInv w g m h' wr := by
  obtain rfl : h = h' := funext e
  exact i

/-- A box of the call's own that holds a number, or the field. -/
structure PX (wr : World) (b v : Nat) : Prop where
  x0 : wr.cell? ⟨b, 0, none⟩ = some (wlo v)
  x1 : wr.cell? ⟨b, 1, none⟩ = some (whi v)
structure PF (wr : World) (b p : Nat) (n h : Int) : Prop where
  x0 : wr.cell? ⟨b, 0, none⟩ = some (wlo p)
  x1 : wr.cell? ⟨b, 1, none⟩ = some (whi p)
  x2 : wr.cell? ⟨b, 2, none⟩ = some (.int .i64 n)
  x3 : wr.cell? ⟨b, 3, none⟩ = some (.int .i64 h)
theorem PX.lt {wr : World} {b v : Nat} (i : PX wr b v) : b < wr.heap.size := cell_lt i.x0
theorem PF.lt {wr : World} {b p : Nat} {n h : Int} (i : PF wr b p n h) : b < wr.heap.size := cell_lt i.x0
theorem PX.keep {wr w' : World} {b v : Nat} (i : PX wr b v) (hb : Below wr.heap.size wr w') : PX w' b v := by
  have hs := i.lt
  exact ⟨by rw [hb.cell (p := ⟨b, 0, none⟩) hs]; exact i.x0, by rw [hb.cell (p := ⟨b, 1, none⟩) hs]; exact i.x1⟩
theorem PF.keep {wr w' : World} {b p : Nat} {n h : Int} (i : PF wr b p n h) (hb : Below wr.heap.size wr w') : PF w' b p n h := by
  have hs := i.lt
  exact ⟨by rw [hb.cell (p := ⟨b, 0, none⟩) hs]; exact i.x0, by rw [hb.cell (p := ⟨b, 1, none⟩) hs]; exact i.x1, by rw [hb.cell (p := ⟨b, 2, none⟩) hs]; exact i.x2, by rw [hb.cell (p := ⟨b, 3, none⟩) hs]; exact i.x3⟩
theorem put_out {wr : World} {g b o s t : Nat} {u v : Value} (h : b ≠ g) : ((wr.setCell ⟨g, s, none⟩ u).setCell ⟨g, t, none⟩ v).cell? ⟨b, o, none⟩ = wr.cell? ⟨b, o, none⟩ := by
  rw [World.cell?_setCell_other _ _ _ _ (by intro e; injection e; omega), World.cell?_setCell_other _ _ _ _ (by intro e; injection e; omega)]
theorem PX.put {wr : World} {b v g s t : Nat} {u z : Value} (i : PX wr b v) (h : b ≠ g) : PX ((wr.setCell ⟨g, s, none⟩ u).setCell ⟨g, t, none⟩ z) b v := ⟨by rw [put_out h]; exact i.x0, by rw [put_out h]; exact i.x1⟩
theorem PF.put {wr : World} {b p g s t : Nat} {n k : Int} {u z : Value} (i : PF wr b p n k) (h : b ≠ g) : PF ((wr.setCell ⟨g, s, none⟩ u).setCell ⟨g, t, none⟩ z) b p n k :=
  ⟨by rw [put_out h]; exact i.x0, by rw [put_out h]; exact i.x1, by rw [put_out h]; exact i.x2, by rw [put_out h]; exact i.x3⟩

/-- What the walk reads of these boxes, and of the list's place s. -/
def PrFacts (W : World) (g s gv fb p nb : Nat) (h : Int) (bx xv b y : Nat) : Prop :=
  W.cell? ⟨g, s * 2, none⟩ = some (.int .u64 ((lo64 gv : Nat) : Int)) ∧ W.cell? ⟨g, s * 2 + 1, none⟩ = some (.int .u64 ((hi64 gv : Nat) : Int)) ∧ W.frozen? ⟨g, s * 2, none⟩ = false ∧ W.frozen? ⟨g, s * 2 + 1, none⟩ = false ∧
  W.cell? ⟨fb, 0, none⟩ = some (.int .u64 ((lo64 p : Nat) : Int)) ∧ W.cell? ⟨fb, 1, none⟩ = some (.int .u64 ((hi64 p : Nat) : Int)) ∧ W.cell? ⟨fb, 2, none⟩ = some (.int .i64 nb) ∧ W.cell? ⟨fb, 3, none⟩ = some (.int .i64 h) ∧
  W.cell? ⟨bx, 0, none⟩ = some (.int .u64 ((lo64 xv : Nat) : Int)) ∧ W.cell? ⟨bx, 1, none⟩ = some (.int .u64 ((hi64 xv : Nat) : Int)) ∧ W.cell? ⟨b, 0, none⟩ = some (.int .u64 ((lo64 y : Nat) : Int)) ∧ W.cell? ⟨b, 1, none⟩ = some (.int .u64 ((hi64 y : Nat) : Int))

theorem wrap_i64 (s : Nat) (h : s < 9223372036854775808) : IntKind.i64.wrap (s : Int) = (s : Int) := by
  unfold IntKind.wrap; simp [IntKind.bits, IntKind.signed]; omega

set_option maxRecDepth 100000 in
set_option maxHeartbeats 2000000 in
theorem product_yes (n ga gb ca cb nb : Nat) (h : Int) (x y : Nat → Nat) (h1 : 0 < n) (hn : n ≤ 64) (hx : ∀ i, i < n → x i < P) (hy : ∀ i, i < n → y i < P) (hnb : P ≤ 2 ^ nb) (hnb2 : nb ≤ 128) (hP : P < 340282366920938463463374607431768211456) (w : World) (ra : WRow w ga n x) (rb : WRow w gb n y) :
    Calls Tryd.prog 12 #[fv P nb h, .slice (some ⟨ga, 0, none⟩) n ca, .slice (some ⟨gb, 0, none⟩) n cb] w fun e w' => e = .returned (.slice (some ⟨w.heap.size + 1, 0, none⟩) (2 * n - 1) (2 * n - 1)) ∧ PrInv w (w.heap.size + 1) (2 * n - 1) (prows x y n n) w' := by
  have RA := Lib.hid ra
  have RB := Lib.hid rb
  have H1 := Lib.hid h1
  have HX := Lib.hid hx
  have HY := Lib.hid hy
  have HP := Lib.hid hP
  have HNB := Lib.hid hnb
  have HNB2 := Lib.hid hnb2
  obtain ⟨m, hm⟩ : ∃ m, m = 2 * n - 1 := ⟨_, rfl⟩
  rw [← hm]
  have hm1 : (n : Int) + (n : Int) - 1 = (m : Int) := by omega
  have mk := fun w => make28 m (by omega) w
  have HM := Lib.hid hm
  clear ra rb hx hy hnb hnb2 hP hm
  unfold fv
  obtain ⟨w1, hw1⟩ : ∃ w1, w1 = (w.alloc (.cells #[wlo P, whi P, .int .i64 nb, .int .i64 h] 37)).alloc (.cells (wZeros m) 35) := ⟨_, rfl⟩
  have hi : PrInv w (w.heap.size + 1) m (prows x y n 0) w1 := by
    rw [hw1]
    refine ⟨((Below.refl _ w).alloc (Nat.le_refl _) _).alloc (by simp) _, by omega, by simp, fun j hj => ⟨?_, ?_⟩, fun j hj => ⟨box_free (by simp), box_free (by simp)⟩⟩
    · rw [show wlo (prows x y n 0 j) = .int .u64 0 from rfl]
      exact box_cell (by simp) (wZeros_get m (j * 2) (by omega))
    · rw [show whi (prows x y n 0 j) = .int .u64 0 by show whi 0 = _; unfold whi hi64; simp]
      exact box_cell (by simp) (wZeros_get m (j * 2 + 1) (by omega))
  have hf : PF w1 w.heap.size P nb h := by
    rw [hw1]
    exact ⟨cell_past _ (box_cell rfl rfl), cell_past _ (box_cell rfl rfl), cell_past _ (box_cell rfl rfl), cell_past _ (box_cell rfl rfl)⟩
  unfold wlo whi at hw1
  unfold wlo whi
  go_enter Tryd.func12, Tryd.ntmps12
  go_wp2_with fail
  rw [← hw1]
  clear hw1 mk hm1
  go_loopw [21] (fun i wr => ∃ j : Nat, j ≤ n ∧ i = .int .i64 j ∧ PrInv w (w.heap.size + 1) m (prows x y n j) wr ∧ PF wr w.heap.size P nb h) (fun i _ => n - (intOf i).toNat)
  case atStart => exact ⟨0, Nat.zero_le _, rfl, hi, hf⟩
  case round =>
    obtain ⟨i, hi1, rfl, hinv, hinf⟩ := hrel
    have HI := Lib.hid hinv
    have HF := Lib.hid hinf
    clear hinv hinf hi hf
    by_cases hlt : i < n
    · have Hlt := Lib.hid hlt
      have z0 := (RA.out i hlt).1
      have z1 := (RA.out i hlt).2
      rw [← HI.out.below.cell (cell_lt z0)] at z0
      rw [← HI.out.below.cell (cell_lt z1)] at z1
      obtain ⟨wb, hwb⟩ : ∃ wb, wb = wr.alloc (.cells #[wlo (x i), whi (x i)] 35) := ⟨_, rfl⟩
      have hbb : Below wr.heap.size wr wb := by rw [hwb]; exact (Below.refl _ wr).alloc (Nat.le_refl _) _
      have hx2 : PX wb wr.heap.size (x i) := by rw [hwb]; exact ⟨box_cell rfl rfl, box_cell rfl rfl⟩
      have hi2 := HI.out.keep hbb
      have hf2 := HF.out.keep hbb
      have HG := Lib.hid (show wr.heap.size ≠ w.heap.size + 1 by have := HI.out.size; omega)
      unfold wlo at z0 hwb
      unfold whi at z1 hwb
      clear hbb
      go_wp2_with fail
      rw [← hwb]
      obtain ⟨bx, hbx⟩ : ∃ bx, bx = wr.heap.size := ⟨_, rfl⟩
      rw [← hbx] at HG hx2 ⊢
      clear hwb z0 z1 hbx HI HF
      go_loopw [28] (fun jv wt => ∃ k : Nat, k ≤ n ∧ jv = .int .i64 k ∧ PrInv w (w.heap.size + 1) m (prow x y i (prows x y n i) k) wt ∧ PF wt w.heap.size P nb h ∧ PX wt bx (x i)) (fun jv _ => n - (intOf jv).toNat)
      case atStart => exact ⟨0, Nat.zero_le _, rfl, hi2, hf2, hx2⟩
      case round =>
        obtain ⟨k, hk, rfl, kinv, kinf, kinx⟩ := hrel
        have KI := Lib.hid kinv
        have KF := Lib.hid kinf
        have KX := Lib.hid kinx
        clear kinv kinf kinx hi2 hf2 hx2
        by_cases hltk : k < n
        · have Hltk := Lib.hid hltk
          have z0 := (RB.out k hltk).1
          have z1 := (RB.out k hltk).2
          rw [← KI.out.below.cell (cell_lt z0)] at z0
          rw [← KI.out.below.cell (cell_lt z1)] at z1
          obtain ⟨s, hs⟩ : ∃ s, s = i + k := ⟨_, rfl⟩
          have hs1 : (i : Int) + (k : Int) = (s : Int) := by omega
          have hsm : s < m := by have := HM.out; omega
          have hsmi : (s : Int) < (m : Int) := by omega
          have hws : wrap64 (s : Int) = (s : Int) := by unfold wrap64; omega
          have hwi : IntKind.i64.wrap (s : Int) = (s : Int) := wrap_i64 s (by omega)
          have hsmd : decide ((s : Int) < (m : Int)) = true := by simp; omega
          obtain ⟨gv, hgv⟩ : ∃ gv, gv = prow x y i (prows x y n i) k s := ⟨_, rfl⟩
          have HGV := Lib.hid (show gv < P by rw [hgv]; exact prow_lt x y i _ (prows_lt x y n i) k s)
          obtain ⟨wb, hwb⟩ : ∃ wb, wb = wr.alloc (.cells #[wlo (y k), whi (y k)] 35) := ⟨_, rfl⟩
          have hbb : Below wr.heap.size wr wb := by rw [hwb]; exact (Below.refl _ wr).alloc (Nat.le_refl _) _
          have hy2 : PX wb wr.heap.size (y k) := by rw [hwb]; exact ⟨box_cell rfl rfl, box_cell rfl rfl⟩
          have ki2 := KI.out.keep hbb
          have kf2 := KF.out.keep hbb
          have kx2 := KX.out.keep hbb
          have HIK := Lib.hid (show PrInv w (w.heap.size + 1) m (prow x y i (prows x y n i) k) wb ∧ PF wb w.heap.size P nb h ∧ PX wb bx (x i) ∧ PX wb wr.heap.size (y k) from ⟨ki2, kf2, kx2, hy2⟩)
          have HS := Lib.hid (And.intro hs hgv)
          unfold wlo at z0 hwb
          unfold whi at z1 hwb
          clear hbb hy2 ki2 kf2 kx2 hs hgv
          go_wp2_with fail
          rw [← hwb]
          obtain ⟨by', hby⟩ : ∃ by', by' = wr.heap.size := ⟨_, rfl⟩
          have HBY := Lib.hid (show w.heap.size + 1 < by' by rw [hby]; exact KI.out.size)
          rw [← hby] at HIK ⊢
          clear hwb z0 z1 hby KI KF KX
          obtain ⟨pv, hpv⟩ : ∃ pv, pv = (x i * y k) % P := ⟨_, rfl⟩
          have HPV := Lib.hid (show pv < P by rw [hpv]; exact Nat.mod_lt _ P_pos)
          obtain ⟨rv, hrv⟩ : ∃ rv, rv = (gv + pv) % P := ⟨_, rfl⟩
          have FACTS := Lib.hid (fun (W : World) (hW : Below wb.heap.size wb W) => (show PrFacts W (w.heap.size + 1) s gv w.heap.size P nb h bx (x i) by' (y k) from by
            have i1 := HIK.out.1.keep hW
            have i2 := HIK.out.2.1.keep hW
            have i3 := HIK.out.2.2.1.keep hW
            have i4 := HIK.out.2.2.2.keep hW
            have hr := i1.row s hsm
            rw [← HS.out.2] at hr
            exact ⟨hr.1, hr.2, (i1.free s hsm).1, (i1.free s hsm).2, i2.x0, i2.x1, i2.x2, i2.x3, i3.x0, i3.x1, i4.x0, i4.x1⟩))
          have K26 := Lib.hid (show ∀ W, Hid (Below wb.heap.size wb W) → Calls Tryd.prog 26 #[fv P nb h, wv (x i), wv (y k)] W fun e w' => e = .returned (wv pv) ∧ Hid (Below wb.heap.size wb w') ∧ PrFacts w' (w.heap.size + 1) s gv w.heap.size P nb h bx (x i) by' (y k) from by
            intro W hW
            refine (fmul_yes P (x i) (y k) nb h HP.out (HX.out i Hlt.out) (Nat.lt_of_lt_of_le (HY.out k Hltk.out) HNB.out) HNB2.out W).mono ?_
            rintro e w' ⟨he, hb⟩
            have h3 := Below.trans hW.out (hb.mono hW.out.size)
            exact ⟨by rw [hpv]; exact he, h3, FACTS.out w' h3⟩)
          have K13 := Lib.hid (show ∀ W, Hid (Below wb.heap.size wb W) → Calls Tryd.prog 13 #[fv P nb h, wv gv, wv pv] W fun e w' => e = .returned (wv rv) ∧ Hid (Below wb.heap.size wb w') ∧ PrFacts w' (w.heap.size + 1) s gv w.heap.size P nb h bx (x i) by' (y k) from by
            intro W hW
            refine (add_yes P gv pv nb h HP.out HGV.out HPV.out W).mono ?_
            rintro e w' ⟨he, hb⟩
            have h3 := Below.trans hW.out (hb.mono hW.out.size)
            exact ⟨by rw [hrv]; exact he, h3, FACTS.out w' h3⟩)
          have HRV := Lib.hid (And.intro hpv hrv)
          obtain ⟨o0, o1, f0, f1, p0, p1, p2, p3, x0, x1, y0, y1⟩ := FACTS.out wb (Below.refl _ _)
          clear hpv hrv FACTS
          unfold fv wv wlo whi at K26 K13
          have hn1 : bx ≠ w.heap.size + 1 := HG.out
          have hn2 : by' ≠ w.heap.size + 1 := by have := HIK.out.2.2.2.lt; have := HBY.out; omega
          refine wp_region_held_drew (S := fun W => W.cell? ⟨w.heap.size, 0, none⟩ = some (.int .u64 ((lo64 P : Nat) : Int)) ∧ W.cell? ⟨w.heap.size, 1, none⟩ = some (.int .u64 ((hi64 P : Nat) : Int)) ∧ W.cell? ⟨w.heap.size, 2, none⟩ = some (.int .i64 nb) ∧ W.cell? ⟨w.heap.size, 3, none⟩ = some (.int .i64 h) ∧
              W.cell? ⟨bx, 0, none⟩ = some (.int .u64 ((lo64 (x i) : Nat) : Int)) ∧ W.cell? ⟨bx, 1, none⟩ = some (.int .u64 ((hi64 (x i) : Nat) : Int)) ∧ W.cell? ⟨by', 0, none⟩ = some (.int .u64 ((lo64 (y k) : Nat) : Int)) ∧ W.cell? ⟨by', 1, none⟩ = some (.int .u64 ((hi64 (y k) : Nat) : Int))) (by kernel_rfl) ?_ (fun hHeld => ?_)
          · go_keep
          refine wpAnyH_take (i := 0) (v := ?v0) rfl (by kernel_rfl) (by kernel_rfl) (by kernel_rfl) (fun _ _ _ h => h) (Or.inl ⟨by rfl, ?hy0⟩) hHeld ?rest0
          case hy0 => (intro w hSw; (try dsimp only at hSw); go_simp; with_reducible rfl)
          simp only [Act.put, List.setIfInBounds_toArray, List.set_cons_zero, List.set_cons_succ]
          refine wpAnyH_take (i := 1) (v := ?v1) rfl (by kernel_rfl) (by kernel_rfl) (by kernel_rfl) (fun _ _ _ h => h) (Or.inl ⟨by rfl, ?hy1⟩) hHeld ?rest1
          case hy1 => (intro w hSw; (try dsimp only at hSw); go_simp; with_reducible rfl)
          simp only [Act.put, List.setIfInBounds_toArray, List.set_cons_zero, List.set_cons_succ]
          refine wpAnyH_take (i := 2) (v := ?v2) rfl (by kernel_rfl) (by kernel_rfl) (by kernel_rfl) (fun _ _ _ h => h) (Or.inl ⟨by rfl, ?hy2⟩) hHeld ?rest2
          case hy2 => (intro w hSw; (try dsimp only at hSw); go_simp; with_reducible rfl)
          simp only [Act.put, List.setIfInBounds_toArray, List.set_cons_zero, List.set_cons_succ]
          refine wpAnyH_take (i := 3) (v := ?v3) rfl (by kernel_rfl) (by kernel_rfl) (by kernel_rfl) (fun _ _ _ h => h) (Or.inl ⟨by rfl, ?hy3⟩) hHeld ?rest3
          case hy3 => (intro w hSw; (try dsimp only at hSw); go_simp; with_reducible rfl)
          simp only [Act.put, List.setIfInBounds_toArray, List.set_cons_zero, List.set_cons_succ]
          refine wpAnyH_take (i := 4) (v := ?v4) rfl (by kernel_rfl) (by kernel_rfl) (by kernel_rfl) (fun _ _ _ h => h) (Or.inl ⟨by rfl, ?hy4⟩) hHeld ?rest4
          case hy4 => (intro w hSw; (try dsimp only at hSw); go_simp; with_reducible rfl)
          simp only [Act.put, List.setIfInBounds_toArray, List.set_cons_zero, List.set_cons_succ]
          refine wpAnyH_take (i := 5) (v := ?v5) rfl (by kernel_rfl) (by kernel_rfl) (by kernel_rfl) (fun _ _ _ h => h) (Or.inl ⟨by rfl, ?hy5⟩) hHeld ?rest5
          case hy5 => (intro w hSw; (try dsimp only at hSw); go_simp; with_reducible rfl)
          simp only [Act.put, List.setIfInBounds_toArray, List.set_cons_zero, List.set_cons_succ]
          refine wpAnyH_take (i := 6) (v := ?v6) rfl (by kernel_rfl) (by kernel_rfl) (by kernel_rfl) (fun _ _ _ h => h) (Or.inl ⟨by rfl, ?hy6⟩) hHeld ?rest6
          case hy6 => (intro w hSw; (try dsimp only at hSw); go_simp; with_reducible rfl)
          simp only [Act.put, List.setIfInBounds_toArray, List.set_cons_zero, List.set_cons_succ]
          refine wpAnyH_take (i := 7) (v := ?v7) rfl (by kernel_rfl) (by kernel_rfl) (by kernel_rfl) (fun _ _ _ h => h) (Or.inl ⟨by rfl, ?hy7⟩) hHeld ?rest7
          case hy7 => (intro w hSw; (try dsimp only at hSw); go_simp; with_reducible rfl)
          simp only [Act.put, List.setIfInBounds_toArray, List.set_cons_zero, List.set_cons_succ]
          refine wpAnyH_take (i := 8) (v := ?v8) rfl (by kernel_rfl) (by kernel_rfl) (by kernel_rfl) (fun _ _ _ h => h) (Or.inl ⟨by rfl, ?hy8⟩) hHeld ?rest8
          case hy8 => (intro w hSw; (try dsimp only at hSw); go_simp; with_reducible rfl)
          simp only [Act.put, List.setIfInBounds_toArray, List.set_cons_zero, List.set_cons_succ]
          refine wpAnyH_take (i := 9) (v := ?v9) rfl (by kernel_rfl) (by kernel_rfl) (by kernel_rfl) (fun _ _ _ h => h) (Or.inl ⟨by rfl, ?hy9⟩) hHeld ?rest9
          case hy9 => (intro w hSw; (try dsimp only at hSw); go_simp; with_reducible rfl)
          simp only [Act.put, List.setIfInBounds_toArray, List.set_cons_zero, List.set_cons_succ]
          refine wpAnyH_take (i := 11) (v := ?v11) rfl (by kernel_rfl) (by kernel_rfl) (by kernel_rfl) (fun _ _ _ h => h) (Or.inl ⟨by rfl, ?hy11⟩) hHeld ?rest11
          case hy11 => (intro w hSw; (try dsimp only at hSw); go_simp; with_reducible rfl)
          simp only [Act.put, List.setIfInBounds_toArray, List.set_cons_zero, List.set_cons_succ]
          refine wpAnyH_take (i := 12) (v := ?v12) rfl (by kernel_rfl) (by kernel_rfl) (by kernel_rfl) (fun _ _ _ h => h) (Or.inl ⟨by rfl, ?hy12⟩) hHeld ?rest12
          case hy12 => (intro w hSw; (try dsimp only at hSw); go_simp; with_reducible rfl)
          simp only [Act.put, List.setIfInBounds_toArray, List.set_cons_zero, List.set_cons_succ]
          refine wpAnyH_take (i := 13) (v := ?v13) rfl (by kernel_rfl) (by kernel_rfl) (by kernel_rfl) (fun _ _ _ h => h) (Or.inl ⟨by rfl, ?hy13⟩) hHeld ?rest13
          case hy13 => (intro w hSw; (try dsimp only at hSw); go_simp; with_reducible rfl)
          simp only [Act.put, List.setIfInBounds_toArray, List.set_cons_zero, List.set_cons_succ]
          refine wpAnyH_ready (rs := [10, 14]) (by kernel_rfl) (by simp) ?_
          refine AllReadyH.cons rfl (fun K hK => ?_) ?_
          · go_simp
            refine hK.out _ _ ?_ (fun hHeld => ?_)
            · go_keep
            clear hK K
            try simp only [Act.put, List.setIfInBounds_toArray, List.set_cons_zero, List.set_cons_succ]
            refine wpAnyH_ready (rs := [14]) (by kernel_rfl) (by simp) ?_
            refine AllReadyH.cons rfl (fun K hK => ?_) ?_
            rotate_left
            · exact AllReadyH.nil
            go_simp
            go_at_call 26
            refine (K26.out _ (by first | assumption | exact (Below.refl _ _).drew)).mono ?_
            rintro e w4 ⟨rfl, h4, o0, o1, f0, f1, p0, p1, p2, p3, x0, x1, y0, y1⟩
            try go_wp2_with fail
            refine hK.out _ _ ?_ (fun hHeld => ?_)
            · go_keep
            clear hK K
            try simp only [Act.put, List.setIfInBounds_toArray, List.set_cons_zero, List.set_cons_succ]
            refine wpAnyH_ready (rs := [15]) (by kernel_rfl) (by simp) ?_
            refine AllReadyH.cons rfl (fun K hK => ?_) ?_
            rotate_left
            · exact AllReadyH.nil
            go_simp
            go_at_call 13
            refine (K13.out _ (by first | assumption | exact (Below.refl _ _).drew)).mono ?_
            rintro e w5 ⟨rfl, h5, o0, o1, f0, f1, p0, p1, p2, p3, x0, x1, y0, y1⟩
            try go_wp2_with fail
            refine hK.out _ _ ?_ (fun hHeld => ?_)
            · go_keep
            clear hK K
            try simp only [Act.put, List.setIfInBounds_toArray, List.set_cons_zero, List.set_cons_succ]
            refine wpAnyH_take (i := 16) (v := ?v16a) rfl (by kernel_rfl) (by kernel_rfl) (by kernel_rfl) (fun _ _ _ h => h) (Or.inl ⟨by rfl, ?hy16a⟩) hHeld ?rest16a
            case hy16a => (intro w hSw; (try dsimp only at hSw); go_simp; with_reducible rfl)
            simp only [Act.put, List.setIfInBounds_toArray, List.set_cons_zero, List.set_cons_succ]
            refine wpAnyH_ready (rs := [17]) (by kernel_rfl) (by simp) ?_
            refine AllReadyH.cons rfl (fun K hK => ?_) ?_
            rotate_left
            · exact AllReadyH.nil
            go_simp
            refine hK.out _ _ ?_ (fun hHeld => ?_)
            · exact ⟨(put_out (by omega)).trans p0, (put_out (by omega)).trans p1, (put_out (by omega)).trans p2, (put_out (by omega)).trans p3, (put_out hn1).trans x0, (put_out hn1).trans x1, (put_out hn2).trans y0, (put_out hn2).trans y1⟩
            clear hK K
            try simp only [Act.put, List.setIfInBounds_toArray, List.set_cons_zero, List.set_cons_succ]
            refine wpAnyH_done (by kernel_rfl) ?_ _
            have I6 := Lib.hid (PrInv.put (h' := prow x y i (prows x y n i) (k + 1)) (u := rv) (HIK.out.1.keep h5) hsm (fun j => by
              rw [HS.out.1, HRV.out.2, HRV.out.1, HS.out.2, HS.out.1]
              show (if j = i + k then _ else _) = _
              by_cases e : j = i + k
              · rw [if_pos e, if_pos e, e]
              · rw [if_neg e, if_neg e]))
            have F6 := Lib.hid ((HIK.out.2.1.keep h5).put (g := w.heap.size + 1) (s := s * 2) (t := s * 2 + 1) (u := wlo rv) (z := whi rv) (by omega))
            have X6 := Lib.hid ((HIK.out.2.2.1.keep h5).put (g := w.heap.size + 1) (s := s * 2) (t := s * 2 + 1) (u := wlo rv) (z := whi rv) hn1)
            unfold wlo whi at I6 F6 X6
            generalize (w5.setCell ⟨w.heap.size + 1, s * 2, none⟩ (.int .u64 ((lo64 rv : Nat) : Int))).setCell ⟨w.heap.size + 1, s * 2 + 1, none⟩ (.int .u64 ((hi64 rv : Nat) : Int)) = w6 at *
            clear o0 o1 f0 f1 p0 p1 p2 p3 x0 x1 y0 y1 h4 h5 hHeld K26 K13 HIK HS HRV hs1 hws hwi
            go_wp2_with fail
            go_roundw
            case rel => exact ⟨k + 1, by omega, by go_num, I6.out, F6.out, X6.out⟩
            case measure => simp [intOf]; omega
          refine AllReadyH.cons rfl (fun K hK => ?_) AllReadyH.nil
          go_simp
          go_at_call 26
          refine (K26.out _ (by first | assumption | exact (Below.refl _ _).drew)).mono ?_
          rintro e w4 ⟨rfl, h4, o0, o1, f0, f1, p0, p1, p2, p3, x0, x1, y0, y1⟩
          try go_wp2_with fail
          refine hK.out _ _ ?_ (fun hHeld => ?_)
          · go_keep
          clear hK K
          try simp only [Act.put, List.setIfInBounds_toArray, List.set_cons_zero, List.set_cons_succ]
          refine wpAnyH_ready (rs := [10]) (by kernel_rfl) (by simp) ?_
          refine AllReadyH.cons rfl (fun K hK => ?_) ?_
          rotate_left
          · exact AllReadyH.nil
          go_simp
          refine hK.out _ _ ?_ (fun hHeld => ?_)
          · go_keep
          clear hK K
          try simp only [Act.put, List.setIfInBounds_toArray, List.set_cons_zero, List.set_cons_succ]
          refine wpAnyH_ready (rs := [15]) (by kernel_rfl) (by simp) ?_
          refine AllReadyH.cons rfl (fun K hK => ?_) ?_
          rotate_left
          · exact AllReadyH.nil
          go_simp
          go_at_call 13
          refine (K13.out _ (by first | assumption | exact (Below.refl _ _).drew)).mono ?_
          rintro e w5 ⟨rfl, h5, o0, o1, f0, f1, p0, p1, p2, p3, x0, x1, y0, y1⟩
          try go_wp2_with fail
          refine hK.out _ _ ?_ (fun hHeld => ?_)
          · go_keep
          clear hK K
          try simp only [Act.put, List.setIfInBounds_toArray, List.set_cons_zero, List.set_cons_succ]
          refine wpAnyH_take (i := 16) (v := ?v16b) rfl (by kernel_rfl) (by kernel_rfl) (by kernel_rfl) (fun _ _ _ h => h) (Or.inl ⟨by rfl, ?hy16b⟩) hHeld ?rest16b
          case hy16b => (intro w hSw; (try dsimp only at hSw); go_simp; with_reducible rfl)
          simp only [Act.put, List.setIfInBounds_toArray, List.set_cons_zero, List.set_cons_succ]
          refine wpAnyH_ready (rs := [17]) (by kernel_rfl) (by simp) ?_
          refine AllReadyH.cons rfl (fun K hK => ?_) ?_
          rotate_left
          · exact AllReadyH.nil
          go_simp
          refine hK.out _ _ ?_ (fun hHeld => ?_)
          · exact ⟨(put_out (by omega)).trans p0, (put_out (by omega)).trans p1, (put_out (by omega)).trans p2, (put_out (by omega)).trans p3, (put_out hn1).trans x0, (put_out hn1).trans x1, (put_out hn2).trans y0, (put_out hn2).trans y1⟩
          clear hK K
          try simp only [Act.put, List.setIfInBounds_toArray, List.set_cons_zero, List.set_cons_succ]
          refine wpAnyH_done (by kernel_rfl) ?_ _
          have I6 := Lib.hid (PrInv.put (h' := prow x y i (prows x y n i) (k + 1)) (u := rv) (HIK.out.1.keep h5) hsm (fun j => by
            rw [HS.out.1, HRV.out.2, HRV.out.1, HS.out.2, HS.out.1]
            show (if j = i + k then _ else _) = _
            by_cases e : j = i + k
            · rw [if_pos e, if_pos e, e]
            · rw [if_neg e, if_neg e]))
          have F6 := Lib.hid ((HIK.out.2.1.keep h5).put (g := w.heap.size + 1) (s := s * 2) (t := s * 2 + 1) (u := wlo rv) (z := whi rv) (by omega))
          have X6 := Lib.hid ((HIK.out.2.2.1.keep h5).put (g := w.heap.size + 1) (s := s * 2) (t := s * 2 + 1) (u := wlo rv) (z := whi rv) hn1)
          unfold wlo whi at I6 F6 X6
          generalize (w5.setCell ⟨w.heap.size + 1, s * 2, none⟩ (.int .u64 ((lo64 rv : Nat) : Int))).setCell ⟨w.heap.size + 1, s * 2 + 1, none⟩ (.int .u64 ((hi64 rv : Nat) : Int)) = w6 at *
          clear o0 o1 f0 f1 p0 p1 p2 p3 x0 x1 y0 y1 h4 h5 hHeld K26 K13 HIK HS HRV hs1 hws hwi
          go_wp2_with fail
          go_roundw
          case rel => exact ⟨k + 1, by omega, by go_num, I6.out, F6.out, X6.out⟩
          case measure => simp [intOf]; omega
        · obtain rfl : k = n := by omega
          clear HG
          go_wp2_with fail
          go_roundw
          case rel => exact ⟨i + 1, by omega, by go_num, KI.out, KF.out⟩
          case measure => simp [intOf]; omega
    · obtain rfl : i = n := by omega
      go_wp2_with fail
      go_ret
      exact ⟨rfl, HI.out⟩
end Go.Proofs.YtimihpddlinmbaaDoor
