/-
  The statement on products, walked: given the plain law, the call answers true.
-/
import Derived.Test.YtgeifodehflgpaaDoorLc
import Derived.Test.YtgeifodehflgpaaDoorX
import Derived.BigGuardPart
import Derived.Deep.RegionHeld3
namespace Go.Proofs.YtgeifodehflgpaaDoor
open Go.RowKit
set_option linter.unusedVariables false
set_option linter.unusedSimpArgs false

/-- The list laid modulo x^n - 1, behind the first i numbers. -/
def folds (g : Nat → Nat) (n : Nat) : Nat → Nat → Nat
  | 0 => fun _ => 0
  | i + 1 => fun j => if j = i % n then (folds g n i j + g i) % P else folds g n i j
theorem folds_lt (g : Nat → Nat) (n : Nat) : ∀ i j, folds g n i j < P
  | 0, j => P_pos
  | i + 1, j => by
    show (if j = i % n then _ else _) < P
    split
    · exact Nat.mod_lt _ P_pos
    · exact folds_lt g n i j

/-- An argument: nothing, or elements. -/
def Arg (w : World) (q : Option Addr) (n : Nat) : Prop := n = 0 ∨ ∃ b o f, q = some ⟨b, o, none⟩ ∧ 0 < n ∧ (∀ i, i < n → f i < 256 ^ 8) ∧ BRow w b o n f
/-- What the test of a list's length and elements tells. -/
def PowAny (w : World) (q : Option Addr) (n : Nat) (e : Ending) (w' : World) : Prop :=
  ∃ v, e = .returned (.bool v) ∧ (v = true → ∃ k b o f, k < 7 ∧ n = 2 ^ k ∧ q = some ⟨b, o, none⟩ ∧ (∀ i, i < n → f i < P) ∧ BRow w b o n f ∧ b < w.heap.size) ∧ Below w.heap.size w w'

theorem Arg.keep {w w' : World} {q : Option Addr} {n : Nat} (h : Arg w q n) (hb : Below w.heap.size w w') : Arg w' q n := by
  rcases h with h | ⟨b, o, f, rfl, h1, hf, hr⟩
  · exact Or.inl h
  · exact Or.inr ⟨b, o, f, rfl, h1, hf, hr.keep hb ((hr 0 h1).lt (by omega))⟩

theorem power_any (q : Option Addr) (n cp : Nat) (hn : n ≤ 2147483647) (w : World) (h : Arg w q n) : Calls Tryd.prog 5 #[.slice q n cp] w (PowAny w q n) := by
  rcases h with rfl | ⟨b, o, f, rfl, h1, hf, hr⟩
  · refine (power_zero q cp (fun _ => 0) w).mono ?_
    rintro e w1 ⟨v, rfl, hv, hb⟩
    refine ⟨v, rfl, fun h => ?_, hb⟩
    obtain ⟨⟨k, _, h⟩, _⟩ := hv h
    have := Nat.two_pow_pos k
    omega
  · refine (power_pos n b o cp f h1 hn hf w hr).mono ?_
    rintro e w1 ⟨v, rfl, hv, hb⟩
    refine ⟨v, rfl, fun h => ?_, hb⟩
    obtain ⟨⟨k, hk, hkn⟩, hP⟩ := hv h
    exact ⟨k, b, o, f, hk, hkn, rfl, hP, hr, (hr 0 h1).lt (by omega)⟩

/-- The place-by-place product, as the thin package has it. -/
def pt (x y : Nat) : Nat := mt (mt (mt x rsq) (mt y rsq)) 1

def bcells (f : Nat → Nat) : Nat → List Value
  | 0 => []
  | k + 1 => bcells f k ++ bts 8 (f k)
theorem bcells_len (f : Nat → Nat) : ∀ k, (bcells f k).length = k * 8
  | 0 => rfl
  | k + 1 => by rw [bcells, List.length_append, bcells_len f k]; simp [bts]; omega
theorem bcells_get (f : Nat → Nat) : ∀ k i j, i < k → j < 8 → (bcells f k)[i * 8 + j]? = some (.int .u8 ((bt (f i) j : Nat) : Int))
  | 0, i, j, h, _ => by omega
  | k + 1, i, j, h, hj => by
    have hl := bcells_len f k
    rw [bcells]
    by_cases e : i = k
    · subst e
      rw [List.getElem?_append_right (by omega), hl, show i * 8 + j - i * 8 = j by omega]
      simp [bts, hj]
    · rw [List.getElem?_append_left (by omega)]
      exact bcells_get f k i j (by omega) hj

structure CInv (w : World) (f : Nat → Nat) (k : Nat) (v : Value) (wr : World) : Prop where
  below : Below w.heap.size w wr
  own : wr.ownsRow w.heap.size 30 8 v k (bcells f k)

theorem CInv.next {w wr w3 w4 : World} {f : Nat → Nat} {k : Nat} {v v' : Value} {o : Obj} (h : CInv w f k v wr) (hb : Below wr.heap.size wr w3) (h2 : w4.ownsRow w.heap.size 30 8 v' (k + 1) (bcells f (k + 1))) (h3 : (w3.alloc o).grownBy w4 v.ownBlock) : CInv w f (k + 1) v' w4 := by
  refine ⟨?_, h2⟩
  have h4 : Below w.heap.size w (w3.alloc o) := (h.below.trans (hb.mono h.below.size)).alloc (by have := h.below.size; have := hb.size; omega) o
  exact h4.grown h3 h4.size (fun j hj => (h.own.lt j hj).1)

theorem cell_bts_new (w : World) (x : Nat) (t : TypeId) : ∀ (j : Nat) (u : Value), (bts 8 x)[j]? = some u → (w.alloc (.cells (bts 8 x).toArray t)).cell? ((⟨w.heap.size, 0, none⟩ : Addr).add j) = some u := by
  intro j u h
  have e : (⟨w.heap.size, 0, none⟩ : Addr).add j = ⟨w.heap.size, j, none⟩ := by
    unfold Addr.add
    by_cases h : j = 0
    · subst h; rfl
    · rw [if_neg h]; simp
  rw [e]
  exact box_cell rfl (by simpa using h)

structure FInv (w : World) (gw gp gc n m : Nat) (h g c : Nat → Nat) (wt : World) : Prop where
  want : PrInv w gw n h wt
  prod : WRow wt gp m g
  crow : BRow wt gc 0 n c
  np : gp ≠ gw
  nc : gc ≠ gw
  pl : gp < wt.heap.size
  cl : gc < wt.heap.size
theorem WRow.keep {w w' : World} {g n : Nat} {f : Nat → Nat} (h : WRow w g n f) (hb : Below w.heap.size w w') (hg : g < w.heap.size) : WRow w' g n f := fun i hi => by
  rw [hb.cell (p := ⟨g, i * 2, none⟩) hg, hb.cell (p := ⟨g, i * 2 + 1, none⟩) hg]; exact h i hi
theorem FInv.keep {w wt w' : World} {gw gp gc n m : Nat} {h g c : Nat → Nat} (i : FInv w gw gp gc n m h g c wt) (hb : Below wt.heap.size wt w') : FInv w gw gp gc n m h g c w' :=
  ⟨i.want.keep hb, i.prod.keep hb i.pl, BRow.keep hb i.cl i.crow, i.np, i.nc, by have := i.pl; have := hb.size; omega, by have := i.cl; have := hb.size; omega⟩
theorem FInv.put {w wt : World} {gw gp gc n m t u : Nat} {h h' g c : Nat → Nat} (i : FInv w gw gp gc n m h g c wt) (ht : t < n) (e : ∀ j, h' j = if j = t then u else h j) :
    FInv w gw gp gc n m h' g c ((wt.setCell ⟨gw, t * 2, none⟩ (wlo u)).setCell ⟨gw, t * 2 + 1, none⟩ (whi u)) :=
  ⟨i.want.put ht e, fun j hj => by rw [put_out i.np, put_out i.np]; exact i.prod j hj, fun j hj l hl => by rw [put_out i.nc]; exact i.crow j hj l hl, i.np, i.nc, by have := i.pl; simp; omega, by have := i.cl; simp; omega⟩

/-- What the walk reads of the number at hand, and of the list's place s. -/
def FoldFacts (W : World) (g s gv bx xv : Nat) : Prop :=
  W.cell? ⟨g, s * 2, none⟩ = some (.int .u64 ((lo64 gv : Nat) : Int)) ∧ W.cell? ⟨g, s * 2 + 1, none⟩ = some (.int .u64 ((hi64 gv : Nat) : Int)) ∧ W.frozen? ⟨g, s * 2, none⟩ = false ∧ W.frozen? ⟨g, s * 2 + 1, none⟩ = false ∧
  W.cell? ⟨bx, 0, none⟩ = some (.int .u64 ((lo64 xv : Nat) : Int)) ∧ W.cell? ⟨bx, 1, none⟩ = some (.int .u64 ((hi64 xv : Nat) : Int))

theorem FV_is : FV = fv P 64 32 := by unfold FV fv wlo whi lo64 hi64 P; rfl

/-- What is wanted of two lists. -/
def want (x y : Nat → Nat) (n : Nat) : Nat → Nat := folds (prows x y n n) n (2 * n - 1)

set_option maxRecDepth 100000 in
set_option maxHeartbeats 2000000 in
theorem prod_any (law : ∀ (k : Nat) (x y : Nat → Nat), k < 7 → (∀ i, i < 2 ^ k → x i < P) → (∀ i, i < 2 ^ k → y i < P) → ∀ i, i < 2 ^ k → hv k (bck k (fun i => pt (fwd k x i) (fwd k y i)) i) = want x y (2 ^ k) i)
    (q q' : Option Addr) (n n' cp cp' : Nat) (w : World) (hg : Glob w) (hx : Arg w q n) (hy : Arg w q' n') :
    Calls Tryd.prog 4 #[.slice q n cp, .slice q' n' cp'] w fun e w' => e = .returned (.bool true) ∧ Below w.heap.size w w' := by
  have LAW := Lib.hid law
  have HG := Lib.hid hg
  have HX := Lib.hid hx
  have HY := Lib.hid hy
  clear law hg hx hy
  by_cases hb1 : 2147483647 < n
  · have h2 : decide ((2147483647 : Int) < (n : Int)) = true := by simp; omega
    go_enter Tryd.func4, Tryd.ntmps4
    go_wp2_with fail
    go_ret
    exact ⟨rfl, Below.refl _ _⟩
  have h2 : decide ((2147483647 : Int) < (n : Int)) = false := by simp; omega
  by_cases hb2 : 2147483647 < n'
  · have h3 : decide ((2147483647 : Int) < (n' : Int)) = true := by simp; omega
    go_enter Tryd.func4, Tryd.ntmps4
    go_wp2_with fail
    go_ret
    exact ⟨rfl, Below.refl _ _⟩
  have h3 : decide ((2147483647 : Int) < (n' : Int)) = false := by simp; omega
  go_enter Tryd.func4, Tryd.ntmps4
  go_wp2_with fail
  refine (power_any q n cp (by omega) w HX.out).mono ?_
  rintro e w1 ⟨v, rfl, hv, hb⟩
  have B1 := Lib.hid hb
  clear hb
  rcases v with _ | _
  · clear hv
    go_wp2_with fail
    go_ret
    exact ⟨rfl, B1.out⟩
  have V1 := Lib.hid (hv rfl)
  clear hv
  go_wp2_with fail
  refine (power_any q' n' cp' (by omega) w1 (HY.out.keep B1.out)).mono ?_
  rintro e w2 ⟨v, rfl, hv, hb⟩
  have B2 := Lib.hid (B1.out.trans (hb.mono B1.out.size))
  have B12 := Lib.hid hb
  clear hb
  rcases v with _ | _
  · clear hv
    go_wp2_with fail
    go_ret
    exact ⟨rfl, B2.out⟩
  have V2 := Lib.hid (hv rfl)
  clear hv
  by_cases hne : n = n'
  case neg =>
    have h4 : ((n : Int) != (n' : Int)) = true := by simp; omega
    go_wp2_with fail
    go_ret
    exact ⟨rfl, B2.out⟩
  subst hne
  have h4 : ((n : Int) != (n : Int)) = false := by simp
  obtain ⟨k, b, o, x, hk, hn, rfl, hx, rx, hbx⟩ := V1.out
  obtain ⟨k2, b', o', y, hk2, hn2, rfl, hy, ry, hby⟩ := V2.out
  clear hk2 hn2
  have h1 : 0 < n := by rw [hn]; exact Nat.two_pow_pos k
  have hn64 : n ≤ 64 := by
    rw [hn]
    have : 2 ^ k ≤ 2 ^ 6 := Nat.pow_le_pow_right (by omega) (by omega)
    omega
  have HK := Lib.hid hk
  have HN := Lib.hid hn
  have HPX := Lib.hid hx
  have HPY := Lib.hid hy
  have BX := Lib.hid hbx
  have BY := Lib.hid (show b' < w.heap.size by
    rcases HY.out with h | ⟨b2, o2, f2, he, _, _, hr⟩
    · omega
    · simp at he; rw [he.1]; exact (hr 0 h1).lt (by omega))
  have RX2 := Lib.hid (rx.keep B2.out BX.out)
  have RY2 := Lib.hid (show BRow w2 b' o' n y from ry.keep B12.out hby)
  have H1 := Lib.hid h1
  clear hk hn hx hy hbx hby rx ry V1 V2 HX HY h1 h2 h3 hb1 hb2
  go_wp2_with fail
  refine (ntt64 k n b o cp x HK.out HN.out HPX.out w2 (HG.out.keep B2.out HG.out.size5) RX2.out).mono ?_
  rintro e w3 ⟨na, rfl, a1, a2, a3, a4⟩
  have B3 := Lib.hid (B2.out.trans (a4.mono B2.out.size))
  have RA3 := Lib.hid (show BRow w3 na 0 n (fwd k x) from a3)
  have NA := Lib.hid a2
  have RY3 := Lib.hid (RY2.out.keep (a4.mono B2.out.size) BY.out)
  have RX3 := Lib.hid (RX2.out.keep (a4.mono B2.out.size) BX.out)
  clear a1 a2 a3 a4 RY2 RX2
  go_wp2_with fail
  refine (ntt64 k n b' o' cp' y HK.out HN.out HPY.out w3 (HG.out.keep B3.out HG.out.size5) RY3.out).mono ?_
  rintro e w4 ⟨nb, rfl, a1, a2, a3, a4⟩
  have B4 := Lib.hid (B3.out.trans (a4.mono B3.out.size))
  have RA4 := Lib.hid (RA3.out.keep a4 NA.out)
  have RB4 := Lib.hid (show BRow w4 nb 0 n (fwd k y) from a3)
  have RX4 := Lib.hid (RX3.out.keep (a4.mono B3.out.size) BX.out)
  have RY4 := Lib.hid (RY3.out.keep (a4.mono B3.out.size) BY.out)
  have NA4 := Lib.hid (show na < w4.heap.size by have := NA.out; have := a4.size; omega)
  have NB4 := Lib.hid a2
  clear a1 a2 a3 a4 RY3 RA3 NA RX3
  go_wp2_with fail
  obtain ⟨i0, hi0, hi1⟩ := Option.map_eq_some_iff.1 info30
  simp only [Prod.mk.injEq] at hi1
  obtain ⟨hz0, hz1, hz2⟩ := hi1
  have I0 := Lib.hid (show Tryd.prog.info? 30 = some i0 ∧ i0.zero = some (.agg (Array.replicate 8 (.int .u8 0))) ∧ i0.size = 8 ∧ i0.bytes = 8 from ⟨hi0, hz0, hz1, hz2⟩)
  clear hi0 hz0 hz1 hz2
  have hi : CInv w4 (fun i => pt (fwd k x i) (fwd k y i)) 0 (.slice (some ⟨w4.heap.size, 0, none⟩) 0 0) (w4.alloc (.cells #[] 30)) := by
    refine ⟨(Below.refl _ w4).alloc (Nat.le_refl _) _, ⟨rfl, Or.inr ⟨w4.heap.size, 0, #[], rfl, Nat.le_refl _, heap_new _ _ _ rfl, Nat.le_refl _, by unfold maxLen; omega, rfl, rfl⟩⟩⟩
  generalize w4.alloc (.cells #[] 30) = w5 at *
  generalize Value.slice (some ⟨w4.heap.size, 0, none⟩) 0 0 = v5 at *
  go_loopw [9, 74] (fun v i wr => ∃ t : Nat, t ≤ n ∧ i = .int .i64 t ∧ CInv w4 (fun i => pt (fwd k x i) (fwd k y i)) t v wr) (fun _ i _ => n - (intOf i).toNat)
  case atStart => exact ⟨0, Nat.zero_le _, rfl, hi⟩
  case round =>
    obtain ⟨i, hi1, rfl, hinv⟩ := hrel
    have HI := Lib.hid hinv
    clear hinv hi
    by_cases hlt : i < n
    case neg =>
      obtain rfl : n = i := by omega
      obtain ⟨gc, cc, hv, hgb⟩ := own_slice HI.out.own H1.out
      have hown := HI.out.own
      rw [hv] at hown
      have RC := Lib.hid (show BRow wr gc 0 n (fun i => pt (fwd k x i) (fwd k y i)) from fun i hi j hj => by
        rw [Nat.zero_add, hown.cellAt (i * 8 + j) (by omega)]
        exact bcells_get _ n i j hi hj)
      have GC := Lib.hid (show gc < wr.heap.size from (hown.lt gc (by simp [Value.ownBlock])).2)
      have B5 := Lib.hid (B4.out.trans (HI.out.below.mono B4.out.size))
      have RX5 := Lib.hid (RX4.out.keep (HI.out.below.mono B4.out.size) BX.out)
      have RY5 := Lib.hid (RY4.out.keep (HI.out.below.mono B4.out.size) BY.out)
      have mk := fun w => make28 n (by omega) w
      subst hv
      clear hown hgb hlt HI RX4 RY4 NA4 NB4 RA4 RB4 B4 hi1
      go_wp2_with fail
      clear mk
      obtain ⟨gw, hgw⟩ : ∃ gw, gw = wr.heap.size := ⟨_, rfl⟩
      obtain ⟨w6, hw6⟩ : ∃ w6, w6 = wr.alloc (.cells (wZeros n) 35) := ⟨_, rfl⟩
      rw [← hw6, ← hgw]
      have hb6 : Below wr.heap.size wr w6 := by rw [hw6]; exact (Below.refl _ wr).alloc (Nat.le_refl _) _
      have hwant : PrInv w gw n (fun _ => 0) w6 := by
        rw [hw6, hgw]
        refine ⟨B5.out.alloc B5.out.size _, B5.out.size, by simp, fun j hj => ⟨?_, ?_⟩, fun j hj => ⟨box_free rfl, box_free rfl⟩⟩
        · rw [show wlo 0 = .int .u64 0 from rfl]; exact box_cell rfl (wZeros_get n (j * 2) (by omega))
        · rw [show whi 0 = .int .u64 0 by unfold whi hi64; simp]; exact box_cell rfl (wZeros_get n (j * 2 + 1) (by omega))
      have W6 := Lib.hid hwant
      have B6 := Lib.hid (B5.out.trans (hb6.mono B5.out.size))
      have RC6 := Lib.hid (RC.out.keep hb6 GC.out)
      have GC6 := Lib.hid (show gc < w6.heap.size by have := GC.out; have := hb6.size; omega)
      have NC := Lib.hid (show gc ≠ gw by have := GC.out; omega)
      have RX6 := Lib.hid (RX5.out.keep (hb6.mono B5.out.size) BX.out)
      have RY6 := Lib.hid (RY5.out.keep (hb6.mono B5.out.size) BY.out)
      have GW6 := Lib.hid (show gw < w6.heap.size by rw [hw6, hgw]; simp)
      clear hw6 hb6 hwant hgw RC GC RX5 RY5 B5
      refine (f64_yes w6).mono ?_
      rintro e w7 ⟨rfl, hb7⟩
      have B7 := Lib.hid (B6.out.trans (hb7.mono B6.out.size))
      have W7 := Lib.hid (W6.out.keep hb7)
      have RC7 := Lib.hid (RC6.out.keep hb7 GC6.out)
      have GC7 := Lib.hid (show gc < w7.heap.size by have := GC6.out; have := hb7.size; omega)
      have RX7 := Lib.hid (RX6.out.keep (hb7.mono B6.out.size) BX.out)
      have RY7 := Lib.hid (RY6.out.keep (hb7.mono B6.out.size) BY.out)
      clear hb7 W6 RC6 GC6 RX6 RY6 B6 GW6
      rw [FV_is]
      unfold fv
      go_wp2_with fail
      refine (l64_yes n b o cp x H1.out (by omega) (fun i hi => by have := HPX.out i hi; unfold P at this; omega) w7 RX7.out).mono ?_
      rintro e w8 ⟨gx, cx, rfl, x1, x2, x3, x4⟩
      have B8 := Lib.hid (B7.out.trans (x4.mono B7.out.size))
      have W8 := Lib.hid (W7.out.keep x4)
      have RC8 := Lib.hid (RC7.out.keep x4 GC7.out)
      have GC8 := Lib.hid (show gc < w8.heap.size by have := GC7.out; have := x4.size; omega)
      have RY8 := Lib.hid (RY7.out.keep (x4.mono B7.out.size) BY.out)
      have XW8 := Lib.hid x3
      have XL8 := Lib.hid x2
      clear x1 x2 x3 x4 W7 RC7 GC7 RX7 RY7 B7
      go_wp2_with fail
      refine (l64_yes n b' o' cp' y H1.out (by omega) (fun i hi => by have := HPY.out i hi; unfold P at this; omega) w8 RY8.out).mono ?_
      rintro e w9 ⟨gy, cy, rfl, x1, x2, x3, x4⟩
      have B9 := Lib.hid (B8.out.trans (x4.mono B8.out.size))
      have W9 := Lib.hid (W8.out.keep x4)
      have RC9 := Lib.hid (RC8.out.keep x4 GC8.out)
      have GC9 := Lib.hid (show gc < w9.heap.size by have := GC8.out; have := x4.size; omega)
      have XW9 := Lib.hid (XW8.out.keep x4 XL8.out)
      have YW9 := Lib.hid x3
      clear x1 x2 x3 x4 W8 RC8 GC8 RY8 B8 XW8 XL8
      go_wp2_with fail
      have KP := product_yes n gx gy cx cy 64 32 x y H1.out hn64 HPX.out HPY.out (by unfold P; omega) (by omega) (by unfold P; omega) w9 XW9.out YW9.out
      unfold fv at KP
      refine KP.mono ?_
      rintro e w10 ⟨rfl, hp⟩
      obtain ⟨m, hm⟩ : ∃ m, m = 2 * n - 1 := ⟨_, rfl⟩
      rw [← hm] at hp ⊢
      obtain ⟨gp, hgp⟩ : ∃ gp, gp = w9.heap.size + 1 := ⟨_, rfl⟩
      rw [← hgp] at hp ⊢
      have hb10 : Below w9.heap.size w9 w10 := hp.below
      have B10 := Lib.hid (B9.out.trans (hb10.mono B9.out.size))
      have hf0 : FInv w gw gp gc n m (folds (prows x y n n) n 0) (prows x y n n) (fun i => pt (fwd k x i) (fwd k y i)) w10 := by
        refine ⟨W9.out.keep hb10, hp.row, RC9.out.keep hb10 GC9.out, ?_, NC.out, hp.size, by have := GC9.out; have := hb10.size; omega⟩
        have := W9.out.size
        omega
      have hm2 : m ≤ 128 := by omega
      have HM := Lib.hid hm
      have HPR := Lib.hid (prows_lt x y n n)
      obtain ⟨g, hg⟩ : ∃ g, g = prows x y n n := ⟨_, rfl⟩
      rw [← hg] at hf0 HPR
      have HGD := Lib.hid hg
      clear KP hp hb10 hm hgp W9 RC9 GC9 XW9 YW9 B9 hg
      go_wp2_with fail
      go_loopw [104] (fun i wr => ∃ t : Nat, t ≤ m ∧ i = .int .i64 t ∧ FInv w gw gp gc n m (folds g n t) g (fun i => pt (fwd k x i) (fwd k y i)) wr) (fun i _ => m - (intOf i).toNat)
      case atStart => exact ⟨0, Nat.zero_le _, rfl, hf0⟩
      case round =>
        obtain ⟨t, ht, rfl, hinv⟩ := hrel
        have FI := Lib.hid hinv
        clear hinv hf0
        by_cases hltm : t < m
        case neg =>
          obtain rfl : m = t := by omega
          have BW := Lib.hid FI.out.want.below
          clear hltm hm2 ht
          go_wp2_with fail
          refine (inv64 k n gc 0 cc (fun i => pt (fwd k x i) (fwd k y i)) HK.out HN.out (fun i _ => mt_lt _ _) wr (HG.out.keep BW.out HG.out.size5) FI.out.crow).mono ?_
          rintro e w11 ⟨nr, rfl, a1, a2, a3, a4⟩
          have B11 := Lib.hid (BW.out.trans (a4.mono BW.out.size))
          have RR := Lib.hid (show BRow w11 nr 0 n (bck k (fun i => pt (fwd k x i) (fwd k y i))) from a3)
          have F11 := Lib.hid (FI.out.keep a4)
          clear a1 a2 a3 a4 FI BW
          go_wp2_with fail
          refine (halves_yes k n nr 0 n (bck k (fun i => pt (fwd k x i) (fwd k y i))) HK.out HN.out (fun i _ => mt_lt _ _) w11 (HG.out.keep B11.out HG.out.size5) RR.out).mono ?_
          rintro e w12 ⟨nh, rfl, a1, a2, a3, a4⟩
          have B12 := Lib.hid (B11.out.trans (a4.mono B11.out.size))
          have RH := Lib.hid (show BRow w12 nh 0 n (want x y n) from a3.cast (fun i hi => by
            have := LAW.out k x y HK.out (by rw [← HN.out]; exact HPX.out) (by rw [← HN.out]; exact HPY.out) i (by rw [← HN.out]; exact hi)
            rw [← HN.out] at this; exact this))
          have RW := Lib.hid (show WRow w12 gw n (want x y n) from by
            have h1 := (F11.out.keep a4).want.row
            have e : want x y n = folds g n m := by unfold want; rw [HGD.out, ← HM.out]
            rw [e]; exact h1)
          clear a1 a2 a3 a4 F11 RR B11
          go_wp2_with fail
          refine (same_yes n nh 0 n gw n (want x y n) (by omega) (fun i hi => by have := folds_lt (prows x y n n) n (2 * n - 1) i; unfold want; unfold P at this; omega) w12 RH.out RW.out).mono ?_
          rintro e w13 ⟨rfl, hb13⟩
          have B13 := Lib.hid (B12.out.trans (hb13.mono B12.out.size))
          clear hb13 RH RW
          go_wp2_with fail
          go_ret
          exact ⟨rfl, B13.out⟩
        have Hltm := Lib.hid hltm
        have z0 := (FI.out.prod t hltm).1
        have z1 := (FI.out.prod t hltm).2
        obtain ⟨gv, hgv⟩ : ∃ gv, gv = g t := ⟨_, rfl⟩
        rw [← hgv] at z0 z1
        unfold wlo at z0
        unfold whi at z1
        have hn0 : ¬ n = 0 := by have := H1.out; omega
        have hn1 : (0 : Int) < (n : Int) := by have := H1.out; omega
        obtain ⟨wb, hwb⟩ : ∃ wb, wb = wr.alloc (.cells #[Value.int .u64 ((lo64 gv : Nat) : Int), Value.int .u64 ((hi64 gv : Nat) : Int)] 35) := ⟨_, rfl⟩
        have hbb : Below wr.heap.size wr wb := by rw [hwb]; exact (Below.refl _ wr).alloc (Nat.le_refl _) _
        obtain ⟨bx, hbx⟩ : ∃ bx, bx = wr.heap.size := ⟨_, rfl⟩
        have hx2 : PX wb bx gv := by rw [hwb, hbx]; exact ⟨box_cell rfl rfl, box_cell rfl rfl⟩
        have FB := Lib.hid (FI.out.keep hbb)
        have hn2 : bx ≠ gw := by have := FI.out.want.size; omega
        obtain ⟨s, hs⟩ : ∃ s, s = t % n := ⟨_, rfl⟩
        have hsn : s < n := by rw [hs]; exact Nat.mod_lt _ H1.out
        have hsi : (s : Int) < (n : Int) := by omega
        have hr1 : (t : Int) % (n : Int) = (s : Int) := by rw [hs]; simp
        have hr2 : Int.tmod (t : Int) (n : Int) = (s : Int) := by rw [Int.tmod_eq_emod_of_nonneg (by omega)]; exact hr1
        have hws : wrap64 (s : Int) = (s : Int) := by unfold wrap64; omega
        have hwi : IntKind.i64.wrap (s : Int) = (s : Int) := wrap_i64 s (Nat.lt_of_lt_of_le hsn (Nat.le_trans hn64 (by decide)))
        obtain ⟨ov, hov⟩ : ∃ ov, ov = folds g n t s := ⟨_, rfl⟩
        obtain ⟨rv, hrv⟩ : ∃ rv, rv = (ov + gv) % P := ⟨_, rfl⟩
        have FACTS := Lib.hid (fun (W : World) (hW : Below wb.heap.size wb W) => (show FoldFacts W gw s ov bx gv from by
          have i1 := FB.out.keep hW
          have i3 := hx2.keep hW
          have hr := i1.want.row s hsn
          rw [← hov] at hr
          exact ⟨hr.1, hr.2, (i1.want.free s hsn).1, (i1.want.free s hsn).2, i3.x0, i3.x1⟩))
        have K11 := Lib.hid (show ∀ W, Hid (Below wb.heap.size wb W) → Calls Tryd.prog 11 #[] W fun e w' => e = .returned (fv P 64 32) ∧ Hid (Below wb.heap.size wb w') ∧ FoldFacts w' gw s ov bx gv from by
          intro W hW
          refine (f64_yes W).mono ?_
          rintro e w' ⟨he, hb⟩
          have h3 := Below.trans hW.out (hb.mono hW.out.size)
          exact ⟨by rw [← FV_is]; exact he, h3, FACTS.out w' h3⟩)
        have K13 := Lib.hid (show ∀ W, Hid (Below wb.heap.size wb W) → Calls Tryd.prog 13 #[fv P 64 32, wv ov, wv gv] W fun e w' => e = .returned (wv rv) ∧ Hid (Below wb.heap.size wb w') ∧ FoldFacts w' gw s ov bx gv from by
          intro W hW
          refine (add_yes P ov gv 64 32 (by unfold P; omega) (by rw [hov]; exact folds_lt g n t s) (by rw [hgv]; exact HPR.out t) W).mono ?_
          rintro e w' ⟨he, hb⟩
          have h3 := Below.trans hW.out (hb.mono hW.out.size)
          exact ⟨by rw [hrv]; exact he, h3, FACTS.out w' h3⟩)
        have HV := Lib.hid (show (s = t % n ∧ ov = folds g n t s) ∧ (gv = g t ∧ rv = (ov + gv) % P) from ⟨⟨hs, hov⟩, hgv, hrv⟩)
        have HWB := Lib.hid hwb
        have HBX := Lib.hid hbx
        clear FI hbb hx2 hs hov hrv hgv hwb hbx
        go_wp2_with fail
        rw [← HWB.out, ← HBX.out]
        obtain ⟨o0, o1, f0, f1, x0, x1⟩ := FACTS.out wb (Below.refl _ _)
        clear HWB FACTS z0 z1 HBX
        unfold fv wlo whi at K11
        unfold fv wv wlo whi at K13
        refine wp_region_held_drew (S := fun W => W.cell? ⟨bx, 0, none⟩ = some (.int .u64 ((lo64 gv : Nat) : Int)) ∧ W.cell? ⟨bx, 1, none⟩ = some (.int .u64 ((hi64 gv : Nat) : Int))) (by kernel_rfl) ?_ (fun hHeld => ?_)
        · exact ⟨x0, x1⟩
        refine wpAnyH_take (i := 0) (v := ?v0y1) rfl (by kernel_rfl) (by kernel_rfl) (by kernel_rfl) (fun _ _ _ h => h) (Or.inl ⟨by rfl, ?hy0y1⟩) hHeld ?rest0y1
        case hy0y1 => (intro w hSw; (try dsimp only at hSw); go_simp; with_reducible rfl)
        simp only [Act.put, List.setIfInBounds_toArray, List.set_cons_zero, List.set_cons_succ]
        refine wpAnyH_take (i := 1) (v := ?v1y2) rfl (by kernel_rfl) (by kernel_rfl) (by kernel_rfl) (fun _ _ _ h => h) (Or.inl ⟨by rfl, ?hy1y2⟩) hHeld ?rest1y2
        case hy1y2 => (intro w hSw; (try dsimp only at hSw); go_simp; with_reducible rfl)
        simp only [Act.put, List.setIfInBounds_toArray, List.set_cons_zero, List.set_cons_succ]
        refine wpAnyH_take (i := 2) (v := ?v2y3) rfl (by kernel_rfl) (by kernel_rfl) (by kernel_rfl) (fun _ _ _ h => h) (Or.inl ⟨by rfl, ?hy2y3⟩) hHeld ?rest2y3
        case hy2y3 => (intro w hSw; (try dsimp only at hSw); go_simp; with_reducible rfl)
        simp only [Act.put, List.setIfInBounds_toArray, List.set_cons_zero, List.set_cons_succ]
        refine wpAnyH_take (i := 3) (v := ?v3y4) rfl (by kernel_rfl) (by kernel_rfl) (by kernel_rfl) (fun _ _ _ h => h) (Or.inl ⟨by rfl, ?hy3y4⟩) hHeld ?rest3y4
        case hy3y4 => (intro w hSw; (try dsimp only at hSw); go_simp; with_reducible rfl)
        simp only [Act.put, List.setIfInBounds_toArray, List.set_cons_zero, List.set_cons_succ]
        refine wpAnyH_take (i := 4) (v := ?v4y5) rfl (by kernel_rfl) (by kernel_rfl) (by kernel_rfl) (fun _ _ _ h => h) (Or.inl ⟨by rfl, ?hy4y5⟩) hHeld ?rest4y5
        case hy4y5 => (intro w hSw; (try dsimp only at hSw); go_simp; with_reducible rfl)
        simp only [Act.put, List.setIfInBounds_toArray, List.set_cons_zero, List.set_cons_succ]
        refine wpAnyH_take (i := 6) (v := ?v6y6) rfl (by kernel_rfl) (by kernel_rfl) (by kernel_rfl) (fun _ _ _ h => h) (Or.inl ⟨by rfl, ?hy6y6⟩) hHeld ?rest6y6
        case hy6y6 => (intro w hSw; (try dsimp only at hSw); go_simp; with_reducible rfl)
        simp only [Act.put, List.setIfInBounds_toArray, List.set_cons_zero, List.set_cons_succ]
        refine wpAnyH_take (i := 7) (v := ?v7y7) rfl (by kernel_rfl) (by kernel_rfl) (by kernel_rfl) (fun _ _ _ h => h) (Or.inl ⟨by rfl, ?hy7y7⟩) hHeld ?rest7y7
        case hy7y7 => (intro w hSw; (try dsimp only at hSw); go_simp; with_reducible rfl)
        simp only [Act.put, List.setIfInBounds_toArray, List.set_cons_zero, List.set_cons_succ]
        refine wpAnyH_take (i := 8) (v := ?v8y8) rfl (by kernel_rfl) (by kernel_rfl) (by kernel_rfl) (fun _ _ _ h => h) (Or.inl ⟨by rfl, ?hy8y8⟩) hHeld ?rest8y8
        case hy8y8 => (intro w hSw; (try dsimp only at hSw); go_simp; with_reducible rfl)
        simp only [Act.put, List.setIfInBounds_toArray, List.set_cons_zero, List.set_cons_succ]
        refine wpAnyH_take (i := 9) (v := ?v9y9) rfl (by kernel_rfl) (by kernel_rfl) (by kernel_rfl) (fun _ _ _ h => h) (Or.inl ⟨by rfl, ?hy9y9⟩) hHeld ?rest9y9
        case hy9y9 => (intro w hSw; (try dsimp only at hSw); go_simp; with_reducible rfl)
        simp only [Act.put, List.setIfInBounds_toArray, List.set_cons_zero, List.set_cons_succ]
        refine wpAnyH_take (i := 10) (v := ?v10y10) rfl (by kernel_rfl) (by kernel_rfl) (by kernel_rfl) (fun _ _ _ h => h) (Or.inl ⟨by rfl, ?hy10y10⟩) hHeld ?rest10y10
        case hy10y10 => (intro w hSw; (try dsimp only at hSw); go_simp; with_reducible rfl)
        simp only [Act.put, List.setIfInBounds_toArray, List.set_cons_zero, List.set_cons_succ]
        refine wpAnyH_take (i := 11) (v := ?v11y11) rfl (by kernel_rfl) (by kernel_rfl) (by kernel_rfl) (fun _ _ _ h => h) (Or.inl ⟨by rfl, ?hy11y11⟩) hHeld ?rest11y11
        case hy11y11 => (intro w hSw; (try dsimp only at hSw); go_simp; with_reducible rfl)
        simp only [Act.put, List.setIfInBounds_toArray, List.set_cons_zero, List.set_cons_succ]
        refine wpAnyH_take (i := 13) (v := ?v13y12) rfl (by kernel_rfl) (by kernel_rfl) (by kernel_rfl) (fun _ _ _ h => h) (Or.inl ⟨by rfl, ?hy13y12⟩) hHeld ?rest13y12
        case hy13y12 => (intro w hSw; (try dsimp only at hSw); go_simp; with_reducible rfl)
        simp only [Act.put, List.setIfInBounds_toArray, List.set_cons_zero, List.set_cons_succ]
        refine wpAnyH_ready (rs := [5, 12]) (by kernel_rfl) (by simp) ?_
        refine AllReadyH.cons rfl (fun K hK => ?_) ?_
        · go_simp
          go_at_call 11
          refine (K11.out _ (by first | assumption | exact (Below.refl _ _).drew)).mono ?_
          rintro e w5 ⟨rfl, h5, o0, o1, f0, f1, x0, x1⟩
          try go_wp2_with fail
          refine hK.out _ _ ?_ (fun hHeld => ?_)
          · exact ⟨x0, x1⟩
          clear hK K
          try simp only [Act.put, List.setIfInBounds_toArray, List.set_cons_zero, List.set_cons_succ]
          refine wpAnyH_ready (rs := [12]) (by kernel_rfl) (by simp) ?_
          refine AllReadyH.cons rfl (fun K hK => ?_) ?_
          rotate_left
          · exact AllReadyH.nil
          go_simp
          refine hK.out _ _ ?_ (fun hHeld => ?_)
          · exact ⟨x0, x1⟩
          clear hK K
          try simp only [Act.put, List.setIfInBounds_toArray, List.set_cons_zero, List.set_cons_succ]
          refine wpAnyH_ready (rs := [14]) (by kernel_rfl) (by simp) ?_
          refine AllReadyH.cons rfl (fun K hK => ?_) ?_
          rotate_left
          · exact AllReadyH.nil
          go_simp
          go_at_call 13
          refine (K13.out _ (by first | assumption | exact (Below.refl _ _).drew)).mono ?_
          rintro e w6 ⟨rfl, h6, o0, o1, f0, f1, x0, x1⟩
          try go_wp2_with fail
          refine hK.out _ _ ?_ (fun hHeld => ?_)
          · exact ⟨x0, x1⟩
          clear hK K
          try simp only [Act.put, List.setIfInBounds_toArray, List.set_cons_zero, List.set_cons_succ]
          refine wpAnyH_take (i := 15) (v := ?v15y13) rfl (by kernel_rfl) (by kernel_rfl) (by kernel_rfl) (fun _ _ _ h => h) (Or.inl ⟨by rfl, ?hy15y13⟩) hHeld ?rest15y13
          case hy15y13 => (intro w hSw; (try dsimp only at hSw); go_simp; with_reducible rfl)
          simp only [Act.put, List.setIfInBounds_toArray, List.set_cons_zero, List.set_cons_succ]
          refine wpAnyH_ready (rs := [16]) (by kernel_rfl) (by simp) ?_
          refine AllReadyH.cons rfl (fun K hK => ?_) ?_
          rotate_left
          · exact AllReadyH.nil
          go_simp
          refine hK.out _ _ ?_ (fun hHeld => ?_)
          · exact ⟨(put_out hn2).trans x0, (put_out hn2).trans x1⟩
          clear hK K
          try simp only [Act.put, List.setIfInBounds_toArray, List.set_cons_zero, List.set_cons_succ]
          refine wpAnyH_done (by kernel_rfl) ?_ _
          have I7 := Lib.hid (FInv.put (h' := folds g n (t + 1)) (u := rv) (FB.out.keep h6) hsn (fun j => by
            rw [HV.out.1.1, HV.out.2.2, HV.out.1.2, HV.out.1.1, HV.out.2.1]
            show (if j = t % n then _ else _) = _
            by_cases e : j = t % n
            · rw [if_pos e, if_pos e, e]
            · rw [if_neg e, if_neg e]))
          unfold wlo whi at I7
          generalize (w6.setCell ⟨gw, s * 2, none⟩ (.int .u64 ((lo64 rv : Nat) : Int))).setCell ⟨gw, s * 2 + 1, none⟩ (.int .u64 ((hi64 rv : Nat) : Int)) = w7 at *
          clear o0 o1 f0 f1 x0 x1 h6 hHeld K11 K13 HV FB hr1 hr2 hws hwi
          go_wp2_with fail
          go_roundw
          case rel => exact ⟨t + 1, by omega, by go_num, I7.out⟩
          case measure => simp [intOf]; omega
        refine AllReadyH.cons rfl (fun K hK => ?_) AllReadyH.nil
        go_simp
        refine hK.out _ _ ?_ (fun hHeld => ?_)
        · exact ⟨x0, x1⟩
        clear hK K
        try simp only [Act.put, List.setIfInBounds_toArray, List.set_cons_zero, List.set_cons_succ]
        refine wpAnyH_ready (rs := [5]) (by kernel_rfl) (by simp) ?_
        refine AllReadyH.cons rfl (fun K hK => ?_) ?_
        rotate_left
        · exact AllReadyH.nil
        go_simp
        go_at_call 11
        refine (K11.out _ (by first | assumption | exact (Below.refl _ _).drew)).mono ?_
        rintro e w5 ⟨rfl, h5, o0, o1, f0, f1, x0, x1⟩
        try go_wp2_with fail
        refine hK.out _ _ ?_ (fun hHeld => ?_)
        · exact ⟨x0, x1⟩
        clear hK K
        try simp only [Act.put, List.setIfInBounds_toArray, List.set_cons_zero, List.set_cons_succ]
        refine wpAnyH_ready (rs := [14]) (by kernel_rfl) (by simp) ?_
        refine AllReadyH.cons rfl (fun K hK => ?_) ?_
        rotate_left
        · exact AllReadyH.nil
        go_simp
        go_at_call 13
        refine (K13.out _ (by first | assumption | exact (Below.refl _ _).drew)).mono ?_
        rintro e w6 ⟨rfl, h6, o0, o1, f0, f1, x0, x1⟩
        try go_wp2_with fail
        refine hK.out _ _ ?_ (fun hHeld => ?_)
        · exact ⟨x0, x1⟩
        clear hK K
        try simp only [Act.put, List.setIfInBounds_toArray, List.set_cons_zero, List.set_cons_succ]
        refine wpAnyH_take (i := 15) (v := ?v15y14) rfl (by kernel_rfl) (by kernel_rfl) (by kernel_rfl) (fun _ _ _ h => h) (Or.inl ⟨by rfl, ?hy15y14⟩) hHeld ?rest15y14
        case hy15y14 => (intro w hSw; (try dsimp only at hSw); go_simp; with_reducible rfl)
        simp only [Act.put, List.setIfInBounds_toArray, List.set_cons_zero, List.set_cons_succ]
        refine wpAnyH_ready (rs := [16]) (by kernel_rfl) (by simp) ?_
        refine AllReadyH.cons rfl (fun K hK => ?_) ?_
        rotate_left
        · exact AllReadyH.nil
        go_simp
        refine hK.out _ _ ?_ (fun hHeld => ?_)
        · exact ⟨(put_out hn2).trans x0, (put_out hn2).trans x1⟩
        clear hK K
        try simp only [Act.put, List.setIfInBounds_toArray, List.set_cons_zero, List.set_cons_succ]
        refine wpAnyH_done (by kernel_rfl) ?_ _
        have I7 := Lib.hid (FInv.put (h' := folds g n (t + 1)) (u := rv) (FB.out.keep h6) hsn (fun j => by
          rw [HV.out.1.1, HV.out.2.2, HV.out.1.2, HV.out.1.1, HV.out.2.1]
          show (if j = t % n then _ else _) = _
          by_cases e : j = t % n
          · rw [if_pos e, if_pos e, e]
          · rw [if_neg e, if_neg e]))
        unfold wlo whi at I7
        generalize (w6.setCell ⟨gw, s * 2, none⟩ (.int .u64 ((lo64 rv : Nat) : Int))).setCell ⟨gw, s * 2 + 1, none⟩ (.int .u64 ((hi64 rv : Nat) : Int)) = w7 at *
        clear o0 o1 f0 f1 x0 x1 h6 hHeld K11 K13 HV FB hr1 hr2 hws hwi
        go_wp2_with fail
        go_roundw
        case rel => exact ⟨t + 1, by omega, by go_num, I7.out⟩
        case measure => simp [intOf]; omega
    have Hlt := Lib.hid hlt
    have hya : By wr na (i * 8) 8 (fwd k x i) := by have := RA4.out i hlt; rw [Nat.zero_add] at this; exact this.keep HI.out.below NA4.out
    have hyb : By wr nb (i * 8) 8 (fwd k y i) := by have := RB4.out i hlt; rw [Nat.zero_add] at this; exact this.keep HI.out.below NB4.out
    have p0 := hya 0 (by omega)
    have p1 := hya 1 (by omega)
    have p2 := hya 2 (by omega)
    have p3 := hya 3 (by omega)
    have p4 := hya 4 (by omega)
    have p5 := hya 5 (by omega)
    have p6 := hya 6 (by omega)
    have p7 := hya 7 (by omega)
    have q0 := hyb 0 (by omega)
    have q1 := hyb 1 (by omega)
    have q2 := hyb 2 (by omega)
    have q3 := hyb 3 (by omega)
    have q4 := hyb 4 (by omega)
    have q5 := hyb 5 (by omega)
    have q6 := hyb 6 (by omega)
    have q7 := hyb 7 (by omega)
    simp only [Nat.add_zero] at p0 q0
    have HYA := Lib.hid hya
    have HYB := Lib.hid hyb
    clear hya hyb
    go_wp2_with fail
    obtain ⟨zv, hzv⟩ : ∃ zv, zv = pt (fwd k x i) (fwd k y i) := ⟨_, rfl⟩
    have K10 := Lib.hid (show ∀ W, Hid (Below wr.heap.size wr W) → Calls Tryd.prog 10 #[.agg (bts 8 (fwd k x i)).toArray, .agg (bts 8 (fwd k y i)).toArray] W fun e w' => e = .returned (.tuple #[.agg (bts 8 zv).toArray, .bool true]) ∧ Hid (Below wr.heap.size wr w') ∧ Hid (Below W.heap.size W w') from by
      intro W hW
      refine (mul_yes (fwd k x i) (fwd k y i) (mt_lt _ _) (mt_lt _ _) W ((HG.out.keep B4.out HG.out.size5).keep (HI.out.below.trans (Below.mono hW.out HI.out.below.size)) (by have := B4.out.size; have := HG.out.size; omega))).mono ?_
      rintro e w' ⟨he, hb⟩
      exact ⟨by rw [hzv]; exact he, hW.out.trans (hb.mono hW.out.size), hb⟩)
    have HZV := Lib.hid hzv
    clear hzv
    simp only [bts8] at K10
    have NA5 := Lib.hid (show na ≠ wr.heap.size by have := NA4.out; have := HI.out.below.size; omega)
    have NB5 := Lib.hid (show nb ≠ wr.heap.size by have := NB4.out; have := HI.out.below.size; omega)
    have SK := Lib.hid (show ∀ W, Below wr.heap.size wr W → (fun W => W.cell? ⟨na, i * 8, none⟩ = some (.int .u8 ((bt (fwd k x i) 0 : Nat) : Int)) ∧ W.cell? ⟨na, i * 8 + 1, none⟩ = some (.int .u8 ((bt (fwd k x i) 1 : Nat) : Int)) ∧ W.cell? ⟨na, i * 8 + 2, none⟩ = some (.int .u8 ((bt (fwd k x i) 2 : Nat) : Int)) ∧ W.cell? ⟨na, i * 8 + 3, none⟩ = some (.int .u8 ((bt (fwd k x i) 3 : Nat) : Int)) ∧ W.cell? ⟨na, i * 8 + 4, none⟩ = some (.int .u8 ((bt (fwd k x i) 4 : Nat) : Int)) ∧ W.cell? ⟨na, i * 8 + 5, none⟩ = some (.int .u8 ((bt (fwd k x i) 5 : Nat) : Int)) ∧ W.cell? ⟨na, i * 8 + 6, none⟩ = some (.int .u8 ((bt (fwd k x i) 6 : Nat) : Int)) ∧ W.cell? ⟨na, i * 8 + 7, none⟩ = some (.int .u8 ((bt (fwd k x i) 7 : Nat) : Int)) ∧ W.cell? ⟨nb, i * 8, none⟩ = some (.int .u8 ((bt (fwd k y i) 0 : Nat) : Int)) ∧ W.cell? ⟨nb, i * 8 + 1, none⟩ = some (.int .u8 ((bt (fwd k y i) 1 : Nat) : Int)) ∧ W.cell? ⟨nb, i * 8 + 2, none⟩ = some (.int .u8 ((bt (fwd k y i) 2 : Nat) : Int)) ∧ W.cell? ⟨nb, i * 8 + 3, none⟩ = some (.int .u8 ((bt (fwd k y i) 3 : Nat) : Int)) ∧ W.cell? ⟨nb, i * 8 + 4, none⟩ = some (.int .u8 ((bt (fwd k y i) 4 : Nat) : Int)) ∧ W.cell? ⟨nb, i * 8 + 5, none⟩ = some (.int .u8 ((bt (fwd k y i) 5 : Nat) : Int)) ∧ W.cell? ⟨nb, i * 8 + 6, none⟩ = some (.int .u8 ((bt (fwd k y i) 6 : Nat) : Int)) ∧ W.cell? ⟨nb, i * 8 + 7, none⟩ = some (.int .u8 ((bt (fwd k y i) 7 : Nat) : Int))) W from by
      intro W hW
      have h1 := HYA.out.keep hW (By.lt (by omega) HYA.out)
      have h2 := HYB.out.keep hW (By.lt (by omega) HYB.out)
      have p0 := h1 0 (by omega)
      have p1 := h1 1 (by omega)
      have p2 := h1 2 (by omega)
      have p3 := h1 3 (by omega)
      have p4 := h1 4 (by omega)
      have p5 := h1 5 (by omega)
      have p6 := h1 6 (by omega)
      have p7 := h1 7 (by omega)
      have q0 := h2 0 (by omega)
      have q1 := h2 1 (by omega)
      have q2 := h2 2 (by omega)
      have q3 := h2 3 (by omega)
      have q4 := h2 4 (by omega)
      have q5 := h2 5 (by omega)
      have q6 := h2 6 (by omega)
      have q7 := h2 7 (by omega)
      simp only [Nat.add_zero] at p0 q0
      exact ⟨p0, p1, p2, p3, p4, p5, p6, p7, q0, q1, q2, q3, q4, q5, q6, q7⟩)
    refine wp_region_held_drew (S := fun W => W.cell? ⟨na, i * 8, none⟩ = some (.int .u8 ((bt (fwd k x i) 0 : Nat) : Int)) ∧ W.cell? ⟨na, i * 8 + 1, none⟩ = some (.int .u8 ((bt (fwd k x i) 1 : Nat) : Int)) ∧ W.cell? ⟨na, i * 8 + 2, none⟩ = some (.int .u8 ((bt (fwd k x i) 2 : Nat) : Int)) ∧ W.cell? ⟨na, i * 8 + 3, none⟩ = some (.int .u8 ((bt (fwd k x i) 3 : Nat) : Int)) ∧ W.cell? ⟨na, i * 8 + 4, none⟩ = some (.int .u8 ((bt (fwd k x i) 4 : Nat) : Int)) ∧ W.cell? ⟨na, i * 8 + 5, none⟩ = some (.int .u8 ((bt (fwd k x i) 5 : Nat) : Int)) ∧ W.cell? ⟨na, i * 8 + 6, none⟩ = some (.int .u8 ((bt (fwd k x i) 6 : Nat) : Int)) ∧ W.cell? ⟨na, i * 8 + 7, none⟩ = some (.int .u8 ((bt (fwd k x i) 7 : Nat) : Int)) ∧ W.cell? ⟨nb, i * 8, none⟩ = some (.int .u8 ((bt (fwd k y i) 0 : Nat) : Int)) ∧ W.cell? ⟨nb, i * 8 + 1, none⟩ = some (.int .u8 ((bt (fwd k y i) 1 : Nat) : Int)) ∧ W.cell? ⟨nb, i * 8 + 2, none⟩ = some (.int .u8 ((bt (fwd k y i) 2 : Nat) : Int)) ∧ W.cell? ⟨nb, i * 8 + 3, none⟩ = some (.int .u8 ((bt (fwd k y i) 3 : Nat) : Int)) ∧ W.cell? ⟨nb, i * 8 + 4, none⟩ = some (.int .u8 ((bt (fwd k y i) 4 : Nat) : Int)) ∧ W.cell? ⟨nb, i * 8 + 5, none⟩ = some (.int .u8 ((bt (fwd k y i) 5 : Nat) : Int)) ∧ W.cell? ⟨nb, i * 8 + 6, none⟩ = some (.int .u8 ((bt (fwd k y i) 6 : Nat) : Int)) ∧ W.cell? ⟨nb, i * 8 + 7, none⟩ = some (.int .u8 ((bt (fwd k y i) 7 : Nat) : Int))) (by kernel_rfl) ?_ (fun hHeld => ?_)
    · exact ⟨p0, p1, p2, p3, p4, p5, p6, p7, q0, q1, q2, q3, q4, q5, q6, q7⟩
    refine wpAnyH_take (i := 0) (v := ?v0x1) rfl (by kernel_rfl) (by kernel_rfl) (by kernel_rfl) (fun _ _ _ h => h) (Or.inl ⟨by rfl, ?hy0x1⟩) hHeld ?rest0x1
    case hy0x1 => (intro w hSw; (try dsimp only at hSw); go_simp; with_reducible rfl)
    simp only [Act.put, List.setIfInBounds_toArray, List.set_cons_zero, List.set_cons_succ]
    refine wpAnyH_take (i := 1) (v := ?v1x2) rfl (by kernel_rfl) (by kernel_rfl) (by kernel_rfl) (fun _ _ _ h => h) (Or.inl ⟨by rfl, ?hy1x2⟩) hHeld ?rest1x2
    case hy1x2 => (intro w hSw; (try dsimp only at hSw); go_simp; with_reducible rfl)
    simp only [Act.put, List.setIfInBounds_toArray, List.set_cons_zero, List.set_cons_succ]
    refine wpAnyH_take (i := 2) (v := ?v2x3) rfl (by kernel_rfl) (by kernel_rfl) (by kernel_rfl) (fun _ _ _ h => h) (Or.inl ⟨by rfl, ?hy2x3⟩) hHeld ?rest2x3
    case hy2x3 => (intro w hSw; (try dsimp only at hSw); go_simp; with_reducible rfl)
    simp only [Act.put, List.setIfInBounds_toArray, List.set_cons_zero, List.set_cons_succ]
    refine wpAnyH_take (i := 3) (v := ?v3x4) rfl (by kernel_rfl) (by kernel_rfl) (by kernel_rfl) (fun _ _ _ h => h) (Or.inl ⟨by rfl, ?hy3x4⟩) hHeld ?rest3x4
    case hy3x4 => (intro w hSw; (try dsimp only at hSw); go_simp; with_reducible rfl)
    simp only [Act.put, List.setIfInBounds_toArray, List.set_cons_zero, List.set_cons_succ]
    refine wpAnyH_take (i := 4) (v := ?v4x5) rfl (by kernel_rfl) (by kernel_rfl) (by kernel_rfl) (fun _ _ _ h => h) (Or.inl ⟨by rfl, ?hy4x5⟩) hHeld ?rest4x5
    case hy4x5 => (intro w hSw; (try dsimp only at hSw); go_simp; with_reducible rfl)
    simp only [Act.put, List.setIfInBounds_toArray, List.set_cons_zero, List.set_cons_succ]
    refine wpAnyH_take (i := 5) (v := ?v5x6) rfl (by kernel_rfl) (by kernel_rfl) (by kernel_rfl) (fun _ _ _ h => h) (Or.inl ⟨by rfl, ?hy5x6⟩) hHeld ?rest5x6
    case hy5x6 => (intro w hSw; (try dsimp only at hSw); go_simp; with_reducible rfl)
    simp only [Act.put, List.setIfInBounds_toArray, List.set_cons_zero, List.set_cons_succ]
    refine wpAnyH_take (i := 6) (v := ?v6x7) rfl (by kernel_rfl) (by kernel_rfl) (by kernel_rfl) (fun _ _ _ h => h) (Or.inl ⟨by rfl, ?hy6x7⟩) hHeld ?rest6x7
    case hy6x7 => (intro w hSw; (try dsimp only at hSw); go_simp; with_reducible rfl)
    simp only [Act.put, List.setIfInBounds_toArray, List.set_cons_zero, List.set_cons_succ]
    refine wpAnyH_take (i := 7) (v := ?v7x8) rfl (by kernel_rfl) (by kernel_rfl) (by kernel_rfl) (fun _ _ _ h => h) (Or.inl ⟨by rfl, ?hy7x8⟩) hHeld ?rest7x8
    case hy7x8 => (intro w hSw; (try dsimp only at hSw); go_simp; with_reducible rfl)
    simp only [Act.put, List.setIfInBounds_toArray, List.set_cons_zero, List.set_cons_succ]
    refine wpAnyH_ready (rs := [8, 12]) (by kernel_rfl) (by simp) ?_
    refine AllReadyH.cons rfl (fun K hK => ?_) ?_
    · have HB0 := Lib.hid (Below.drew (Below.refl wr.heap.size wr))
      go_simp
      go_at_call 10
      refine (K10.out _ (by first | assumption | exact HB0.out)).mono ?_
      rintro e w6 ⟨rfl, h6, hb6⟩
      try go_wp2_with fail
      refine hK.out _ _ ?_ (fun hHeld => ?_)
      · exact SK.out _ h6.out
      clear hK K
      try simp only [Act.put, List.setIfInBounds_toArray, List.set_cons_zero, List.set_cons_succ]
      refine wpAnyH_take (i := 9) (v := ?v9x9) rfl (by kernel_rfl) (by kernel_rfl) (by kernel_rfl) (fun _ _ _ h => h) (Or.inl ⟨by rfl, ?hy9x9⟩) hHeld ?rest9x9
      case hy9x9 => (intro w hSw; (try dsimp only at hSw); go_simp; with_reducible rfl)
      simp only [Act.put, List.setIfInBounds_toArray, List.set_cons_zero, List.set_cons_succ]
      refine wpAnyH_take (i := 10) (v := ?v10x10) rfl (by kernel_rfl) (by kernel_rfl) (by kernel_rfl) (fun _ _ _ h => h) (Or.inl ⟨by rfl, ?hy10x10⟩) hHeld ?rest10x10
      case hy10x10 => (intro w hSw; (try dsimp only at hSw); go_simp; with_reducible rfl)
      simp only [Act.put, List.setIfInBounds_toArray, List.set_cons_zero, List.set_cons_succ]
      refine wpAnyH_take (i := 11) (v := ?v11x11) rfl (by kernel_rfl) (by kernel_rfl) (by kernel_rfl) (fun _ _ _ h => h) (Or.inl ⟨by rfl, ?hy11x11⟩) hHeld ?rest11x11
      case hy11x11 => (intro w hSw; (try dsimp only at hSw); go_simp; with_reducible rfl)
      simp only [Act.put, List.setIfInBounds_toArray, List.set_cons_zero, List.set_cons_succ]
      refine wpAnyH_ready (rs := [12]) (by kernel_rfl) (by simp) ?_
      refine AllReadyH.cons rfl (fun K hK => ?_) ?_
      rotate_left
      · exact AllReadyH.nil
      go_simp
      have h7 := Lib.hid (Below.alloc h6.out (Below.size h6.out) (.cells #[Value.int IntKind.u8 0, Value.int IntKind.u8 0, Value.int IntKind.u8 0, Value.int IntKind.u8 0, Value.int IntKind.u8 0, Value.int IntKind.u8 0, Value.int IntKind.u8 0, Value.int IntKind.u8 0] 30))
      refine hK.out _ _ ?_ (fun hHeld => ?_)
      · exact SK.out _ h7.out
      clear hK K
      try simp only [Act.put, List.setIfInBounds_toArray, List.set_cons_zero, List.set_cons_succ]
      refine wpAnyH_ready (rs := [13]) (by kernel_rfl) (by simp) ?_
      refine AllReadyH.cons rfl (fun K hK => ?_) ?_
      rotate_left
      · exact AllReadyH.nil
      go_simp
      obtain ⟨w9, hw9⟩ : ∃ w9, w9 = w6.alloc (.cells #[Value.int IntKind.u8 ((bt (zv) 0 : Nat) : Int), Value.int IntKind.u8 ((bt (zv) 1 : Nat) : Int), Value.int IntKind.u8 ((bt (zv) 2 : Nat) : Int), Value.int IntKind.u8 ((bt (zv) 3 : Nat) : Int), Value.int IntKind.u8 ((bt (zv) 4 : Nat) : Int), Value.int IntKind.u8 ((bt (zv) 5 : Nat) : Int), Value.int IntKind.u8 ((bt (zv) 6 : Nat) : Int), Value.int IntKind.u8 ((bt (zv) 7 : Nat) : Int)] 30) := ⟨_, rfl⟩
      rw [← hw9]
      have H9 := Lib.hid (show Below wr.heap.size wr w9 by rw [hw9]; exact Below.alloc h6.out (Below.size h6.out) _)
      have C9 := Lib.hid (show By w9 w6.heap.size 0 8 zv by rw [hw9]; intro j hj; refine box_cell (w0 := w6) rfl ?_; show (#[Value.int IntKind.u8 ((bt (zv) 0 : Nat) : Int), Value.int IntKind.u8 ((bt (zv) 1 : Nat) : Int), Value.int IntKind.u8 ((bt (zv) 2 : Nat) : Int), Value.int IntKind.u8 ((bt (zv) 3 : Nat) : Int), Value.int IntKind.u8 ((bt (zv) 4 : Nat) : Int), Value.int IntKind.u8 ((bt (zv) 5 : Nat) : Int), Value.int IntKind.u8 ((bt (zv) 6 : Nat) : Int), Value.int IntKind.u8 ((bt (zv) 7 : Nat) : Int)] : Array Value)[0 + j]? = _; rw [Nat.zero_add]; rcases j with _ | _ | _ | _ | _ | _ | _ | _ | j <;> first | omega | rfl)
      clear hw9
      refine hK.out _ _ ?_ (fun hHeld => ?_)
      · exact SK.out _ H9.out
      clear hK K
      try simp only [Act.put, List.setIfInBounds_toArray, List.set_cons_zero, List.set_cons_succ]
      refine wpAnyH_take (i := 14) (v := ?v14x12) rfl (by kernel_rfl) (by kernel_rfl) (by kernel_rfl) (fun _ _ _ h => h) (Or.inl ⟨by rfl, ?hy14x12⟩) hHeld ?rest14x12
      case hy14x12 => (intro w hSw; (try dsimp only at hSw); go_simp; with_reducible rfl)
      simp only [Act.put, List.setIfInBounds_toArray, List.set_cons_zero, List.set_cons_succ]
      refine wpAnyH_done (by kernel_rfl) ?_ _
      have h9 := H9.out
      have OWN := Lib.hid (show w9.ownsRow w4.heap.size 30 8 u9 i (bcells (fun i => pt (fwd k x i) (fwd k y i)) i) from HI.out.own.kept (row := none) ⟨h9.os, h9.tape, h9.output, h9.size, fun j hj _ => h9.block j hj⟩ (by cases hv : u9.ownBlock <;> simp))
      have c0 := C9.out 0 (by omega)
      have c1 := C9.out 1 (by omega)
      have c2 := C9.out 2 (by omega)
      have c3 := C9.out 3 (by omega)
      have c4 := C9.out 4 (by omega)
      have c5 := C9.out 5 (by omega)
      have c6 := C9.out 6 (by omega)
      have c7 := C9.out 7 (by omega)
      simp only [Nat.zero_add] at c0 c1 c2 c3 c4 c5 c6 c7
      clear h9 hHeld p0 q0 p1 q1 p2 q2 p3 q3 p4 q4 p5 q5 p6 q6 p7 q7
      go_wp2_with (at_builtin; go_must (refine wpList_append_own _ rfl (.tmp 89) (.tmp 91) 22 rfl w4.heap.size 30 i0 (.agg (Array.replicate 8 (.int .u8 0))) 8 8 Tryd.underlying22 I0.out.1 I0.out.2.1 I0.out.2.2.1 I0.out.2.2.2 rfl (by decide) u9 i _ rfl (OWN.out.alloc _) ⟨w9.heap.size, 0, none⟩ 1 1 [.int .u8 ((bt zv 0 : Nat) : Int), .int .u8 ((bt zv 1 : Nat) : Int), .int .u8 ((bt zv 2 : Nat) : Int), .int .u8 ((bt zv 3 : Nat) : Int), .int .u8 ((bt zv 4 : Nat) : Int), .int .u8 ((bt zv 5 : Nat) : Int), .int .u8 ((bt zv 6 : Nat) : Int), .int .u8 ((bt zv 7 : Nat) : Int)] rfl rfl (cell_bts_new _ zv _) (fun x hx => by simp at hx; rcases hx with rfl | rfl | rfl | rfl | rfl | rfl | rfl | rfl <;> rfl) (by unfold maxLen; omega) (by omega) (by have := HI.out.below.size; have := H9.out.size; simp; omega) ?_); intro v' wz h2 h3 h4; clear h4; have HN := Lib.hid (CInv.next HI.out H9.out (show wz.ownsRow w4.heap.size 30 8 v' (i + 1) (bcells (fun i => pt (fwd k x i) (fwd k y i)) (i + 1)) from by rw [bcells, ← HZV.out, bts8]; exact h2) h3); clear h2 h3)
      go_roundw
      case rel => exact ⟨i + 1, by omega, by go_num, HN.out⟩
      case measure => simp [intOf]; omega
    refine AllReadyH.cons rfl (fun K hK => ?_) AllReadyH.nil
    go_simp
    obtain ⟨wq, hwq⟩ : ∃ wq, wq = (wr.alloc (.cells #[Value.int IntKind.u8 0, Value.int IntKind.u8 0, Value.int IntKind.u8 0, Value.int IntKind.u8 0, Value.int IntKind.u8 0, Value.int IntKind.u8 0, Value.int IntKind.u8 0, Value.int IntKind.u8 0] 30)).drew := ⟨_, rfl⟩
    rw [← hwq]
    have HB0 := Lib.hid (show Below wr.heap.size wr wq by rw [hwq]; exact ((Below.refl _ wr).alloc (Nat.le_refl _) _).drew)
    have HQ := Lib.hid (show wr.heap.size < wq.heap.size by rw [hwq]; simp [World.drew])
    have HZ := Lib.hid (show ∀ j, j < 8 → wq.cell? ⟨wr.heap.size, j, none⟩ = some (.int .u8 0) ∧ wq.frozen? ⟨wr.heap.size, j, none⟩ = false from fun j hj => by
      rw [hwq]
      refine ⟨?_, (box_free (w0 := wr) (n := wr.heap.size) rfl)⟩
      refine (box_cell (w0 := wr) (n := wr.heap.size) rfl ?_)
      rcases j with _ | _ | _ | _ | _ | _ | _ | _ | j <;> first | omega | rfl)
    clear hwq
    refine hK.out _ _ ?_ (fun hHeld => ?_)
    · exact SK.out _ HB0.out
    clear hK K
    try simp only [Act.put, List.setIfInBounds_toArray, List.set_cons_zero, List.set_cons_succ]
    refine wpAnyH_ready (rs := [8]) (by kernel_rfl) (by simp) ?_
    refine AllReadyH.cons rfl (fun K hK => ?_) ?_
    rotate_left
    · exact AllReadyH.nil
    go_simp
    go_at_call 10
    refine (K10.out _ (by first | assumption | exact HB0.out)).mono ?_
    rintro e w6 ⟨rfl, h6, hb6⟩
    try go_wp2_with fail
    have HZ6 := Lib.hid (show ∀ j, j < 8 → w6.cell? ⟨wr.heap.size, j, none⟩ = some (.int .u8 0) ∧ w6.frozen? ⟨wr.heap.size, j, none⟩ = false from fun j hj => by
      rw [Below.cell hb6.out (p := ⟨wr.heap.size, j, none⟩) HQ.out, Below.frozen hb6.out (p := ⟨wr.heap.size, j, none⟩) HQ.out]; exact HZ.out j hj)
    refine hK.out _ _ ?_ (fun hHeld => ?_)
    · exact SK.out _ h6.out
    clear hK K
    try simp only [Act.put, List.setIfInBounds_toArray, List.set_cons_zero, List.set_cons_succ]
    refine wpAnyH_take (i := 9) (v := ?v9x13) rfl (by kernel_rfl) (by kernel_rfl) (by kernel_rfl) (fun _ _ _ h => h) (Or.inl ⟨by rfl, ?hy9x13⟩) hHeld ?rest9x13
    case hy9x13 => (intro w hSw; (try dsimp only at hSw); go_simp; with_reducible rfl)
    simp only [Act.put, List.setIfInBounds_toArray, List.set_cons_zero, List.set_cons_succ]
    refine wpAnyH_take (i := 10) (v := ?v10x14) rfl (by kernel_rfl) (by kernel_rfl) (by kernel_rfl) (fun _ _ _ h => h) (Or.inl ⟨by rfl, ?hy10x14⟩) hHeld ?rest10x14
    case hy10x14 => (intro w hSw; (try dsimp only at hSw); go_simp; with_reducible rfl)
    simp only [Act.put, List.setIfInBounds_toArray, List.set_cons_zero, List.set_cons_succ]
    refine wpAnyH_take (i := 11) (v := ?v11x15) rfl (by kernel_rfl) (by kernel_rfl) (by kernel_rfl) (fun _ _ _ h => h) (Or.inl ⟨by rfl, ?hy11x15⟩) hHeld ?rest11x15
    case hy11x15 => (intro w hSw; (try dsimp only at hSw); go_simp; with_reducible rfl)
    simp only [Act.put, List.setIfInBounds_toArray, List.set_cons_zero, List.set_cons_succ]
    refine wpAnyH_ready (rs := [13]) (by kernel_rfl) (by simp) ?_
    refine AllReadyH.cons rfl (fun K hK => ?_) ?_
    rotate_left
    · exact AllReadyH.nil
    have d0 := (HZ6.out 0 (by omega)).1
    have f0 := (HZ6.out 0 (by omega)).2
    have d1 := (HZ6.out 1 (by omega)).1
    have f1 := (HZ6.out 1 (by omega)).2
    have d2 := (HZ6.out 2 (by omega)).1
    have f2 := (HZ6.out 2 (by omega)).2
    have d3 := (HZ6.out 3 (by omega)).1
    have f3 := (HZ6.out 3 (by omega)).2
    have d4 := (HZ6.out 4 (by omega)).1
    have f4 := (HZ6.out 4 (by omega)).2
    have d5 := (HZ6.out 5 (by omega)).1
    have f5 := (HZ6.out 5 (by omega)).2
    have d6 := (HZ6.out 6 (by omega)).1
    have f6 := (HZ6.out 6 (by omega)).2
    have d7 := (HZ6.out 7 (by omega)).1
    have f7 := (HZ6.out 7 (by omega)).2
    go_simp
    rw [← setCells8z]
    obtain ⟨w9, hw9⟩ : ∃ w9, w9 = w6.setCells wr.heap.size 0 (bts 8 zv) := ⟨_, rfl⟩
    rw [← hw9]
    have hoc := own_cells (n := wr.heap.size) (vs := bts 8 zv) h6.out (Nat.le_refl _) (fun j hj => ⟨_, (HZ6.out j (by simpa [bts] using hj)).1⟩)
    rw [← hw9] at hoc
    have H9 := Lib.hid hoc.1
    have C9 := Lib.hid (show By w9 wr.heap.size 0 8 zv from fun j hj => by have := hoc.2 j (by simp [bts, hj]); rw [Nat.zero_add]; rw [this]; simp [bts])
    clear hw9 hoc d0 f0 d1 f1 d2 f2 d3 f3 d4 f4 d5 f5 d6 f6 d7 f7
    refine hK.out _ _ ?_ (fun hHeld => ?_)
    · exact SK.out _ H9.out
    clear hK K
    try simp only [Act.put, List.setIfInBounds_toArray, List.set_cons_zero, List.set_cons_succ]
    refine wpAnyH_take (i := 14) (v := ?v14x16) rfl (by kernel_rfl) (by kernel_rfl) (by kernel_rfl) (fun _ _ _ h => h) (Or.inl ⟨by rfl, ?hy14x16⟩) hHeld ?rest14x16
    case hy14x16 => (intro w hSw; (try dsimp only at hSw); go_simp; with_reducible rfl)
    simp only [Act.put, List.setIfInBounds_toArray, List.set_cons_zero, List.set_cons_succ]
    refine wpAnyH_done (by kernel_rfl) ?_ _
    have h9 := H9.out
    have OWN := Lib.hid (show w9.ownsRow w4.heap.size 30 8 u9 i (bcells (fun i => pt (fwd k x i) (fwd k y i)) i) from HI.out.own.kept (row := none) ⟨h9.os, h9.tape, h9.output, h9.size, fun j hj _ => h9.block j hj⟩ (by cases hv : u9.ownBlock <;> simp))
    have c0 := C9.out 0 (by omega)
    have c1 := C9.out 1 (by omega)
    have c2 := C9.out 2 (by omega)
    have c3 := C9.out 3 (by omega)
    have c4 := C9.out 4 (by omega)
    have c5 := C9.out 5 (by omega)
    have c6 := C9.out 6 (by omega)
    have c7 := C9.out 7 (by omega)
    simp only [Nat.zero_add] at c0 c1 c2 c3 c4 c5 c6 c7
    clear h9 hHeld p0 q0 p1 q1 p2 q2 p3 q3 p4 q4 p5 q5 p6 q6 p7 q7
    go_wp2_with (at_builtin; go_must (refine wpList_append_own _ rfl (.tmp 89) (.tmp 91) 22 rfl w4.heap.size 30 i0 (.agg (Array.replicate 8 (.int .u8 0))) 8 8 Tryd.underlying22 I0.out.1 I0.out.2.1 I0.out.2.2.1 I0.out.2.2.2 rfl (by decide) u9 i _ rfl (OWN.out.alloc _) ⟨w9.heap.size, 0, none⟩ 1 1 [.int .u8 ((bt zv 0 : Nat) : Int), .int .u8 ((bt zv 1 : Nat) : Int), .int .u8 ((bt zv 2 : Nat) : Int), .int .u8 ((bt zv 3 : Nat) : Int), .int .u8 ((bt zv 4 : Nat) : Int), .int .u8 ((bt zv 5 : Nat) : Int), .int .u8 ((bt zv 6 : Nat) : Int), .int .u8 ((bt zv 7 : Nat) : Int)] rfl rfl (cell_bts_new _ zv _) (fun x hx => by simp at hx; rcases hx with rfl | rfl | rfl | rfl | rfl | rfl | rfl | rfl <;> rfl) (by unfold maxLen; omega) (by omega) (by have := HI.out.below.size; have := H9.out.size; simp; omega) ?_); intro v' wz h2 h3 h4; clear h4; have HN := Lib.hid (CInv.next HI.out H9.out (show wz.ownsRow w4.heap.size 30 8 v' (i + 1) (bcells (fun i => pt (fwd k x i) (fwd k y i)) (i + 1)) from by rw [bcells, ← HZV.out, bts8]; exact h2) h3); clear h2 h3)
    go_roundw
    case rel => exact ⟨i + 1, by omega, by go_num, HN.out⟩
    case measure => simp [intOf]; omega
end Go.Proofs.YtgeifodehflgpaaDoor
