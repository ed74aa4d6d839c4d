/-
  The statement on products, walked: given the plain law, the call answers true.
-/
import Derived.Test.YtimihpddlinmbaaDoorLc
import Derived.Test.YtimihpddlinmbaaDoorX
import Derived.BigGuardPart
import Derived.Deep.RegionHeld3
namespace Go.Proofs.YtimihpddlinmbaaDoor
open Go.RowKit
set_option linter.unusedVariables false
set_option linter.unusedSimpArgs false

/-- The list laid modulo x^n - 1, behind the first i numbers. -/
def folds (g : Nat → Nat) (n : Nat) : Nat → Nat → Nat
  | 0 => fun _ => 0
  | i + 1 => fun j => if j = i % n then (folds g n i j + g i) % P else folds g n i j
theorem folds_lt (g : Nat → Nat) (n : Nat) : ∀ i j, folds g n i j < P
  | 0, j => P_pos
  | i + 1, j => by
    show (if j = i % n then _ else _) < P
    split
    · exact Nat.mod_lt _ P_pos
    · exact folds_lt g n i j

/-- An argument: nothing, or elements. -/
def Arg (w : World) (q : Option Addr) (n : Nat) : Prop := n = 0 ∨ ∃ b o f, q = some ⟨b, o, none⟩ ∧ 0 < n ∧ (∀ i, i < n → f i < 256 ^ 16) ∧ BRow w b o n f
/-- What the test of a list's length and elements tells. -/
def PowAny (w : World) (q : Option Addr) (n : Nat) (e : Ending) (w' : World) : Prop :=
  ∃ v, e = .returned (.bool v) ∧ (v = true → ∃ k b o f, k < 7 ∧ n = 2 ^ k ∧ q = some ⟨b, o, none⟩ ∧ (∀ i, i < n → f i < P) ∧ BRow w b o n f ∧ b < w.heap.size) ∧ Below w.heap.size w w'

theorem Arg.keep {w w' : World} {q : Option Addr} {n : Nat} (h : Arg w q n) (hb : Below w.heap.size w w') : Arg w' q n := by
  rcases h with h | ⟨b, o, f, rfl, h1, hf, hr⟩
  · exact Or.inl h
  · exact Or.inr ⟨b, o, f, rfl, h1, hf, hr.keep hb ((hr 0 h1).lt (by omega))⟩

theorem power_any (q : Option Addr) (n cp : Nat) (hn : n ≤ 2147483647) (w : World) (h : Arg w q n) : Calls Tryd.prog 5 #[.slice q n cp] w (PowAny w q n) := by
  rcases h with rfl | ⟨b, o, f, rfl, h1, hf, hr⟩
  · refine (power_zero q cp (fun _ => 0) w).mono ?_
    rintro e w1 ⟨v, rfl, hv, hb⟩
    refine ⟨v, rfl, fun h => ?_, hb⟩
    obtain ⟨⟨k, _, h⟩, _⟩ := hv h
    have := Nat.two_pow_pos k
    omega
  · refine (power_pos n b o cp f h1 hn hf w hr).mono ?_
    rintro e w1 ⟨v, rfl, hv, hb⟩
    refine ⟨v, rfl, fun h => ?_, hb⟩
    obtain ⟨⟨k, hk, hkn⟩, hP⟩ := hv h
    exact ⟨k, b, o, f, hk, hkn, rfl, hP, hr, (hr 0 h1).lt (by omega)⟩

/-- The place-by-place product, as the thin package has it. -/
def pt (x y : Nat) : Nat := mt (mt (mt x rsq) (mt y rsq)) 1

def bcells (f : Nat → Nat) : Nat → List Value
  | 0 => []
  | k + 1 => bcells f k ++ bts 16 (f k)
theorem bcells_len (f : Nat → Nat) : ∀ k, (bcells f k).length = k * 16
  | 0 => rfl
  | k + 1 => by rw [bcells, List.length_append, bcells_len f k]; simp [bts]; omega
theorem bcells_get (f : Nat → Nat) : ∀ k i j, i < k → j < 16 → (bcells f k)[i * 16 + j]? = some (.int .u8 ((bt (f i) j : Nat) : Int))
  | 0, i, j, h, _ => by omega
  | k + 1, i, j, h, hj => by
    have hl := bcells_len f k
    rw [bcells]
    by_cases e : i = k
    · subst e
      rw [List.getElem?_append_right (by omega), hl, show i * 16 + j - i * 16 = j by omega]
      simp [bts, hj]
    · rw [List.getElem?_append_left (by omega)]
      exact bcells_get f k i j (by omega) hj

structure CInv (w : World) (f : Nat → Nat) (k : Nat) (v : Value) (wr : World) : Prop where
  below : Below w.heap.size w wr
  own : wr.ownsRow w.heap.size 30 16 v k (bcells f k)

theorem CInv.next {w wr w3 w4 : World} {f : Nat → Nat} {k : Nat} {v v' : Value} {o : Obj} (h : CInv w f k v wr) (hb : Below wr.heap.size wr w3) (h2 : w4.ownsRow w.heap.size 30 16 v' (k + 1) (bcells f (k + 1))) (h3 : (w3.alloc o).grownBy w4 v.ownBlock) : CInv w f (k + 1) v' w4 := by
  refine ⟨?_, h2⟩
  have h4 : Below w.heap.size w (w3.alloc o) := (h.below.trans (hb.mono h.below.size)).alloc (by have := h.below.size; have := hb.size; omega) o
  exact h4.grown h3 h4.size (fun j hj => (h.own.lt j hj).1)

theorem cell_bts_new (w : World) (x : Nat) (t : TypeId) : ∀ (j : Nat) (u : Value), (bts 16 x)[j]? = some u → (w.alloc (.cells (bts 16 x).toArray t)).cell? ((⟨w.heap.size, 0, none⟩ : Addr).add j) = some u := by
  intro j u h
  have e : (⟨w.heap.size, 0, none⟩ : Addr).add j = ⟨w.heap.size, j, none⟩ := by
    unfold Addr.add
    by_cases h : j = 0
    · subst h; rfl
    · rw [if_neg h]; simp
  rw [e]
  exact box_cell rfl (by simpa using h)

structure FInv (w : World) (gw gp gc n m : Nat) (h g c : Nat → Nat) (wt : World) : Prop where
  want : PrInv w gw n h wt
  prod : WRow wt gp m g
  crow : BRow wt gc 0 n c
  np : gp ≠ gw
  nc : gc ≠ gw
  pl : gp < wt.heap.size
  cl : gc < wt.heap.size
theorem WRow.keep {w w' : World} {g n : Nat} {f : Nat → Nat} (h : WRow w g n f) (hb : Below w.heap.size w w') (hg : g < w.heap.size) : WRow w' g n f := fun i hi => by
  rw [hb.cell (p := ⟨g, i * 2, none⟩) hg, hb.cell (p := ⟨g, i * 2 + 1, none⟩) hg]; exact h i hi
theorem FInv.keep {w wt w' : World} {gw gp gc n m : Nat} {h g c : Nat → Nat} (i : FInv w gw gp gc n m h g c wt) (hb : Below wt.heap.size wt w') : FInv w gw gp gc n m h g c w' :=
  ⟨i.want.keep hb, i.prod.keep hb i.pl, BRow.keep hb i.cl i.crow, i.np, i.nc, by have := i.pl; have := hb.size; omega, by have := i.cl; have := hb.size; omega⟩
theorem FInv.put {w wt : World} {gw gp gc n m t u : Nat} {h h' g c : Nat → Nat} (i : FInv w gw gp gc n m h g c wt) (ht : t < n) (e : ∀ j, h' j = if j = t then u else h j) :
    FInv w gw gp gc n m h' g c ((wt.setCell ⟨gw, t * 2, none⟩ (wlo u)).setCell ⟨gw, t * 2 + 1, none⟩ (whi u)) :=
  ⟨i.want.put ht e, fun j hj => by rw [put_out i.np, put_out i.np]; exact i.prod j hj, fun j hj l hl => by rw [put_out i.nc]; exact i.crow j hj l hl, i.np, i.nc, by have := i.pl; simp; omega, by have := i.cl; simp; omega⟩

/-- What the walk reads of the number at hand, and of the list's place s. -/
def FoldFacts (W : World) (g s gv bx xv : Nat) : Prop :=
  W.cell? ⟨g, s * 2, none⟩ = some (.int .u64 ((lo64 gv : Nat) : Int)) ∧ W.cell? ⟨g, s * 2 + 1, none⟩ = some (.int .u64 ((hi64 gv : Nat) : Int)) ∧ W.frozen? ⟨g, s * 2, none⟩ = false ∧ W.frozen? ⟨g, s * 2 + 1, none⟩ = false ∧
  W.cell? ⟨bx, 0, none⟩ = some (.int .u64 ((lo64 xv : Nat) : Int)) ∧ W.cell? ⟨bx, 1, none⟩ = some (.int .u64 ((hi64 xv : Nat) : Int))

theorem FV_is : FV = fv P 128 66 := by unfold FV fv wlo whi lo64 hi64 P; rfl

/-- What is wanted of two lists. -/
def want (x y : Nat → Nat) (n : Nat) : Nat → Nat := folds (prows x y n n) n (2 * n - 1)

set_option maxRecDepth 100000 in
set_option maxHeartbeats 8000000 in
theorem prod_any (law : ∀ (k : Nat) (x y : Nat → Nat), k < 7 → (∀ i, i < 2 ^ k → x i < P) → (∀ i, i < 2 ^ k → y i < P) → ∀ i, i < 2 ^ k → hv k (bck k (fun i => pt (fwd k x i) (fwd k y i)) i) = want x y (2 ^ k) i)
    (q q' : Option Addr) (n n' cp cp' : Nat) (w : World) (hg : Glob w) (hx : Arg w q n) (hy : Arg w q' n') :
    Calls Tryd.prog 4 #[.slice q n cp, .slice q' n' cp'] w fun e w' => e = .returned (.bool true) ∧ Below w.heap.size w w' := by
  have LAW := Lib.hid law
  have HG := Lib.hid hg
  have HX := Lib.hid hx
  have HY := Lib.hid hy
  clear law hg hx hy
  by_cases hb1 : 2147483647 < n
  · have h2 : decide ((2147483647 : Int) < (n : Int)) = true := by simp; omega
    go_enter Tryd.func4, Tryd.ntmps4
    go_wp2_with fail
    go_ret
    exact ⟨rfl, Below.refl _ _⟩
  have h2 : decide ((2147483647 : Int) < (n : Int)) = false := by simp; omega
  by_cases hb2 : 2147483647 < n'
  · have h3 : decide ((2147483647 : Int) < (n' : Int)) = true := by simp; omega
    go_enter Tryd.func4, Tryd.ntmps4
    go_wp2_with fail
    go_ret
    exact ⟨rfl, Below.refl _ _⟩
  have h3 : decide ((2147483647 : Int) < (n' : Int)) = false := by simp; omega
  go_enter Tryd.func4, Tryd.ntmps4
  go_wp2_with fail
  refine (power_any q n cp (by omega) w HX.out).mono ?_
  rintro e w1 ⟨v, rfl, hv, hb⟩
  have B1 := Lib.hid hb
  clear hb
  rcases v with _ | _
  · clear hv
    go_wp2_with fail
    go_ret
    exact ⟨rfl, B1.out⟩
  have V1 := Lib.hid (hv rfl)
  clear hv
  go_wp2_with fail
  refine (power_any q' n' cp' (by omega) w1 (HY.out.keep B1.out)).mono ?_
  rintro e w2 ⟨v, rfl, hv, hb⟩
  have B2 := Lib.hid (B1.out.trans (hb.mono B1.out.size))
  have B12 := Lib.hid hb
  clear hb
  rcases v with _ | _
  · clear hv
    go_wp2_with fail
    go_ret
    exact ⟨rfl, B2.out⟩
  have V2 := Lib.hid (hv rfl)
  clear hv
  by_cases hne : n = n'
  case neg =>
    have h4 : ((n : Int) != (n' : Int)) = true := by simp; omega
    go_wp2_with fail
    go_ret
    exact ⟨rfl, B2.out⟩
  subst hne
  have h4 : ((n : Int) != (n : Int)) = false := by simp
  obtain ⟨k, b, o, x, hk, hn, rfl, hx, rx, hbx⟩ := V1.out
  obtain ⟨k2, b', o', y, hk2, hn2, rfl, hy, ry, hby⟩ := V2.out
  clear hk2 hn2
  have h1 : 0 < n := by rw [hn]; exact Nat.two_pow_pos k
  have hn64 : n ≤ 64 := by
    rw [hn]
    have : 2 ^ k ≤ 2 ^ 6 := Nat.pow_le_pow_right (by omega) (by omega)
    omega
  have HK := Lib.hid hk
  have HN := Lib.hid hn
  have HPX := Lib.hid hx
  have HPY := Lib.hid hy
  have BX := Lib.hid hbx
  have BY := Lib.hid (show b' < w.heap.size by
    rcases HY.out with h | ⟨b2, o2, f2, he, _, _, hr⟩
    · omega
    · simp at he; rw [he.1]; exact (hr 0 h1).lt (by omega))
  have RX2 := Lib.hid (rx.keep B2.out BX.out)
  have RY2 := Lib.hid (show BRow w2 b' o' n y from ry.keep B12.out hby)
  have H1 := Lib.hid h1
  clear hk hn hx hy hbx hby rx ry V1 V2 HX HY h1 h2 h3 hb1 hb2
  go_wp2_with fail
  refine (ntt64 k n b o cp x HK.out HN.out HPX.out w2 (HG.out.keep B2.out HG.out.size5) RX2.out).mono ?_
  rintro e w3 ⟨na, rfl, a1, a2, a3, a4⟩
  have B3 := Lib.hid (B2.out.trans (a4.mono B2.out.size))
  have RA3 := Lib.hid (show BRow w3 na 0 n (fwd k x) from a3)
  have NA := Lib.hid a2
  have RY3 := Lib.hid (RY2.out.keep (a4.mono B2.out.size) BY.out)
  have RX3 := Lib.hid (RX2.out.keep (a4.mono B2.out.size) BX.out)
  clear a1 a2 a3 a4 RY2 RX2
  go_wp2_with fail
  refine (ntt64 k n b' o' cp' y HK.out HN.out HPY.out w3 (HG.out.keep B3.out HG.out.size5) RY3.out).mono ?_
  rintro e w4 ⟨nb, rfl, a1, a2, a3, a4⟩
  have B4 := Lib.hid (B3.out.trans (a4.mono B3.out.size))
  have RA4 := Lib.hid (RA3.out.keep a4 NA.out)
  have RB4 := Lib.hid (show BRow w4 nb 0 n (fwd k y) from a3)
  have RX4 := Lib.hid (RX3.out.keep (a4.mono B3.out.size) BX.out)
  have RY4 := Lib.hid (RY3.out.keep (a4.mono B3.out.size) BY.out)
  have NA4 := Lib.hid (show na < w4.heap.size by have := NA.out; have := a4.size; omega)
  have NB4 := Lib.hid a2
  clear a1 a2 a3 a4 RY3 RA3 NA RX3
  go_wp2_with fail
  obtain ⟨i0, hi0, hi1⟩ := Option.map_eq_some_iff.1 info30
  simp only [Prod.mk.injEq] at hi1
  obtain ⟨hz0, hz1, hz2⟩ := hi1
  have I0 := Lib.hid (show Tryd.prog.info? 30 = some i0 ∧ i0.zero = some (.agg (Array.replicate 16 (.int .u8 0))) ∧ i0.size = 16 ∧ i0.bytes = 16 from ⟨hi0, hz0, hz1, hz2⟩)
  clear hi0 hz0 hz1 hz2
  have hi : CInv w4 (fun i => pt (fwd k x i) (fwd k y i)) 0 (.slice (some ⟨w4.heap.size, 0, none⟩) 0 0) (w4.alloc (.cells #[] 30)) := by
    refine ⟨(Below.refl _ w4).alloc (Nat.le_refl _) _, ⟨rfl, Or.inr ⟨w4.heap.size, 0, #[], rfl, Nat.le_refl _, heap_new _ _ _ rfl, Nat.le_refl _, by unfold maxLen; omega, rfl, rfl⟩⟩⟩
  generalize w4.alloc (.cells #[] 30) = w5 at *
  generalize Value.slice (some ⟨w4.heap.size, 0, none⟩) 0 0 = v5 at *
  go_loopw [9, 74] (fun v i wr => ∃ t : Nat, t ≤ n ∧ i = .int .i64 t ∧ CInv w4 (fun i => pt (fwd k x i) (fwd k y i)) t v wr) (fun _ i _ => n - (intOf i).toNat)
  case atStart => exact ⟨0, Nat.zero_le _, rfl, hi⟩
  case round =>
    obtain ⟨i, hi1, rfl, hinv⟩ := hrel
    have HI := Lib.hid hinv
    clear hinv hi
    by_cases hlt : i < n
    case neg =>
      obtain rfl : n = i := by omega
      obtain ⟨gc, cc, hv, hgb⟩ := own_slice HI.out.own H1.out
      have hown := HI.out.own
      rw [hv] at hown
      have RC := Lib.hid (show BRow wr gc 0 n (fun i => pt (fwd k x i) (fwd k y i)) from fun i hi j hj => by
        rw [Nat.zero_add, hown.cellAt (i * 16 + j) (by omega)]
        exact bcells_get _ n i j hi hj)
      have GC := Lib.hid (show gc < wr.heap.size from (hown.lt gc (by simp [Value.ownBlock])).2)
      have B5 := Lib.hid (B4.out.trans (HI.out.below.mono B4.out.size))
      have RX5 := Lib.hid (RX4.out.keep (HI.out.below.mono B4.out.size) BX.out)
      have RY5 := Lib.hid (RY4.out.keep (HI.out.below.mono B4.out.size) BY.out)
      have mk := fun w => make28 n (by omega) w
      subst hv
      clear hown hgb hlt HI RX4 RY4 NA4 NB4 RA4 RB4 B4 hi1
      go_wp2_with fail
      clear mk
      obtain ⟨gw, hgw⟩ : ∃ gw, gw = wr.heap.size := ⟨_, rfl⟩
      obtain ⟨w6, hw6⟩ : ∃ w6, w6 = wr.alloc (.cells (wZeros n) 35) := ⟨_, rfl⟩
      rw [← hw6, ← hgw]
      have hb6 : Below wr.heap.size wr w6 := by rw [hw6]; exact (Below.refl _ wr).alloc (Nat.le_refl _) _
      have hwant : PrInv w gw n (fun _ => 0) w6 := by
        rw [hw6, hgw]
        refine ⟨B5.out.alloc B5.out.size _, B5.out.size, by simp, fun j hj => ⟨?_, ?_⟩, fun j hj => ⟨box_free rfl, box_free rfl⟩⟩
        · rw [show wlo 0 = .int .u64 0 from rfl]; exact box_cell rfl (wZeros_get n (j * 2) (by omega))
        · rw [show whi 0 = .int .u64 0 by unfold whi hi64; simp]; exact box_cell rfl (wZeros_get n (j * 2 + 1) (by omega))
      have W6 := Lib.hid hwant
      have B6 := Lib.hid (B5.out.trans (hb6.mono B5.out.size))
      have RC6 := Lib.hid (RC.out.keep hb6 GC.out)
      have GC6 := Lib.hid (show gc < w6.heap.size by have := GC.out; have := hb6.size; omega)
      have NC := Lib.hid (show gc ≠ gw by have := GC.out; omega)
      have RX6 := Lib.hid (RX5.out.keep (hb6.mono B5.out.size) BX.out)
      have RY6 := Lib.hid (RY5.out.keep (hb6.mono B5.out.size) BY.out)
      have GW6 := Lib.hid (show gw < w6.heap.size by rw [hw6, hgw]; simp)
      clear hw6 hb6 hwant hgw RC GC RX5 RY5 B5
      refine (f64_yes w6).mono ?_
      rintro e w7 ⟨rfl, hb7⟩
      have B7 := Lib.hid (B6.out.trans (hb7.mono B6.out.size))
      have W7 := Lib.hid (W6.out.keep hb7)
      have RC7 := Lib.hid (RC6.out.keep hb7 GC6.out)
      have GC7 := Lib.hid (show gc < w7.heap.size by have := GC6.out; have := hb7.size; omega)
      have RX7 := Lib.hid (RX6.out.keep (hb7.mono B6.out.size) BX.out)
      have RY7 := Lib.hid (RY6.out.keep (hb7.mono B6.out.size) BY.out)
      clear hb7 W6 RC6 GC6 RX6 RY6 B6 GW6
      rw [FV_is]
      unfold fv
      go_wp2_with fail
      refine (l64_yes n b o cp x H1.out (by omega) (fun i hi => by have := HPX.out i hi; unfold P at this; unfold W8; omega) w7 RX7.out).mono ?_
      rintro e w8 ⟨gx, cx, rfl, x1, x2, x3, x4⟩
      have B8 := Lib.hid (B7.out.trans (x4.mono B7.out.size))
      have V8 := Lib.hid (W7.out.keep x4)
      have RC8 := Lib.hid (RC7.out.keep x4 GC7.out)
      have GC8 := Lib.hid (show gc < w8.heap.size by have := GC7.out; have := x4.size; omega)
      have RY8 := Lib.hid (RY7.out.keep (x4.mono B7.out.size) BY.out)
      have XW8 := Lib.hid x3
      have XL8 := Lib.hid x2
      clear x1 x2 x3 x4 W7 RC7 GC7 RX7 RY7 B7
      go_wp2_with fail
      refine (l64_yes n b' o' cp' y H1.out (by omega) (fun i hi => by have := HPY.out i hi; unfold P at this; unfold W8; omega) w8 RY8.out).mono ?_
      rintro e w9 ⟨gy, cy, rfl, x1, x2, x3, x4⟩
      have B9 := Lib.hid (B8.out.trans (x4.mono B8.out.size))
      have W9 := Lib.hid (V8.out.keep x4)
      have RC9 := Lib.hid (RC8.out.keep x4 GC8.out)
      have GC9 := Lib.hid (show gc < w9.heap.size by have := GC8.out; have := x4.size; omega)
      have XW9 := Lib.hid (XW8.out.keep x4 XL8.out)
      have YW9 := Lib.hid x3
      clear x1 x2 x3 x4 V8 RC8 GC8 RY8 B8 XW8 XL8
      go_wp2_with fail
      have KP := product_yes n gx gy cx cy 128 66 x y H1.out hn64 HPX.out HPY.out (by unfold P; omega) (by omega) (by unfold P; omega) w9 XW9.out YW9.out
      unfold fv at KP
      refine KP.mono ?_
      rintro e w10 ⟨rfl, hp⟩
      obtain ⟨m, hm⟩ : ∃ m, m = 2 * n - 1 := ⟨_, rfl⟩
      rw [← hm] at hp ⊢
      obtain ⟨gp, hgp⟩ : ∃ gp, gp = w9.heap.size + 1 := ⟨_, rfl⟩
      rw [← hgp] at hp ⊢
      have hb10 : Below w9.heap.size w9 w10 := hp.below
      have B10 := Lib.hid (B9.out.trans (hb10.mono B9.out.size))
      have hf0 : FInv w gw gp gc n m (folds (prows x y n n) n 0) (prows x y n n) (fun i => pt (fwd k x i) (fwd k y i)) w10 := by
        refine ⟨W9.out.keep hb10, hp.row, RC9.out.keep hb10 GC9.out, ?_, NC.out, hp.size, by have := GC9.out; have := hb10.size; omega⟩
        have := W9.out.size
        omega
      have hm2 : m ≤ 128 := by omega
      have HM := Lib.hid hm
      have HPR := Lib.hid (prows_lt x y n n)
      obtain ⟨g, hg⟩ : ∃ g, g = prows x y n n := ⟨_, rfl⟩
      rw [← hg] at hf0 HPR
      have HGD := Lib.hid hg
      clear KP hp hb10 hm hgp W9 RC9 GC9 XW9 YW9 B9 hg
      go_wp2_with fail
      go_loopw [104] (fun i wr => ∃ t : Nat, t ≤ m ∧ i = .int .i64 t ∧ FInv w gw gp gc n m (folds g n t) g (fun i => pt (fwd k x i) (fwd k y i)) wr) (fun i _ => m - (intOf i).toNat)
      case atStart => exact ⟨0, Nat.zero_le _, rfl, hf0⟩
      case round =>
        obtain ⟨t, ht, rfl, hinv⟩ := hrel
        have FI := Lib.hid hinv
        clear hinv hf0
        by_cases hltm : t < m
        case neg =>
          obtain rfl : m = t := by omega
          have BW := Lib.hid FI.out.want.below
          clear hltm hm2 ht
          go_wp2_with fail
          refine (inv64 k n gc 0 cc (fun i => pt (fwd k x i) (fwd k y i)) HK.out HN.out (fun i _ => mt_lt _ _) wr (HG.out.keep BW.out HG.out.size5) FI.out.crow).mono ?_
          rintro e w11 ⟨nr, rfl, a1, a2, a3, a4⟩
          have B11 := Lib.hid (BW.out.trans (a4.mono BW.out.size))
          have RR := Lib.hid (show BRow w11 nr 0 n (bck k (fun i => pt (fwd k x i) (fwd k y i))) from a3)
          have F11 := Lib.hid (FI.out.keep a4)
          clear a1 a2 a3 a4 FI BW
          go_wp2_with fail
          refine (halves_yes k n nr 0 n (bck k (fun i => pt (fwd k x i) (fwd k y i))) HK.out HN.out (fun i _ => mt_lt _ _) w11 (HG.out.keep B11.out HG.out.size5) RR.out).mono ?_
          rintro e w12 ⟨nh, rfl, a1, a2, a3, a4⟩
          have B12 := Lib.hid (B11.out.trans (a4.mono B11.out.size))
          have RH := Lib.hid (show BRow w12 nh 0 n (want x y n) from a3.cast (fun i hi => by
            have := LAW.out k x y HK.out (by rw [← HN.out]; exact HPX.out) (by rw [← HN.out]; exact HPY.out) i (by rw [← HN.out]; exact hi)
            rw [← HN.out] at this; exact this))
          have RW := Lib.hid (show WRow w12 gw n (want x y n) from by
            have h1 := (F11.out.keep a4).want.row
            have e : want x y n = folds g n m := by unfold want; rw [HGD.out, ← HM.out]
            rw [e]; exact h1)
          clear a1 a2 a3 a4 F11 RR B11
          go_wp2_with fail
          refine (same_yes n nh 0 n gw n (want x y n) (by omega) (fun i hi => by have := folds_lt (prows x y n n) n (2 * n - 1) i; unfold want; unfold P at this; unfold W8; omega) w12 RH.out RW.out).mono ?_
          rintro e w13 ⟨rfl, hb13⟩
          have B13 := Lib.hid (B12.out.trans (hb13.mono B12.out.size))
          clear hb13 RH RW
          go_wp2_with fail
          go_ret
          exact ⟨rfl, B13.out⟩
        have Hltm := Lib.hid hltm
        have z0 := (FI.out.prod t hltm).1
        have z1 := (FI.out.prod t hltm).2
        obtain ⟨gv, hgv⟩ : ∃ gv, gv = g t := ⟨_, rfl⟩
        rw [← hgv] at z0 z1
        unfold wlo at z0
        unfold whi at z1
        have hn0 : ¬ n = 0 := by have := H1.out; omega
        have hn1 : (0 : Int) < (n : Int) := by have := H1.out; omega
        obtain ⟨wb, hwb⟩ : ∃ wb, wb = wr.alloc (.cells #[Value.int .u64 ((lo64 gv : Nat) : Int), Value.int .u64 ((hi64 gv : Nat) : Int)] 35) := ⟨_, rfl⟩
        have hbb : Below wr.heap.size wr wb := by rw [hwb]; exact (Below.refl _ wr).alloc (Nat.le_refl _) _
        obtain ⟨bx, hbx⟩ : ∃ bx, bx = wr.heap.size := ⟨_, rfl⟩
        have hx2 : PX wb bx gv := by rw [hwb, hbx]; exact ⟨box_cell rfl rfl, box_cell rfl rfl⟩
        have FB := Lib.hid (FI.out.keep hbb)
        have hn2 : bx ≠ gw := by have := FI.out.want.size; omega
        obtain ⟨s, hs⟩ : ∃ s, s = t % n := ⟨_, rfl⟩
        have hsn : s < n := by rw [hs]; exact Nat.mod_lt _ H1.out
        have hsi : (s : Int) < (n : Int) := by omega
        have hr1 : (t : Int) % (n : Int) = (s : Int) := by rw [hs]; simp
        have hr2 : Int.tmod (t : Int) (n : Int) = (s : Int) := by rw [Int.tmod_eq_emod_of_nonneg (by omega)]; exact hr1
        have hws : wrap64 (s : Int) = (s : Int) := by unfold wrap64; omega
        have hwi : IntKind.i64.wrap (s : Int) = (s : Int) := wrap_i64 s (Nat.lt_of_lt_of_le hsn (Nat.le_trans hn64 (by decide)))
        obtain ⟨ov, hov⟩ : ∃ ov, ov = folds g n t s := ⟨_, rfl⟩
        obtain ⟨rv, hrv⟩ : ∃ rv, rv = (ov + gv) % P := ⟨_, rfl⟩
        have FACTS := Lib.hid (fun (W : World) (hW : Below wb.heap.size wb W) => (show FoldFacts W gw s ov bx gv from by
          have i1 := FB.out.keep hW
          have i3 := hx2.keep hW
          have hr := i1.want.row s hsn
          rw [← hov] at hr
          exact ⟨hr.1, hr.2, (i1.want.free s hsn).1, (i1.want.free s hsn).2, i3.x0, i3.x1⟩))
        have K11 := Lib.hid (show ∀ W, Hid (Below wb.heap.size wb W) → Calls Tryd.prog 11 #[] W fun e w' => e = .returned (fv P 128 66) ∧ Hid (Below wb.heap.size wb w') ∧ FoldFacts w' gw s ov bx gv from by
          intro W hW
          refine (f64_yes W).mono ?_
          rintro e w' ⟨he, hb⟩
          have h3 := Below.trans hW.out (hb.mono hW.out.size)
          exact ⟨by rw [← FV_is]; exact he, h3, FACTS.out w' h3⟩)
        have K13 := Lib.hid (show ∀ W, Hid (Below wb.heap.size wb W) → Calls Tryd.prog 13 #[fv P 128 66, wv ov, wv gv] W fun e w' => e = .returned (wv rv) ∧ Hid (Below wb.heap.size wb w') ∧ FoldFacts w' gw s ov bx gv from by
          intro W hW
          refine (add_yes P ov gv 128 66 (by unfold P; omega) (by rw [hov]; exact folds_lt g n t s) (by rw [hgv]; exact HPR.out t) W).mono ?_
          rintro e w' ⟨he, hb⟩
          have h3 := Below.trans hW.out (hb.mono hW.out.size)
          exact ⟨by rw [hrv]; exact he, h3, FACTS.out w' h3⟩)
        have HV := Lib.hid (show (s = t % n ∧ ov = folds g n t s) ∧ (gv = g t ∧ rv = (ov + gv) % P) from ⟨⟨hs, hov⟩, hgv, hrv⟩)
        have HWB := Lib.hid hwb
        have HBX := Lib.hid hbx
        clear FI hbb hx2 hs hov hrv hgv hwb hbx
        go_wp2_with fail
        rw [← HWB.out, ← HBX.out]
        obtain ⟨o0, o1, f0, f1, x0, x1⟩ := FACTS.out wb (Below.refl _ _)
        clear HWB FACTS z0 z1 HBX
        unfold fv wlo whi at K11
        unfold fv wv wlo whi at K13
        refine wp_region_held_drew (S := fun W => W.cell? ⟨bx, 0, none⟩ = some (.int .u64 ((lo64 gv : Nat) : Int)) ∧ W.cell? ⟨bx, 1, none⟩ = some (.int .u64 ((hi64 gv : Nat) : Int))) (by kernel_rfl) ?_ (fun hHeld => ?_)
        · exact ⟨x0, x1⟩
        refine wpAnyH_take (i := 0) (v := ?v0y15) rfl (by kernel_rfl) (by kernel_rfl) (by kernel_rfl) (fun _ _ _ h => h) (Or.inl ⟨by rfl, ?hy0y15⟩) hHeld ?rest0y15
        case hy0y15 => (intro w hSw; (try dsimp only at hSw); go_simp; with_reducible rfl)
        simp only [Act.put, List.setIfInBounds_toArray, List.set_cons_zero, List.set_cons_succ]
        refine wpAnyH_take (i := 1) (v := ?v1y16) rfl (by kernel_rfl) (by kernel_rfl) (by kernel_rfl) (fun _ _ _ h => h) (Or.inl ⟨by rfl, ?hy1y16⟩) hHeld ?rest1y16
        case hy1y16 => (intro w hSw; (try dsimp only at hSw); go_simp; with_reducible rfl)
        simp only [Act.put, List.setIfInBounds_toArray, List.set_cons_zero, List.set_cons_succ]
        refine wpAnyH_take (i := 2) (v := ?v2y17) rfl (by kernel_rfl) (by kernel_rfl) (by kernel_rfl) (fun _ _ _ h => h) (Or.inl ⟨by rfl, ?hy2y17⟩) hHeld ?rest2y17
        case hy2y17 => (intro w hSw; (try dsimp only at hSw); go_simp; with_reducible rfl)
        simp only [Act.put, List.setIfInBounds_toArray, List.set_cons_zero, List.set_cons_succ]
        refine wpAnyH_take (i := 3) (v := ?v3y18) rfl (by kernel_rfl) (by kernel_rfl) (by kernel_rfl) (fun _ _ _ h => h) (Or.inl ⟨by rfl, ?hy3y18⟩) hHeld ?rest3y18
        case hy3y18 => (intro w hSw; (try dsimp only at hSw); go_simp; with_reducible rfl)
        simp only [Act.put, List.setIfInBounds_toArray, List.set_cons_zero, List.set_cons_succ]
        refine wpAnyH_take (i := 4) (v := ?v4y19) rfl (by kernel_rfl) (by kernel_rfl) (by kernel_rfl) (fun _ _ _ h => h) (Or.inl ⟨by rfl, ?hy4y19⟩) hHeld ?rest4y19
        case hy4y19 => (intro w hSw; (try dsimp only at hSw); go_simp; with_reducible rfl)
        simp only [Act.put, List.setIfInBounds_toArray, List.set_cons_zero, List.set_cons_succ]
        refine wpAnyH_take (i := 6) (v := ?v6y20) rfl (by kernel_rfl) (by kernel_rfl) (by kernel_rfl) (fun _ _ _ h => h) (Or.inl ⟨by rfl, ?hy6y20⟩) hHeld ?rest6y20
        case hy6y20 => (intro w hSw; (try dsimp only at hSw); go_simp; with_reducible rfl)
        simp only [Act.put, List.setIfInBounds_toArray, List.set_cons_zero, List.set_cons_succ]
        refine wpAnyH_take (i := 7) (v := ?v7y21) rfl (by kernel_rfl) (by kernel_rfl) (by kernel_rfl) (fun _ _ _ h => h) (Or.inl ⟨by rfl, ?hy7y21⟩) hHeld ?rest7y21
        case hy7y21 => (intro w hSw; (try dsimp only at hSw); go_simp; with_reducible rfl)
        simp only [Act.put, List.setIfInBounds_toArray, List.set_cons_zero, List.set_cons_succ]
        refine wpAnyH_take (i := 8) (v := ?v8y22) rfl (by kernel_rfl) (by kernel_rfl) (by kernel_rfl) (fun _ _ _ h => h) (Or.inl ⟨by rfl, ?hy8y22⟩) hHeld ?rest8y22
        case hy8y22 => (intro w hSw; (try dsimp only at hSw); go_simp; with_reducible rfl)
        simp only [Act.put, List.setIfInBounds_toArray, List.set_cons_zero, List.set_cons_succ]
        refine wpAnyH_take (i := 9) (v := ?v9y23) rfl (by kernel_rfl) (by kernel_rfl) (by kernel_rfl) (fun _ _ _ h => h) (Or.inl ⟨by rfl, ?hy9y23⟩) hHeld ?rest9y23
        case hy9y23 => (intro w hSw; (try dsimp only at hSw); go_simp; with_reducible rfl)
        simp only [Act.put, List.setIfInBounds_toArray, List.set_cons_zero, List.set_cons_succ]
        refine wpAnyH_take (i := 10) (v := ?v10y24) rfl (by kernel_rfl) (by kernel_rfl) (by kernel_rfl) (fun _ _ _ h => h) (Or.inl ⟨by rfl, ?hy10y24⟩) hHeld ?rest10y24
        case hy10y24 => (intro w hSw; (try dsimp only at hSw); go_simp; with_reducible rfl)
        simp only [Act.put, List.setIfInBounds_toArray, List.set_cons_zero, List.set_cons_succ]
        refine wpAnyH_take (i := 11) (v := ?v11y25) rfl (by kernel_rfl) (by kernel_rfl) (by kernel_rfl) (fun _ _ _ h => h) (Or.inl ⟨by rfl, ?hy11y25⟩) hHeld ?rest11y25
        case hy11y25 => (intro w hSw; (try dsimp only at hSw); go_simp; with_reducible rfl)
        simp only [Act.put, List.setIfInBounds_toArray, List.set_cons_zero, List.set_cons_succ]
        refine wpAnyH_take (i := 13) (v := ?v13y26) rfl (by kernel_rfl) (by kernel_rfl) (by kernel_rfl) (fun _ _ _ h => h) (Or.inl ⟨by rfl, ?hy13y26⟩) hHeld ?rest13y26
        case hy13y26 => (intro w hSw; (try dsimp only at hSw); go_simp; with_reducible rfl)
        simp only [Act.put, List.setIfInBounds_toArray, List.set_cons_zero, List.set_cons_succ]
        refine wpAnyH_ready (rs := [5, 12]) (by kernel_rfl) (by simp) ?_
        refine AllReadyH.cons rfl (fun K hK => ?_) ?_
        · go_simp
          go_at_call 11
          refine (K11.out _ (by first | assumption | exact (Below.refl _ _).drew)).mono ?_
          rintro e w5 ⟨rfl, h5, o0, o1, f0, f1, x0, x1⟩
          try go_wp2_with fail
          refine hK.out _ _ ?_ (fun hHeld => ?_)
          · exact ⟨x0, x1⟩
          clear hK K
          try simp only [Act.put, List.setIfInBounds_toArray, List.set_cons_zero, List.set_cons_succ]
          refine wpAnyH_ready (rs := [12]) (by kernel_rfl) (by simp) ?_
          refine AllReadyH.cons rfl (fun K hK => ?_) ?_
          rotate_left
          · exact AllReadyH.nil
          go_simp
          refine hK.out _ _ ?_ (fun hHeld => ?_)
          · exact ⟨x0, x1⟩
          clear hK K
          try simp only [Act.put, List.setIfInBounds_toArray, List.set_cons_zero, List.set_cons_succ]
          refine wpAnyH_ready (rs := [14]) (by kernel_rfl) (by simp) ?_
          refine AllReadyH.cons rfl (fun K hK => ?_) ?_
          rotate_left
          · exact AllReadyH.nil
          go_simp
          go_at_call 13
          refine (K13.out _ (by first | assumption | exact (Below.refl _ _).drew)).mono ?_
          rintro e w6 ⟨rfl, h6, o0, o1, f0, f1, x0, x1⟩
          try go_wp2_with fail
          refine hK.out _ _ ?_ (fun hHeld => ?_)
          · exact ⟨x0, x1⟩
          clear hK K
          try simp only [Act.put, List.setIfInBounds_toArray, List.set_cons_zero, List.set_cons_succ]
          refine wpAnyH_take (i := 15) (v := ?v15y27) rfl (by kernel_rfl) (by kernel_rfl) (by kernel_rfl) (fun _ _ _ h => h) (Or.inl ⟨by rfl, ?hy15y27⟩) hHeld ?rest15y27
          case hy15y27 => (intro w hSw; (try dsimp only at hSw); go_simp; with_reducible rfl)
          simp only [Act.put, List.setIfInBounds_toArray, List.set_cons_zero, List.set_cons_succ]
          refine wpAnyH_ready (rs := [16]) (by kernel_rfl) (by simp) ?_
          refine AllReadyH.cons rfl (fun K hK => ?_) ?_
          rotate_left
          · exact AllReadyH.nil
          go_simp
          refine hK.out _ _ ?_ (fun hHeld => ?_)
          · exact ⟨(put_out hn2).trans x0, (put_out hn2).trans x1⟩
          clear hK K
          try simp only [Act.put, List.setIfInBounds_toArray, List.set_cons_zero, List.set_cons_succ]
          refine wpAnyH_done (by kernel_rfl) ?_ _
          have I7 := Lib.hid (FInv.put (h' := folds g n (t + 1)) (u := rv) (FB.out.keep h6) hsn (fun j => by
            rw [HV.out.1.1, HV.out.2.2, HV.out.1.2, HV.out.1.1, HV.out.2.1]
            show (if j = t % n then _ else _) = _
            by_cases e : j = t % n
            · rw [if_pos e, if_pos e, e]
            · rw [if_neg e, if_neg e]))
          unfold wlo whi at I7
          generalize (w6.setCell ⟨gw, s * 2, none⟩ (.int .u64 ((lo64 rv : Nat) : Int))).setCell ⟨gw, s * 2 + 1, none⟩ (.int .u64 ((hi64 rv : Nat) : Int)) = w7 at *
          clear o0 o1 f0 f1 x0 x1 h6 hHeld K11 K13 HV FB hr1 hr2 hws hwi
          go_wp2_with fail
          go_roundw
          case rel => exact ⟨t + 1, by omega, by go_num, I7.out⟩
          case measure => simp [intOf]; omega
        refine AllReadyH.cons rfl (fun K hK => ?_) AllReadyH.nil
        go_simp
        refine hK.out _ _ ?_ (fun hHeld => ?_)
        · exact ⟨x0, x1⟩
        clear hK K
        try simp only [Act.put, List.setIfInBounds_toArray, List.set_cons_zero, List.set_cons_succ]
        refine wpAnyH_ready (rs := [5]) (by kernel_rfl) (by simp) ?_
        refine AllReadyH.cons rfl (fun K hK => ?_) ?_
        rotate_left
        · exact AllReadyH.nil
        go_simp
        go_at_call 11
        refine (K11.out _ (by first | assumption | exact (Below.refl _ _).drew)).mono ?_
        rintro e w5 ⟨rfl, h5, o0, o1, f0, f1, x0, x1⟩
        try go_wp2_with fail
        refine hK.out _ _ ?_ (fun hHeld => ?_)
        · exact ⟨x0, x1⟩
        clear hK K
        try simp only [Act.put, List.setIfInBounds_toArray, List.set_cons_zero, List.set_cons_succ]
        refine wpAnyH_ready (rs := [14]) (by kernel_rfl) (by simp) ?_
        refine AllReadyH.cons rfl (fun K hK => ?_) ?_
        rotate_left
        · exact AllReadyH.nil
        go_simp
        go_at_call 13
        refine (K13.out _ (by first | assumption | exact (Below.refl _ _).drew)).mono ?_
        rintro e w6 ⟨rfl, h6, o0, o1, f0, f1, x0, x1⟩
        try go_wp2_with fail
        refine hK.out _ _ ?_ (fun hHeld => ?_)
        · exact ⟨x0, x1⟩
        clear hK K
        try simp only [Act.put, List.setIfInBounds_toArray, List.set_cons_zero, List.set_cons_succ]
        refine wpAnyH_take (i := 15) (v := ?v15y28) rfl (by kernel_rfl) (by kernel_rfl) (by kernel_rfl) (fun _ _ _ h => h) (Or.inl ⟨by rfl, ?hy15y28⟩) hHeld ?rest15y28
        case hy15y28 => (intro w hSw; (try dsimp only at hSw); go_simp; with_reducible rfl)
        simp only [Act.put, List.setIfInBounds_toArray, List.set_cons_zero, List.set_cons_succ]
        refine wpAnyH_ready (rs := [16]) (by kernel_rfl) (by simp) ?_
        refine AllReadyH.cons rfl (fun K hK => ?_) ?_
        rotate_left
        · exact AllReadyH.nil
        go_simp
        refine hK.out _ _ ?_ (fun hHeld => ?_)
        · exact ⟨(put_out hn2).trans x0, (put_out hn2).trans x1⟩
        clear hK K
        try simp only [Act.put, List.setIfInBounds_toArray, List.set_cons_zero, List.set_cons_succ]
        refine wpAnyH_done (by kernel_rfl) ?_ _
        have I7 := Lib.hid (FInv.put (h' := folds g n (t + 1)) (u := rv) (FB.out.keep h6) hsn (fun j => by
          rw [HV.out.1.1, HV.out.2.2, HV.out.1.2, HV.out.1.1, HV.out.2.1]
          show (if j = t % n then _ else _) = _
          by_cases e : j = t % n
          · rw [if_pos e, if_pos e, e]
          · rw [if_neg e, if_neg e]))
        unfold wlo whi at I7
        generalize (w6.setCell ⟨gw, s * 2, none⟩ (.int .u64 ((lo64 rv : Nat) : Int))).setCell ⟨gw, s * 2 + 1, none⟩ (.int .u64 ((hi64 rv : Nat) : Int)) = w7 at *
        clear o0 o1 f0 f1 x0 x1 h6 hHeld K11 K13 HV FB hr1 hr2 hws hwi
        go_wp2_with fail
        go_roundw
        case rel => exact ⟨t + 1, by omega, by go_num, I7.out⟩
        case measure => simp [intOf]; omega
    have Hlt := Lib.hid hlt
    have hya : By wr na (i * 16) 16 (fwd k x i) := by have := RA4.out i hlt; rw [Nat.zero_add] at this; exact this.keep HI.out.below NA4.out
    have hyb : By wr nb (i * 16) 16 (fwd k y i) := by have := RB4.out i hlt; rw [Nat.zero_add] at this; exact this.keep HI.out.below NB4.out
    have HYA := Lib.hid hya
    have HYB := Lib.hid hyb
    clear hya hyb
    go_wp2_with fail
    obtain ⟨zv, hzv⟩ : ∃ zv, zv = pt (fwd k x i) (fwd k y i) := ⟨_, rfl⟩
    obtain ⟨AX, hAX⟩ : ∃ A, A = (bts 16 (fwd k x i)).toArray := ⟨_, rfl⟩
    obtain ⟨AY, hAY⟩ : ∃ A, A = (bts 16 (fwd k y i)).toArray := ⟨_, rfl⟩
    obtain ⟨AZ, hAZ⟩ : ∃ A, A = (bts 16 zv).toArray := ⟨_, rfl⟩
    have HAX := Lib.hid hAX
    have HAY := Lib.hid hAY
    have HAZ := Lib.hid hAZ
    have K10 := Lib.hid (show ∀ W, Hid (Below wr.heap.size wr W) → Calls Tryd.prog 10 #[.agg AX, .agg AY] W fun e w' => e = .returned (.tuple #[.agg AZ, .bool true]) ∧ Hid (Below wr.heap.size wr w') ∧ Hid (Below W.heap.size W w') from by
      intro W hW
      rw [hAX, hAY, hAZ]
      refine (mul_yes (fwd k x i) (fwd k y i) (mt_lt _ _) (mt_lt _ _) W ((HG.out.keep B4.out HG.out.size5).keep (HI.out.below.trans (Below.mono hW.out HI.out.below.size)) (by have := B4.out.size; have := HG.out.size; omega))).mono ?_
      rintro e w' ⟨he, hb⟩
      exact ⟨by rw [hzv]; exact he, hW.out.trans (hb.mono hW.out.size), hb⟩)
    have HZV := Lib.hid hzv
    clear hzv hAX hAY hAZ
    have SK := Lib.hid (show ∀ W, Below wr.heap.size wr W → (fun W => W.rangeAt na (i * 16) (bts 16 (fwd k x i)) ∧ W.rangeAt nb (i * 16) (bts 16 (fwd k y i))) W from by
      intro W hW
      exact ⟨(HYA.out.keep hW (By.lt (by omega) HYA.out)).range, (HYB.out.keep hW (By.lt (by omega) HYB.out)).range⟩)
    refine wp_region_held_drew (S := fun W => W.rangeAt na (i * 16) (bts 16 (fwd k x i)) ∧ W.rangeAt nb (i * 16) (bts 16 (fwd k y i))) (by kernel_rfl) ?_ (fun hHeld => ?_)
    · exact SK.out _ (Below.refl _ _).drew
    refine wpAnyH_take (i := 0) (v := ?v0x1) rfl (by kernel_rfl) (by kernel_rfl) (by kernel_rfl) (fun _ _ _ h => h) (Or.inl ⟨by rfl, ?hy0x1⟩) hHeld ?rest0x1
    case hy0x1 => (intro w hSw; (try dsimp only at hSw); go_simp; with_reducible rfl)
    simp only [Act.put, List.setIfInBounds_toArray, List.set_cons_zero, List.set_cons_succ]
    refine wpAnyH_take (i := 1) (v := ?v1x2) rfl (by kernel_rfl) (by kernel_rfl) (by kernel_rfl) (fun _ _ _ h => h) (Or.inl ⟨by rfl, ?hy1x2⟩) hHeld ?rest1x2
    case hy1x2 => (intro w hSw; (try dsimp only at hSw); go_simp; with_reducible rfl)
    simp only [Act.put, List.setIfInBounds_toArray, List.set_cons_zero, List.set_cons_succ]
    refine wpAnyH_take (i := 2) (v := ?v2x3) rfl (by kernel_rfl) (by kernel_rfl) (by kernel_rfl) (fun _ _ _ h => h) (Or.inl ⟨by rfl, ?hy2x3⟩) hHeld ?rest2x3
    case hy2x3 => (intro w hSw; (try dsimp only at hSw); go_simp; with_reducible rfl)
    simp only [Act.put, List.setIfInBounds_toArray, List.set_cons_zero, List.set_cons_succ]
    refine wpAnyH_take (i := 3) rfl (by kernel_rfl) (by kernel_rfl) (by kernel_rfl) (fun _ _ _ h => h) (yields_load16 (by rfl) (.tmp 80) rfl na (i * 16) (fwd k x i) rfl (fun _ h => h.1) HAX.out) hHeld ?restl1
    simp only [Act.put, List.setIfInBounds_toArray, List.set_cons_zero, List.set_cons_succ]
    refine wpAnyH_take (i := 4) (v := ?v4x4) rfl (by kernel_rfl) (by kernel_rfl) (by kernel_rfl) (fun _ _ _ h => h) (Or.inl ⟨by rfl, ?hy4x4⟩) hHeld ?rest4x4
    case hy4x4 => (intro w hSw; (try dsimp only at hSw); go_simp; with_reducible rfl)
    simp only [Act.put, List.setIfInBounds_toArray, List.set_cons_zero, List.set_cons_succ]
    refine wpAnyH_take (i := 5) (v := ?v5x5) rfl (by kernel_rfl) (by kernel_rfl) (by kernel_rfl) (fun _ _ _ h => h) (Or.inl ⟨by rfl, ?hy5x5⟩) hHeld ?rest5x5
    case hy5x5 => (intro w hSw; (try dsimp only at hSw); go_simp; with_reducible rfl)
    simp only [Act.put, List.setIfInBounds_toArray, List.set_cons_zero, List.set_cons_succ]
    refine wpAnyH_take (i := 6) (v := ?v6x6) rfl (by kernel_rfl) (by kernel_rfl) (by kernel_rfl) (fun _ _ _ h => h) (Or.inl ⟨by rfl, ?hy6x6⟩) hHeld ?rest6x6
    case hy6x6 => (intro w hSw; (try dsimp only at hSw); go_simp; with_reducible rfl)
    simp only [Act.put, List.setIfInBounds_toArray, List.set_cons_zero, List.set_cons_succ]
    refine wpAnyH_take (i := 7) rfl (by kernel_rfl) (by kernel_rfl) (by kernel_rfl) (fun _ _ _ h => h) (yields_load16 (by rfl) (.tmp 84) rfl nb (i * 16) (fwd k y i) rfl (fun _ h => h.2) HAY.out) hHeld ?restl2
    simp only [Act.put, List.setIfInBounds_toArray, List.set_cons_zero, List.set_cons_succ]
    refine wpAnyH_ready (rs := [8, 12]) (by kernel_rfl) (by simp) ?_
    refine AllReadyH.cons rfl (fun K hK => ?_) ?_
    · have HB0 := Lib.hid (Below.drew (Below.refl wr.heap.size wr))
      go_simp
      go_at_call 10
      refine (K10.out _ (by first | assumption | exact HB0.out)).mono ?_
      rintro e w6 ⟨rfl, h6, hb6⟩
      try go_wp2_with fail
      refine hK.out _ _ ?_ (fun hHeld => ?_)
      · exact SK.out _ h6.out
      clear hK K
      try simp only [Act.put, List.setIfInBounds_toArray, List.set_cons_zero, List.set_cons_succ]
      refine wpAnyH_take (i := 9) (v := ?v9x7) rfl (by kernel_rfl) (by kernel_rfl) (by kernel_rfl) (fun _ _ _ h => h) (Or.inl ⟨by rfl, ?hy9x7⟩) hHeld ?rest9x7
      case hy9x7 => (intro w hSw; (try dsimp only at hSw); go_simp; with_reducible rfl)
      simp only [Act.put, List.setIfInBounds_toArray, List.set_cons_zero, List.set_cons_succ]
      refine wpAnyH_take (i := 10) (v := ?v10x8) rfl (by kernel_rfl) (by kernel_rfl) (by kernel_rfl) (fun _ _ _ h => h) (Or.inl ⟨by rfl, ?hy10x8⟩) hHeld ?rest10x8
      case hy10x8 => (intro w hSw; (try dsimp only at hSw); go_simp; with_reducible rfl)
      simp only [Act.put, List.setIfInBounds_toArray, List.set_cons_zero, List.set_cons_succ]
      refine wpAnyH_take (i := 11) (v := ?v11x9) rfl (by kernel_rfl) (by kernel_rfl) (by kernel_rfl) (fun _ _ _ h => h) (Or.inl ⟨by rfl, ?hy11x9⟩) hHeld ?rest11x9
      case hy11x9 => (intro w hSw; (try dsimp only at hSw); go_simp; with_reducible rfl)
      simp only [Act.put, List.setIfInBounds_toArray, List.set_cons_zero, List.set_cons_succ]
      refine wpAnyH_ready (rs := [12]) (by kernel_rfl) (by simp) ?_
      refine AllReadyH.cons rfl (fun K hK => ?_) ?_
      rotate_left
      · exact AllReadyH.nil
      go_simp
      obtain ⟨wq, hwq⟩ : ∃ wq, wq = w6.alloc (.cells #[Value.int IntKind.u8 0, Value.int IntKind.u8 0, Value.int IntKind.u8 0, Value.int IntKind.u8 0, Value.int IntKind.u8 0, Value.int IntKind.u8 0, Value.int IntKind.u8 0, Value.int IntKind.u8 0, Value.int IntKind.u8 0, Value.int IntKind.u8 0, Value.int IntKind.u8 0, Value.int IntKind.u8 0, Value.int IntKind.u8 0, Value.int IntKind.u8 0, Value.int IntKind.u8 0, Value.int IntKind.u8 0] 30) := ⟨_, rfl⟩
      rw [← hwq]
      have h7 := Lib.hid (show Below wr.heap.size wr wq by rw [hwq]; exact Below.alloc h6.out (Below.size h6.out) _)
      have HZ6 := Lib.hid (show Sp wq w6.heap.size 0 by rw [hwq]; exact Sp.new (w0 := w6) rfl)
      clear hwq
      refine hK.out _ _ ?_ (fun hHeld => ?_)
      · exact SK.out _ h7.out
      clear hK K
      try simp only [Act.put, List.setIfInBounds_toArray, List.set_cons_zero, List.set_cons_succ]
      refine wpAnyH_ready (rs := [13]) (by kernel_rfl) (by simp) ?_
      refine AllReadyH.cons rfl (fun K hK => ?_) ?_
      rotate_left
      · exact AllReadyH.nil
      rw [if_pos (by rfl)]
      refine wp_store16 _ _ rfl (w6.heap.size) 0 zv rfl HAZ.out rfl HZ6.out ?_
      simp only [Act.put, List.setIfInBounds_toArray, List.set_cons_zero, List.set_cons_succ]
      obtain ⟨w9, hw9⟩ : ∃ w9, w9 = (wq).setCells (w6.heap.size) 0 (bts 16 zv) := ⟨_, rfl⟩
      rw [← hw9]
      have H9 := Lib.hid (show Below wr.heap.size wr w9 by rw [hw9]; exact Below.stored h7.out (Below.size h6.out))
      have C9 := Lib.hid (show By w9 w6.heap.size 0 16 zv by rw [hw9]; exact HZ6.out.stored zv)
      clear hw9
      refine hK.out _ _ ?_ (fun hHeld => ?_)
      · exact SK.out _ H9.out
      clear hK K
      try simp only [Act.put, List.setIfInBounds_toArray, List.set_cons_zero, List.set_cons_succ]
      refine wpAnyH_take (i := 14) (v := ?v14x10) rfl (by kernel_rfl) (by kernel_rfl) (by kernel_rfl) (fun _ _ _ h => h) (Or.inl ⟨by rfl, ?hy14x10⟩) hHeld ?rest14x10
      case hy14x10 => (intro w hSw; (try dsimp only at hSw); go_simp; with_reducible rfl)
      simp only [Act.put, List.setIfInBounds_toArray, List.set_cons_zero, List.set_cons_succ]
      refine wpAnyH_done (by kernel_rfl) ?_ _
      have h9 := H9.out
      have OWN := Lib.hid (show w9.ownsRow w4.heap.size 30 16 u9 i (bcells (fun i => pt (fwd k x i) (fwd k y i)) i) from HI.out.own.kept (row := none) ⟨h9.os, h9.tape, h9.output, h9.size, fun j hj _ => h9.block j hj⟩ (by cases hv : u9.ownBlock <;> simp))
      clear h9 hHeld
      go_wp2_with (first | ((with_reducible refine wpList_load16 ?_ (.tmp 11) ?_ (w6.heap.size) 0 zv ?_ C9.out ?_); rfl; rfl; rfl; rw [bts16]) | (at_builtin; go_must (refine wpList_append_own _ rfl (.tmp 89) (.tmp 91) 22 rfl w4.heap.size 30 i0 (.agg (Array.replicate 16 (.int .u8 0))) 16 16 Tryd.underlying22 I0.out.1 I0.out.2.1 I0.out.2.2.1 I0.out.2.2.2 rfl (by decide) u9 i _ rfl (OWN.out.alloc _) ⟨w9.heap.size, 0, none⟩ 1 1 [.int .u8 ((bt zv 0 : Nat) : Int), .int .u8 ((bt zv 1 : Nat) : Int), .int .u8 ((bt zv 2 : Nat) : Int), .int .u8 ((bt zv 3 : Nat) : Int), .int .u8 ((bt zv 4 : Nat) : Int), .int .u8 ((bt zv 5 : Nat) : Int), .int .u8 ((bt zv 6 : Nat) : Int), .int .u8 ((bt zv 7 : Nat) : Int), .int .u8 ((bt zv 8 : Nat) : Int), .int .u8 ((bt zv 9 : Nat) : Int), .int .u8 ((bt zv 10 : Nat) : Int), .int .u8 ((bt zv 11 : Nat) : Int), .int .u8 ((bt zv 12 : Nat) : Int), .int .u8 ((bt zv 13 : Nat) : Int), .int .u8 ((bt zv 14 : Nat) : Int), .int .u8 ((bt zv 15 : Nat) : Int)] rfl rfl (cell_bts_new _ zv _) (fun x hx => by simp at hx; rcases hx with rfl | rfl | rfl | rfl | rfl | rfl | rfl | rfl | rfl | rfl | rfl | rfl | rfl | rfl | rfl | rfl <;> rfl) (by unfold maxLen; omega) (by omega) (by have := HI.out.below.size; have := H9.out.size; simp; omega) ?_); intro v' wz h2 h3 h4; clear h4; have HN := Lib.hid (CInv.next HI.out H9.out (show wz.ownsRow w4.heap.size 30 16 v' (i + 1) (bcells (fun i => pt (fwd k x i) (fwd k y i)) (i + 1)) from by rw [bcells, ← HZV.out, bts16]; exact h2) h3); clear h2 h3))
      go_roundw
      case rel => exact ⟨i + 1, by omega, by go_num, HN.out⟩
      case measure => simp [intOf]; omega
    refine AllReadyH.cons rfl (fun K hK => ?_) AllReadyH.nil
    go_simp
    obtain ⟨wq, hwq⟩ : ∃ wq, wq = (wr.alloc (.cells #[Value.int IntKind.u8 0, Value.int IntKind.u8 0, Value.int IntKind.u8 0, Value.int IntKind.u8 0, Value.int IntKind.u8 0, Value.int IntKind.u8 0, Value.int IntKind.u8 0, Value.int IntKind.u8 0, Value.int IntKind.u8 0, Value.int IntKind.u8 0, Value.int IntKind.u8 0, Value.int IntKind.u8 0, Value.int IntKind.u8 0, Value.int IntKind.u8 0, Value.int IntKind.u8 0, Value.int IntKind.u8 0] 30)).drew := ⟨_, rfl⟩
    rw [← hwq]
    have HB0 := Lib.hid (show Below wr.heap.size wr wq by rw [hwq]; exact ((Below.refl _ wr).alloc (Nat.le_refl _) _).drew)
    have HQ := Lib.hid (show wr.heap.size < wq.heap.size by rw [hwq]; simp [World.drew])
    have HZ := Lib.hid (show Sp wq wr.heap.size 0 by rw [hwq]; exact (Sp.new (w0 := wr) rfl).keep (Below.refl (wr.heap.size + 1) _).drew (by omega))
    clear hwq
    refine hK.out _ _ ?_ (fun hHeld => ?_)
    · exact SK.out _ HB0.out
    clear hK K
    try simp only [Act.put, List.setIfInBounds_toArray, List.set_cons_zero, List.set_cons_succ]
    refine wpAnyH_ready (rs := [8]) (by kernel_rfl) (by simp) ?_
    refine AllReadyH.cons rfl (fun K hK => ?_) ?_
    rotate_left
    · exact AllReadyH.nil
    go_simp
    go_at_call 10
    refine (K10.out _ (by first | assumption | exact HB0.out)).mono ?_
    rintro e w6 ⟨rfl, h6, hb6⟩
    try go_wp2_with fail
    have HZ6 := Lib.hid (HZ.out.keep hb6.out HQ.out)
    refine hK.out _ _ ?_ (fun hHeld => ?_)
    · exact SK.out _ h6.out
    clear hK K
    try simp only [Act.put, List.setIfInBounds_toArray, List.set_cons_zero, List.set_cons_succ]
    refine wpAnyH_take (i := 9) (v := ?v9x11) rfl (by kernel_rfl) (by kernel_rfl) (by kernel_rfl) (fun _ _ _ h => h) (Or.inl ⟨by rfl, ?hy9x11⟩) hHeld ?rest9x11
    case hy9x11 => (intro w hSw; (try dsimp only at hSw); go_simp; with_reducible rfl)
    simp only [Act.put, List.setIfInBounds_toArray, List.set_cons_zero, List.set_cons_succ]
    refine wpAnyH_take (i := 10) (v := ?v10x12) rfl (by kernel_rfl) (by kernel_rfl) (by kernel_rfl) (fun _ _ _ h => h) (Or.inl ⟨by rfl, ?hy10x12⟩) hHeld ?rest10x12
    case hy10x12 => (intro w hSw; (try dsimp only at hSw); go_simp; with_reducible rfl)
    simp only [Act.put, List.setIfInBounds_toArray, List.set_cons_zero, List.set_cons_succ]
    refine wpAnyH_take (i := 11) (v := ?v11x13) rfl (by kernel_rfl) (by kernel_rfl) (by kernel_rfl) (fun _ _ _ h => h) (Or.inl ⟨by rfl, ?hy11x13⟩) hHeld ?rest11x13
    case hy11x13 => (intro w hSw; (try dsimp only at hSw); go_simp; with_reducible rfl)
    simp only [Act.put, List.setIfInBounds_toArray, List.set_cons_zero, List.set_cons_succ]
    refine wpAnyH_ready (rs := [13]) (by kernel_rfl) (by simp) ?_
    refine AllReadyH.cons rfl (fun K hK => ?_) ?_
    rotate_left
    · exact AllReadyH.nil
    rw [if_pos (by rfl)]
    refine wp_store16 _ _ rfl (wr.heap.size) 0 zv rfl HAZ.out rfl HZ6.out ?_
    simp only [Act.put, List.setIfInBounds_toArray, List.set_cons_zero, List.set_cons_succ]
    obtain ⟨w9, hw9⟩ : ∃ w9, w9 = (w6).setCells (wr.heap.size) 0 (bts 16 zv) := ⟨_, rfl⟩
    rw [← hw9]
    have H9 := Lib.hid (show Below wr.heap.size wr w9 by rw [hw9]; exact Below.stored h6.out (Nat.le_refl _))
    have C9 := Lib.hid (show By w9 wr.heap.size 0 16 zv by rw [hw9]; exact HZ6.out.stored zv)
    clear hw9
    refine hK.out _ _ ?_ (fun hHeld => ?_)
    · exact SK.out _ H9.out
    clear hK K
    try simp only [Act.put, List.setIfInBounds_toArray, List.set_cons_zero, List.set_cons_succ]
    refine wpAnyH_take (i := 14) (v := ?v14x14) rfl (by kernel_rfl) (by kernel_rfl) (by kernel_rfl) (fun _ _ _ h => h) (Or.inl ⟨by rfl, ?hy14x14⟩) hHeld ?rest14x14
    case hy14x14 => (intro w hSw; (try dsimp only at hSw); go_simp; with_reducible rfl)
    simp only [Act.put, List.setIfInBounds_toArray, List.set_cons_zero, List.set_cons_succ]
    refine wpAnyH_done (by kernel_rfl) ?_ _
    have h9 := H9.out
    have OWN := Lib.hid (show w9.ownsRow w4.heap.size 30 16 u9 i (bcells (fun i => pt (fwd k x i) (fwd k y i)) i) from HI.out.own.kept (row := none) ⟨h9.os, h9.tape, h9.output, h9.size, fun j hj _ => h9.block j hj⟩ (by cases hv : u9.ownBlock <;> simp))
    clear h9 hHeld
    go_wp2_with (first | ((with_reducible refine wpList_load16 ?_ (.tmp 11) ?_ (wr.heap.size) 0 zv ?_ C9.out ?_); rfl; rfl; rfl; rw [bts16]) | (at_builtin; go_must (refine wpList_append_own _ rfl (.tmp 89) (.tmp 91) 22 rfl w4.heap.size 30 i0 (.agg (Array.replicate 16 (.int .u8 0))) 16 16 Tryd.underlying22 I0.out.1 I0.out.2.1 I0.out.2.2.1 I0.out.2.2.2 rfl (by decide) u9 i _ rfl (OWN.out.alloc _) ⟨w9.heap.size, 0, none⟩ 1 1 [.int .u8 ((bt zv 0 : Nat) : Int), .int .u8 ((bt zv 1 : Nat) : Int), .int .u8 ((bt zv 2 : Nat) : Int), .int .u8 ((bt zv 3 : Nat) : Int), .int .u8 ((bt zv 4 : Nat) : Int), .int .u8 ((bt zv 5 : Nat) : Int), .int .u8 ((bt zv 6 : Nat) : Int), .int .u8 ((bt zv 7 : Nat) : Int), .int .u8 ((bt zv 8 : Nat) : Int), .int .u8 ((bt zv 9 : Nat) : Int), .int .u8 ((bt zv 10 : Nat) : Int), .int .u8 ((bt zv 11 : Nat) : Int), .int .u8 ((bt zv 12 : Nat) : Int), .int .u8 ((bt zv 13 : Nat) : Int), .int .u8 ((bt zv 14 : Nat) : Int), .int .u8 ((bt zv 15 : Nat) : Int)] rfl rfl (cell_bts_new _ zv _) (fun x hx => by simp at hx; rcases hx with rfl | rfl | rfl | rfl | rfl | rfl | rfl | rfl | rfl | rfl | rfl | rfl | rfl | rfl | rfl | rfl <;> rfl) (by unfold maxLen; omega) (by omega) (by have := HI.out.below.size; have := H9.out.size; simp; omega) ?_); intro v' wz h2 h3 h4; clear h4; have HN := Lib.hid (CInv.next HI.out H9.out (show wz.ownsRow w4.heap.size 30 16 v' (i + 1) (bcells (fun i => pt (fwd k x i) (fwd k y i)) (i + 1)) from by rw [bcells, ← HZV.out, bts16]; exact h2) h3); clear h2 h3))
    go_roundw
    case rel => exact ⟨i + 1, by omega, by go_num, HN.out⟩
    case measure => simp [intOf]; omega
end Go.Proofs.YtimihpddlinmbaaDoor
