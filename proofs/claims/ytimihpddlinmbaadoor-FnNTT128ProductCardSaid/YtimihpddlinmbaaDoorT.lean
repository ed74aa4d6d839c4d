/-
  The field of 128 bits: the transform (vector.go).
-/
import Derived.Test.YtimihpddlinmbaaDoorN
import Derived.Test.YtimihpddlinmbaaDoorV
import Derived.Test.YtimihpddlinmbaaDoorU
import Derived.Deep.RegionWith
import Derived.Laws.ShiftsVar
namespace Go.Proofs.YtimihpddlinmbaaDoor
open Go.RowKit
set_option linter.unusedVariables false
set_option linter.unusedSimpArgs false

theorem brev_lt : ∀ (k i : Nat), brev k i < 2 ^ k
  | 0, _ => by simp [brev]
  | k + 1, i => by
    have := brev_lt k (i / 2)
    have h2 : i % 2 = 0 ∨ i % 2 = 1 := by omega
    rw [Nat.pow_succ]
    unfold brev
    rcases h2 with h | h <;> rw [h] <;> omega

structure NttInv (w : World) (B vb n : Nat) (g : Nat → Nat) (wr : World) : Prop where
  below : Below B w wr
  size : w.heap.size ≤ wr.heap.size
  row : FRow wr vb n g

theorem NttInv.put {w wr wr1 w' : World} {B vb n x y : Nat} {g : Nat → Nat} (h : NttInv w B vb n g wr) (hB : B ≤ vb) (hBw : B ≤ w.heap.size) (h1 : Below wr.heap.size wr wr1) (hx : x < n) (h2 : Wr wr1 vb (x * 2) (lim y) w') :
    NttInv w B vb n (fun i => if i = x then y else g i) w' := by
  refine ⟨h.below.trans ((h1.mono (by have := h.size; omega)).trans (h2.keep hB (by have := h.size; have := h1.size; omega))), by have := h.size; have := h1.size; have := h2.size; omega, fun i hi => ?_⟩
  have h3 := (h.row i hi).1.keep h1 (h.row i hi).1.lt
  have h4 := (h.row i hi).2.keep h1 (h.row i hi).1.lt
  by_cases e : i = x
  · subst e
    simp only [if_true]
    exact ⟨El.of_wr h4 h2, Wt.of_wr h4 h2⟩
  · simp only [if_neg e]
    exact ⟨El.wr_out h2 (fun _ => by omega) h3, Wt.wr_out h2 (fun _ => by omega) h4⟩

theorem NttInv.cast {w wr : World} {B vb n : Nat} {g g' : Nat → Nat} (h : NttInv w B vb n g wr) (e : ∀ i, i < n → g i = g' i) : NttInv w B vb n g' wr :=
  ⟨h.below, h.size, fun i hi => by rw [← e i hi]; exact h.row i hi⟩

/-- As above, and the three variables of the call lie in blocks nb, nb + 1, nb + 2. -/
structure StInv (w : World) (B vb n nb : Nat) (g : Nat → Nat) (wr : World) : Prop extends NttInv w B vb n g wr where
  t : Wt wr nb 0
  u : Wt wr (nb + 1) 0
  v : Wt wr (nb + 2) 0

theorem StInv.start {w wr : World} {B vb n : Nat} {g : Nat → Nat} (h : NttInv w B vb n g wr) (hB : B ≤ w.heap.size) :
    StInv w B vb n wr.heap.size g (((wr.alloc (.cells #[Value.int IntKind.u64 0, Value.int IntKind.u64 0] 53)).alloc (.cells #[Value.int IntKind.u64 0, Value.int IntKind.u64 0] 53)).alloc (.cells #[Value.int IntKind.u64 0, Value.int IntKind.u64 0] 53)) := by
  have b1 : Below wr.heap.size wr (wr.alloc (.cells #[Value.int IntKind.u64 0, Value.int IntKind.u64 0] 53)) := (Below.refl _ wr).alloc (Nat.le_refl _) _
  have b2 := b1.alloc (by simp) (.cells #[Value.int IntKind.u64 0, Value.int IntKind.u64 0] 53)
  have b3 := b2.alloc (by simp; omega) (.cells #[Value.int IntKind.u64 0, Value.int IntKind.u64 0] 53)
  have hs := h.size
  refine ⟨⟨h.below.trans (b3.mono (by omega)), by simp; omega, h.row.keep' b3⟩, ?_, ?_, ?_⟩
  · exact Wt.past _ (Wt.past _ (Wt.box rfl))
  · exact Wt.past _ (Wt.box (by simp))
  · exact Wt.box (by simp)

theorem StInv.cast {w wr : World} {B vb n nb : Nat} {g g' : Nat → Nat} (h : StInv w B vb n nb g wr) (e : ∀ i, i < n → g i = g' i) : StInv w B vb n nb g' wr :=
  ⟨h.toNttInv.cast e, h.t, h.u, h.v⟩
theorem StInv.past {w wr wr1 : World} {B vb n nb : Nat} {g : Nat → Nat} (h : StInv w B vb n nb g wr) (hB : B ≤ w.heap.size) (h1 : Below wr.heap.size wr wr1) : StInv w B vb n nb g wr1 :=
  ⟨⟨h.below.trans (h1.mono (by have := h.size; omega)), by have := h.size; have := h1.size; omega, h.row.keep' h1⟩, h.t.keep h1 h.t.lt, h.u.keep h1 h.u.lt, h.v.keep h1 h.v.lt⟩
theorem StInv.putv {w wr w' : World} {B vb n nb x y : Nat} {g : Nat → Nat} (h : StInv w B vb n nb g wr) (hB : B ≤ vb) (hBw : B ≤ w.heap.size) (hnb : vb < nb) (hx : x < n) (h2 : Wr wr vb (x * 2) (lim y) w') : StInv w B vb n nb (fun i => if i = x then y else g i) w' :=
  ⟨h.toNttInv.put hB hBw (Below.refl _ _) hx h2, h.t.wr_out h2 (by omega), h.u.wr_out h2 (by omega), h.v.wr_out h2 (by omega)⟩
theorem StInv.setv {w wr w' : World} {B vb n nb q y : Nat} {g : Nat → Nat} (h : StInv w B vb n nb g wr) (hB : B ≤ nb) (hBw : B ≤ w.heap.size) (hnb : vb < nb) (hw : Wt wr (nb + q) 0) (h2 : Wr wr (nb + q) 0 (lim y) w') : StInv w B vb n nb g w' := by
  refine ⟨⟨h.below.trans (h2.keep (by omega) (by have := h.size; omega)), by have := h.size; have := h2.size; omega, fun i hi => ⟨(h.row i hi).1.wr_out h2 (by omega), (h.row i hi).2.wr_out h2 (by omega)⟩⟩, ?_, ?_, ?_⟩
  · by_cases e : q = 0
    · subst e; exact hw.of_wr h2
    · exact h.t.wr_out h2 (by omega)
  · by_cases e : q = 1
    · subst e; exact hw.of_wr h2
    · exact h.u.wr_out h2 (by omega)
  · by_cases e : q = 2
    · subst e; exact hw.of_wr h2
    · exact h.v.wr_out h2 (by omega)

theorem wrap_pow (l : Nat) (h : l < 7) : IntKind.u64.wrap ((2 : Int) ^ l) = ((2 ^ l : Nat) : Int) := by
  rcases l with _ | _ | _ | _ | _ | _ | _ | l <;> first | omega | rfl
theorem wrap_shl (j l : Nat) (hj : j < 64) (h : l < 6) : IntKind.u64.wrap ((j : Int) * (2 : Int) ^ (l + 1)) = ((j * (2 * 2 ^ l) : Nat) : Int) := by
  rw [IntKind.wrap_u64]
  rcases l with _ | _ | _ | _ | _ | _ | l <;> first | omega | (simp only [Nat.zero_add, Nat.reduceAdd, Int.reducePow, Nat.reducePow, Nat.reduceMul]; omega)

theorem blocks_of (k l n : Nat) (hl : l < k) (hn : n = 2 ^ k) : n = 2 ^ (k - (l + 1)) * (2 * 2 ^ l) := by
  rw [hn, ← Nat.pow_succ', ← Nat.pow_add]
  congr 1
  omega

set_option maxRecDepth 100000 in
set_option maxHeartbeats 1000000 in
theorem ntt_yes (k n vb ub cv cu B : Nat) (f g0 : Nat → Nat) (hk : k < 7) (hn : n = 2 ^ k) (hf : ∀ i, i < n → f i < P) (hB : 7 ≤ B) (hv : B ≤ vb) (hu : ub < B) (w : World) (hBw : B ≤ w.heap.size) (hg : Glob w) (hr : FRow w vb n g0) (hs : FRow w ub n f) :
    Calls Tryd.prog 17 #[.slice (some ⟨vb, 0, none⟩) n cv, .slice (some ⟨ub, 0, none⟩) n cu, .int .u64 (n : Int)] w fun e w' => e = .returned (.tuple #[]) ∧ FRow w' vb n (ntt k f) ∧ Below B w w' := by
  have hn64 : n ≤ 64 := by
    rw [hn]
    have : 2 ^ k ≤ 2 ^ 6 := Nat.pow_le_pow_right (by omega) (by omega)
    omega
  have HN := Lib.hid hn
  have HF := Lib.hid hf
  have HB := Lib.hid hB
  have HV := Lib.hid hv
  have HU := Lib.hid hu
  have HBw := Lib.hid hBw
  have HG := Lib.hid hg
  have HR := Lib.hid hr
  have HS := Lib.hid hs
  have Hk := Lib.hid hk
  have K := Lib.hid (next_yes k n hk hn w (hg.db k hk))
  clear hn hf hB hv hu hBw hg hr hs
  go_enter Tryd.func17, Tryd.ntmps17
  go_wp2_with fail
  refine K.out.mono ?_
  rintro e w' ⟨rfl, rfl⟩
  clear K
  go_wp2_with fail
  obtain ⟨w1, hw1⟩ : ∃ w1, w1 = w := ⟨_, rfl⟩
  have hi : NttInv w B vb n (upTo 0 (fun i => f (brev k i)) g0) w1 := by rw [hw1]; exact ⟨Below.refl _ _, Nat.le_refl _, fun i hi => by rw [upTo_ge (by omega)]; exact HR.out i hi⟩
  rw [← hw1]
  clear hw1
  go_loopw [34] (fun i wr => ∃ j : Nat, j ≤ n ∧ i = .int .i64 j ∧ NttInv w B vb n (upTo j (fun i => f (brev k i)) g0) wr) (fun i _ => n - (intOf i).toNat)
  case atStart => exact ⟨0, Nat.zero_le _, rfl, hi⟩
  case round =>
    obtain ⟨j, hj, rfl, hinv⟩ := hrel
    have HI := Lib.hid hinv
    clear hinv hi
    by_cases hlt : j < n
    · have Hlt := Lib.hid hlt
      have hbr := brev_lt k j
      rw [← HN.out] at hbr
      go_wp2_with fail
      refine (bitRev_yes k j Hk.out (by rw [← HN.out]; exact hlt) wr).mono ?_
      rintro e w' ⟨rfl, rfl⟩
      have hc : El wr ub (brev k j * 2) (f (brev k j)) := (HS.out (brev k j) hbr).1.keep HI.out.below HU.out
      obtain ⟨⟨⟨v, hv⟩, hfz⟩, ⟨v', hv'⟩, hfz'⟩ := (HI.out.row j hlt).2
      obtain ⟨hc, hc'⟩ := hc
      go_wp2_with fail
      go_roundw
      case rel =>
        refine ⟨j + 1, by omega, by go_num, (HI.out.put HV.out HBw.out (Below.refl _ _) hlt (Wr.two (Below.refl _ _) (HI.out.row j hlt).1.lt (Below.refl _ _))).cast fun i hi => ?_⟩
        by_cases e : i = j
        · subst e; rw [if_pos rfl, upTo_lt (by omega)]
        · rw [if_neg e]; unfold upTo
          by_cases e2 : i < j
          · rw [if_pos e2, if_pos (by omega)]
          · rw [if_neg e2, if_neg (by omega)]
      case measure => simp [intOf]; omega
    · obtain rfl : n = j := by omega
      have HI2 := Lib.hid (HI.out.cast (g' := fun i => f (brev k i)) fun i hi => upTo_lt hi)
      clear HI
      go_wp2_with fail
      obtain ⟨w2, hw2⟩ : ∃ w2, w2 = ((wr.alloc (.cells #[Value.int IntKind.u64 0, Value.int IntKind.u64 0] 53)).alloc (.cells #[Value.int IntKind.u64 0, Value.int IntKind.u64 0] 53)).alloc (.cells #[Value.int IntKind.u64 0, Value.int IntKind.u64 0] 53) := ⟨_, rfl⟩
      rw [← hw2]
      have hst : StInv w B vb n wr.heap.size (fun i => f (brev k i)) w2 := by rw [hw2]; exact StInv.start HI2.out HBw.out
      have HNB := Lib.hid (show vb < wr.heap.size ∧ B ≤ wr.heap.size from ⟨(HI2.out.row 0 (by rw [HN.out]; exact Nat.two_pow_pos k)).1.lt, by have := HI2.out.size; have := HBw.out; omega⟩)
      clear hw2
      obtain ⟨nb, hnb⟩ : ∃ nb, nb = wr.heap.size := ⟨_, rfl⟩
      rw [← hnb] at hst HNB ⊢
      clear hnb HI2 hlt hj
      go_loopw [14] (fun i wr => ∃ l : Nat, l ≤ k ∧ i = .int .u64 ((l : Int) + 1) ∧ StInv w B vb n nb (stages (fun i => f (brev k i)) l) wr) (fun i _ => k + 1 - (intOf i).toNat)
      case atStart => exact ⟨0, Nat.zero_le _, rfl, hst⟩
      case round =>
        obtain ⟨l, hl, rfl, hinv⟩ := hrel
        have HI := Lib.hid hinv
        clear hinv hst
        by_cases hlt : l < k
        · have Hlt := Lib.hid hlt
          have hdl : decide ((l : Int) + 1 ≤ (k : Int)) = true := by simp; omega
          have hwy := wrap_pow l (by omega)
          have hwc := wrap_pow (k - (l + 1)) (by omega)
          obtain ⟨y, hyd⟩ : ∃ y, y = 2 ^ l := ⟨_, rfl⟩
          obtain ⟨c, hcd⟩ : ∃ c, c = 2 ^ (k - (l + 1)) := ⟨_, rfl⟩
          have HY := Lib.hid (show Small y by rw [hyd]; exact small_pow l (by omega))
          have HC := Lib.hid (show n = c * (2 * y) by rw [hyd, hcd]; exact blocks_of k l n hlt HN.out)
          have HSH := Lib.hid (fun (j : Nat) (hj : j < 64) => wrap_shl j l hj (by omega))
          rw [← hyd] at hwy HSH
          rw [← hcd] at hwc
          obtain ⟨g, hgd⟩ : ∃ g, g = stages (fun i => f (brev k i)) l := ⟨_, rfl⟩
          have HGP := Lib.hid (show ∀ i, g i < P by rw [hgd]; exact stages_lt _ (fun i => HF.out _ (by rw [HN.out]; exact brev_lt k i)) l)
          have HGN := Lib.hid (show stages (fun i => f (brev k i)) (l + 1) = stage (l + 1) y g by rw [hgd, hyd]; rfl)
          rw [← hgd] at HI
          clear hyd hcd hgd
          have hc64 : c < 64 := by
            have h1 := HC.out
            have h2 := HY.out
            unfold Small at h2
            rcases h2 with h | h | h | h | h | h <;> rw [h] at h1 <;> omega
          have hy32 : y ≤ 32 := by have h2 := HY.out; unfold Small at h2; omega
          have hi3 : StInv w B vb n nb (part (l + 1) y 0 0 g) wr := HI.out.cast fun i _ => (part_start _ _ _ _).symm
          go_wp2_with fail
          (try simp only [hwy, hwc])
          clear hwy hwc HI
          obtain ⟨wo, hwo⟩ : ∃ wo, wo = wr := ⟨_, rfl⟩
          rw [← hwo] at hi3 ⊢
          clear hwo
          go_loopw [65] (fun i wr => ∃ j : Nat, j ≤ c ∧ i = .int .u64 j ∧ StInv w B vb n nb (part (l + 1) y 0 j g) wr) (fun i _ => c - (intOf i).toNat)
          case atStart => exact ⟨0, Nat.zero_le _, rfl, hi3⟩
          case round =>
            obtain ⟨j, hj, rfl, hinv⟩ := hrel
            have HI := Lib.hid hinv
            clear hinv hi3
            by_cases hltj : j < c
            · have hsh := HSH.out j (by omega)
              obtain ⟨x, hx⟩ : ∃ x, x = j * (2 * y) := ⟨_, rfl⟩
              rw [← hx] at hsh
              have hb2 : x + 0 < n ∧ x + 0 + y < n ∧ 0 < y := pair_lt x y j c n 0 HY.out HC.out hx hltj (Small.pos HY.out)
              simp only [Nat.add_zero] at hb2
              obtain ⟨hxn, hxyn, hy0⟩ := hb2
              have hpx : part (l + 1) y 0 j g x = g x := by have := part_at (l + 1) y 0 j g HY.out hy0; rwa [← hx] at this
              have hpy : part (l + 1) y 0 j g (x + y) = g (x + y) := by have := part_at' (l + 1) y 0 j g HY.out hy0; rwa [← hx] at this
              obtain ⟨z, hz⟩ : ∃ z, z = x + y := ⟨_, rfl⟩
              have hA0 : IntKind.u64.wrap (x : Int) = (x : Int) := by rw [IntKind.wrap_u64]; omega
              have hA1 : IntKind.u64.wrap ((x : Int) + (y : Int)) = (z : Int) := by rw [IntKind.wrap_u64]; omega
              rw [← hz] at hxyn hpy
              have hgx : El wr vb (x * 2) (g x) := by have := (HI.out.row x hxn).1; rwa [hpx] at this
              have hgy : El wr vb (z * 2) (g z) := by have := (HI.out.row z hxyn).1; rwa [hpy] at this
              have HPX := Lib.hid hpx
              have HPY := Lib.hid hpy
              have HGX := Lib.hid hgx
              have HGY := Lib.hid hgy
              have HX := Lib.hid hx
              have HZ := Lib.hid hz
              obtain ⟨hgx, hgx'⟩ := hgx
              clear hpx hpy hgy hx hz
              go_wp2_with fail
              obtain ⟨w3, hw3⟩ : ∃ w3, w3 = wr.alloc (.cells #[Value.int IntKind.u64 ((lo64 (g x) : Nat) : Int), Value.int IntKind.u64 ((hi64 (g x) : Nat) : Int)] 53) := ⟨_, rfl⟩
              rw [← hw3]
              have hb3 : Below wr.heap.size wr w3 := by rw [hw3]; exact (Below.refl _ wr).alloc (Nat.le_refl _) _
              have hu3 : El w3 wr.heap.size 0 (g x) := by rw [hw3]; exact El.box rfl rfl
              have hi3 := HI.out.past HBw.out hb3
              have hgy3 := HGY.out.keep hb3 HGY.out.lt
              have hvl : vb < wr.heap.size := HGX.out.lt
              have K : Calls Tryd.prog 33 #[.pointer (some ⟨vb, x * 2, none⟩), .pointer (some ⟨wr.heap.size, 0, none⟩), .pointer (some ⟨vb, z * 2, none⟩)] w3.drew fun e w4 => e = .returned (.tuple #[]) ∧ Hid (StInv w B vb n nb (fun i => if i = x then ad (g x) (g z) else part (l + 1) y 0 j g i) w4 ∧ El w4 wr.heap.size 0 (g x) ∧ El w4 vb (z * 2) (g z)) := by
                refine (fpAdd (g x) (g z) vb (x * 2) wr.heap.size 0 vb (z * 2) (HGP.out _) (HGP.out _) w3.drew hu3 hgy3 (hi3.row x hxn).2).mono ?_
                rintro e w4 ⟨he, h4⟩
                exact ⟨he, (hi3.past HBw.out (Below.refl _ _).drew).putv HV.out HBw.out HNB.out.1 hxn h4, El.wr_out (w := w3.drew) h4 (by omega) hu3, El.wr_out (w := w3.drew) h4 (by have := HZ.out; omega) hgy3⟩
              have K1 := Lib.hid K
              have HVL := Lib.hid hvl
              clear K hw3 hb3 hu3 hi3 hgy3 hgx hgx' hvl hsh
              go_region_with (go_at_call 33; refine K1.out.mono ?_; rintro e w4 ⟨rfl, h4⟩)
              clear K1
              go_wp2_with fail
              have K2 : Calls Tryd.prog 34 #[.pointer (some ⟨vb, z * 2, none⟩), .pointer (some ⟨wr.heap.size, 0, none⟩), .pointer (some ⟨vb, z * 2, none⟩)] w4.drew fun e w5 => e = .returned (.tuple #[]) ∧ Hid (StInv w B vb n nb (part (l + 1) y 0 (j + 1) g) w5) := by
                refine (fpSub (g x) (g z) vb (z * 2) wr.heap.size 0 vb (z * 2) (HGP.out _) (HGP.out _) w4.drew h4.out.2.1 h4.out.2.2 (h4.out.1.row z hxyn).2).mono ?_
                rintro e w5 ⟨he, h5⟩
                refine ⟨he, ((h4.out.1.past HBw.out (Below.refl _ _).drew).putv HV.out HBw.out HNB.out.1 hxyn h5).cast fun i hi => ?_⟩
                have h6 := part_next (l + 1) y 0 j g i HY.out hy0
                simp only [Nat.add_zero] at h6
                rw [← HX.out, ← HZ.out] at h6
                rw [h6]
                rfl
              have K3 := Lib.hid K2
              clear K2 h4
              go_region_with (go_at_call 34; refine K3.out.mono ?_; rintro e w5 ⟨rfl, h5⟩)
              clear K3
              go_wp2_with fail
              go_roundw
              case rel => exact ⟨j + 1, by omega, by go_num, h5.out⟩
              case measure => simp [intOf]; omega
            · obtain rfl : c = j := by omega
              have HI2 := Lib.hid (HI.out.cast (g' := part (l + 1) y 1 0 g) fun i hi => part_row (l + 1) y 0 c n g i HY.out HC.out hi)
              clear HI
              go_wp2_with fail
              refine (setOne (nb + 1) 0 wr (HG.out.keep HI2.out.below HB.out) HI2.out.u).mono ?_
              rintro e w4 ⟨rfl, h4⟩
              have hi4 := HI2.out.setv (q := 1) HNB.out.2 HBw.out HNB.out.1 HI2.out.u h4
              have hw4 : El w4 (nb + 1) 0 (pw (l + 1) 0) := El.of_wr HI2.out.u h4
              have HI4 := Lib.hid hi4
              have HW4 := Lib.hid hw4
              clear h4 hi4 hw4 HI2
              go_wp2_with fail
              have K := setRoot (l + 1) (nb + 2) 0 (by have := Hlt.out; have := Hk.out; omega) w4 (HG.out.keep HI4.out.below HB.out) HI4.out.v
              simp only [Int.natCast_add, Int.natCast_one] at K
              refine K.mono ?_
              rintro e w5 ⟨rfl, h5⟩
              clear K
              have hi5 := HI4.out.setv (q := 2) HNB.out.2 HBw.out HNB.out.1 HI4.out.v h5
              have hw5 : El w5 (nb + 1) 0 (pw (l + 1) 0) := HW4.out.wr_out h5 (by omega)
              have hv5 : El w5 (nb + 2) 0 (root (l + 1)) := El.of_wr HI4.out.v h5
              clear h5 HI4 HW4
              go_wp2_with fail
              obtain ⟨wo, hwo⟩ : ∃ wo, wo = w5 := ⟨_, rfl⟩
              rw [← hwo] at hi5 hw5 hv5 ⊢
              clear hwo
              go_loopw [20] (fun i wr => ∃ i' : Nat, i' + 1 ≤ y ∧ i = .int .u64 ((i' : Int) + 1) ∧ StInv w B vb n nb (part (l + 1) y (i' + 1) 0 g) wr ∧ El wr (nb + 1) 0 (pw (l + 1) i') ∧ El wr (nb + 2) 0 (root (l + 1))) (fun i _ => y - (intOf i).toNat)
              case atStart => exact ⟨0, Small.pos HY.out, rfl, hi5, hw5, hv5⟩
              case round =>
                obtain ⟨i', hi', rfl, hinv, hpw, hrt⟩ := hrel
                have HI := Lib.hid hinv
                have HPW := Lib.hid hpw
                have HRT := Lib.hid hrt
                clear hinv hpw hrt hi5 hw5 hv5
                by_cases hlti : i' + 1 < y
                · have hd4 : decide ((i' : Int) + 1 < (y : Int)) = true := by simp; omega
                  have Hlti := Lib.hid hlti
                  go_wp2_with fail
                  refine (fpMulAssign (pw (l + 1) i') (root (l + 1)) (nb + 1) 0 (nb + 2) 0 (pw_lt _ _ root_lt) (root_lt _) wr HPW.out HRT.out HI.out.u).mono ?_
                  rintro e w3 ⟨rfl, h3⟩
                  have hi6 := HI.out.setv (q := 1) HNB.out.2 HBw.out HNB.out.1 HI.out.u h3
                  have hw6 : El w3 (nb + 1) 0 (pw (l + 1) (i' + 1)) := El.of_wr HI.out.u h3
                  have hv6 : El w3 (nb + 2) 0 (root (l + 1)) := HRT.out.wr_out h3 (by omega)
                  clear h3 HI HPW HRT
                  go_wp2_with fail
                  obtain ⟨wo2, hwo⟩ : ∃ wo2, wo2 = w3 := ⟨_, rfl⟩
                  rw [← hwo] at hi6 hw6 hv6 ⊢
                  clear hwo
                  go_loopw [107] (fun jv wr => ∃ j : Nat, j ≤ c ∧ jv = .int .u64 j ∧ StInv w B vb n nb (part (l + 1) y (i' + 1) j g) wr ∧ El wr (nb + 1) 0 (pw (l + 1) (i' + 1)) ∧ El wr (nb + 2) 0 (root (l + 1))) (fun jv _ => c - (intOf jv).toNat)
                  case atStart => exact ⟨0, Nat.zero_le _, rfl, hi6, hw6, hv6⟩
                  case round =>
                    obtain ⟨j, hj, rfl, hinv, hpw, hrt⟩ := hrel
                    have HI := Lib.hid hinv
                    have HPW := Lib.hid hpw
                    have HRT := Lib.hid hrt
                    clear hinv hpw hrt hi6 hw6 hv6
                    by_cases hltj : j < c
                    · have hsh := HSH.out j (by omega)
                      obtain ⟨x, hx⟩ : ∃ x, x = j * (2 * y) := ⟨_, rfl⟩
                      rw [← hx] at hsh
                      obtain ⟨hpn, hzn, hy0⟩ := pair_lt x y j c n (i' + 1) HY.out HC.out hx hltj Hlti.out
                      have hpx := part_at (l + 1) y (i' + 1) j g HY.out Hlti.out
                      have hpy := part_at' (l + 1) y (i' + 1) j g HY.out Hlti.out
                      have HNX := Lib.hid (fun i => part_next (l + 1) y (i' + 1) j g i HY.out Hlti.out)
                      rw [← hx] at hpx hpy HNX
                      obtain ⟨p, hp⟩ : ∃ p, p = x + (i' + 1) := ⟨_, rfl⟩
                      rw [← hp] at hpx hpy HNX hpn hzn
                      obtain ⟨z, hz⟩ : ∃ z, z = p + y := ⟨_, rfl⟩
                      rw [← hz] at hpy HNX hzn
                      have hgx : El wr vb (p * 2) (g p) := by have := (HI.out.row p hpn).1; rwa [hpx] at this
                      have hgz : El wr vb (z * 2) (g z) := by have := (HI.out.row z hzn).1; rwa [hpy] at this
                      have hA1 : (x : Int) + ((i' : Int) + 1) = (p : Int) := by omega
                      have hA2 : (p : Int) + (y : Int) = (z : Int) := by omega
                      have HPZ := Lib.hid (show p ≠ z by omega)
                      have HGX := Lib.hid hgx
                      have HGZ := Lib.hid hgz
                      obtain ⟨hgx, hgx'⟩ := hgx
                      clear hpx hpy hgz hx hp hz hy0
                      go_wp2_with fail
                      obtain ⟨w4, hw4⟩ : ∃ w4, w4 = wr.alloc (.cells #[Value.int IntKind.u64 ((lo64 (g p) : Nat) : Int), Value.int IntKind.u64 ((hi64 (g p) : Nat) : Int)] 53) := ⟨_, rfl⟩
                      rw [← hw4]
                      have hb4 : Below wr.heap.size wr w4 := by rw [hw4]; exact (Below.refl _ wr).alloc (Nat.le_refl _) _
                      have hu4 : El w4 wr.heap.size 0 (g p) := by rw [hw4]; exact El.box rfl rfl
                      have hi4 := HI.out.past HBw.out hb4
                      have hgz4 := HGZ.out.keep hb4 HGZ.out.lt
                      have hpw4 := HPW.out.keep hb4 HPW.out.lt
                      have hrt4 := HRT.out.keep hb4 HRT.out.lt
                      have hvl : vb < wr.heap.size := HGX.out.lt
                      have hnl : nb + 2 < wr.heap.size := HRT.out.lt
                      have HVL := Lib.hid hvl
                      have HNL := Lib.hid hnl
                      clear hw4 hb4 hgx hgx' hvl hnl hsh
                      refine (fpMul (pw (l + 1) (i' + 1)) (g z) nb 0 (nb + 1) 0 vb (z * 2) (pw_lt _ _ root_lt) (HGP.out _) w4 hpw4 hgz4 hi4.t).mono ?_
                      rintro e w5 ⟨rfl, h5⟩
                      have hi5 := hi4.setv (q := 0) HNB.out.2 HBw.out HNB.out.1 hi4.t h5
                      have ht5 : El w5 nb 0 (tw (l + 1) (i' + 1) (g z)) := by
                        have e : tw (l + 1) (i' + 1) (g z) = mt (pw (l + 1) (i' + 1)) (g z) := if_neg (by omega)
                        rw [e]; exact El.of_wr hi4.t h5
                      have hu5 : El w5 wr.heap.size 0 (g p) := hu4.wr_out h5 (by have := HNL.out; omega)
                      have hgz5 : El w5 vb (z * 2) (g z) := hgz4.wr_out h5 (by have := HNB.out.1; omega)
                      have hpw5 : El w5 (nb + 1) 0 (pw (l + 1) (i' + 1)) := hpw4.wr_out h5 (by omega)
                      have hrt5 : El w5 (nb + 2) 0 (root (l + 1)) := hrt4.wr_out h5 (by omega)
                      clear h5 hi4 hu4 hgz4 hpw4 hrt4
                      go_wp2_with fail
                      have htl : tw (l + 1) (i' + 1) (g z) < P := by
                        have e : tw (l + 1) (i' + 1) (g z) = mt (pw (l + 1) (i' + 1)) (g z) := if_neg (by omega)
                        rw [e]; exact mt_lt _ _
                      have HTL := Lib.hid htl
                      clear htl
                      refine (fpAdd (g p) (tw (l + 1) (i' + 1) (g z)) vb (p * 2) wr.heap.size 0 nb 0 (HGP.out _) HTL.out w5 hu5 ht5 (hi5.row p hpn).2).mono ?_
                      rintro e w6 ⟨rfl, h6⟩
                      have hi6 := hi5.putv HV.out HBw.out HNB.out.1 hpn h6
                      have ht6 : El w6 nb 0 (tw (l + 1) (i' + 1) (g z)) := ht5.wr_out h6 (by have := HNB.out.1; omega)
                      have hu6 : El w6 wr.heap.size 0 (g p) := hu5.wr_out h6 (by have := HVL.out; omega)
                      have hpw6 : El w6 (nb + 1) 0 (pw (l + 1) (i' + 1)) := hpw5.wr_out h6 (by have := HNB.out.1; omega)
                      have hrt6 : El w6 (nb + 2) 0 (root (l + 1)) := hrt5.wr_out h6 (by have := HNB.out.1; omega)
                      clear h6 hi5 ht5 hu5 hgz5 hpw5 hrt5
                      go_wp2_with fail
                      refine (fpSub (g p) (tw (l + 1) (i' + 1) (g z)) vb (z * 2) wr.heap.size 0 nb 0 (HGP.out _) HTL.out w6 hu6 ht6 (hi6.row z hzn).2).mono ?_
                      rintro e w7 ⟨rfl, h7⟩
                      have hi7 : StInv w B vb n nb (part (l + 1) y (i' + 1) (j + 1) g) w7 := (hi6.putv HV.out HBw.out HNB.out.1 hzn h7).cast fun i hi => by rw [HNX.out i]
                      have hpw7 : El w7 (nb + 1) 0 (pw (l + 1) (i' + 1)) := hpw6.wr_out h7 (by have := HNB.out.1; omega)
                      have hrt7 : El w7 (nb + 2) 0 (root (l + 1)) := hrt6.wr_out h7 (by have := HNB.out.1; omega)
                      have HI7 := Lib.hid hi7
                      have HPW7 := Lib.hid hpw7
                      have HRT7 := Lib.hid hrt7
                      clear h7 hi6 ht6 hu6 hpw6 hrt6 hi7 hpw7 hrt7 hA1 hA2
                      go_wp2_with fail
                      go_roundw
                      case rel => exact ⟨j + 1, by omega, by go_num, HI7.out, HPW7.out, HRT7.out⟩
                      case measure => simp [intOf]; omega
                    · obtain rfl : c = j := by omega
                      have HI2 := Lib.hid (HI.out.cast (g' := part (l + 1) y (i' + 1 + 1) 0 g) fun i hi => part_row (l + 1) y (i' + 1) c n g i HY.out HC.out hi)
                      clear HI
                      go_wp2_with fail
                      go_roundw
                      case rel => exact ⟨i' + 1, by omega, by go_num, HI2.out, HPW.out, HRT.out⟩
                      case measure => simp [intOf]; omega
                · have hyi : y = i' + 1 := by omega
                  have HI2 := Lib.hid (show StInv w B vb n nb (stages (fun i => f (brev k i)) (l + 1)) wr by
                    rw [HGN.out]
                    exact HI.out.cast fun i hi => by rw [← hyi]; exact part_end (l + 1) y g i (Small.pos HY.out))
                  clear HI hyi
                  go_wp2_with fail
                  go_roundw
                  case rel => exact ⟨l + 1, by omega, by go_num, HI2.out⟩
                  case measure => simp [intOf]; omega
        · have hdl : decide ((l : Int) + 1 ≤ (k : Int)) = false := by simp; omega
          obtain rfl : k = l := by omega
          go_wp2_with fail
          go_end0
          exact ⟨rfl, HI.out.row, HI.out.below⟩
end Go.Proofs.YtimihpddlinmbaaDoor
