/-
  The field of 128 bits: a list times an element, the inverse of a power of two, and the thin package's functions over them.
-/
import Derived.Test.YtimihpddlinmbaaDoorL
namespace Go.Proofs.YtimihpddlinmbaaDoor
open Go.RowKit
set_option linter.unusedVariables false
set_option linter.unusedSimpArgs false

structure ScalInv (w : World) (B b n sb so : Nat) (f : Nat → Nat) (s k : Nat) (wr : World) : Prop where
  below : Below B w wr
  size : w.heap.size ≤ wr.heap.size
  row : FRow wr b n (upTo k (fun i => mt (f i) s) f)
  scal : El wr sb so s

theorem ScalInv.next {w wr w' : World} {B b n sb so : Nat} {f : Nat → Nat} {s k : Nat} (h : ScalInv w B b n sb so f s k wr) (hB : B ≤ b) (hBs : B ≤ w.heap.size) (hsb : sb ≠ b) (hk : k < n) (h2 : Wr wr b (k * 2) (lim (mt (f k) s)) w') : ScalInv w B b n sb so f s (k + 1) w' := by
  refine ⟨h.below.trans (h2.keep hB (by have := h.size; omega)), by have := h.size; have := h2.size; omega, fun i hi => ?_, El.wr_out h2 (fun e => absurd e hsb) h.scal⟩
  obtain ⟨h3, h4⟩ := h.row i hi
  by_cases e : i = k
  · subst e
    rw [upTo_lt (by omega)]
    exact ⟨El.of_wr h4 h2, Wt.of_wr h4 h2⟩
  · refine ⟨El.wr_out h2 (fun _ => by omega) ?_, Wt.wr_out h2 (fun _ => by omega) h4⟩
    by_cases e2 : i < k
    · rw [upTo_lt (by omega)]; rw [upTo_lt e2] at h3; exact h3
    · rw [upTo_ge (by omega)]; rw [upTo_ge e2] at h3; exact h3

set_option maxRecDepth 100000 in
set_option maxHeartbeats 1000000 in
theorem scalarMul (n b cp sb so s B : Nat) (f : Nat → Nat) (hn : n ≤ 4096) (hf : ∀ i, i < n → f i < P) (hs : s < P) (hsb : sb ≠ b) (hB : B ≤ b) (w : World) (hBs : B ≤ w.heap.size) (hr : FRow w b n f) (hc : El w sb so s) :
    Calls Tryd.prog 39 #[.slice (some ⟨b, 0, none⟩) n cp, .pointer (some ⟨sb, so, none⟩)] w fun e w' => e = .returned (.tuple #[]) ∧ FRow w' b n (fun i => mt (f i) s) ∧ Below B w w' := by
  have HF := Lib.hid hf
  have HS := Lib.hid hs
  have HSB := Lib.hid hsb
  have HB := Lib.hid hB
  have HBS := Lib.hid hBs
  have hi : ScalInv w B b n sb so f s 0 w := ⟨Below.refl _ _, Nat.le_refl _, fun i hi => by rw [upTo_ge (by omega)]; exact hr i hi, hc⟩
  clear hf hs hsb hr hc hB hBs
  go_enter Tryd.func39, Tryd.ntmps39
  go_wp2_with fail
  obtain ⟨w1, hw1⟩ : ∃ w1, w1 = w := ⟨_, rfl⟩
  rw [← hw1]
  have hi1 : ScalInv w B b n sb so f s 0 w1 := by rw [hw1]; exact hi
  clear hw1 hi
  go_loopw [7] (fun i wr => ∃ k : Nat, k ≤ n ∧ i = .int .i64 k ∧ ScalInv w B b n sb so f s k wr) (fun i _ => n - (intOf i).toNat)
  case atStart => exact ⟨0, Nat.zero_le _, rfl, hi1⟩
  case round =>
    obtain ⟨k, hk, rfl, hinv⟩ := hrel
    have HI := Lib.hid hinv
    clear hinv hi1
    by_cases hlt : k < n
    · have Hlt := Lib.hid hlt
      go_wp2_with fail
      have h3 := (HI.out.row k hlt).1
      rw [upTo_ge (by omega)] at h3
      refine (fpMulAssign (f k) s b (k * 2) sb so (HF.out k hlt) HS.out wr h3 HI.out.scal (HI.out.row k hlt).2).mono ?_
      rintro e w2 ⟨rfl, h2⟩
      have H2 := Lib.hid h2
      clear h2 h3
      go_wp2_with fail
      go_roundw
      case rel =>
        exact ⟨k + 1, by omega, by go_num, HI.out.next HB.out HBS.out HSB.out hlt H2.out⟩
      case measure => simp [intOf]; omega
    · go_wp2_with fail
      go_end0
      obtain rfl : k = n := by omega
      refine ⟨rfl, fun i hi => ?_, HI.out.below⟩
      have h3 := HI.out.row i hi
      rw [upTo_lt hi] at h3
      exact h3

/-- One half, multiplied k times onto one. -/
def invTwo : Nat → Nat
  | 0 => root 0
  | k + 1 => mt (invTwo k) half

theorem root_lt (l : Nat) : root l < P := by
  unfold root P
  rcases l with _ | _ | _ | _ | _ | _ | _ | l <;> simp
theorem half_lt : half < P := by unfold half P; omega
theorem invTwo_lt : ∀ k, invTwo k < P
  | 0 => root_lt 0
  | k + 1 => mt_lt _ _

set_option maxRecDepth 100000 in
set_option maxHeartbeats 1000000 in
theorem invTwoN (k b o : Nat) (hk : k ≤ 4096) (hb : 7 ≤ b) (w : World) (hg : Glob w) (ho : Wt w b o) :
    Calls Tryd.prog 40 #[.pointer (some ⟨b, o, none⟩), .int .u64 (k : Int)] w fun e w' => e = .returned (.tuple #[]) ∧ Wr w b o (lim (invTwo k)) w' := by
  have HG := Lib.hid hg
  have HO := Lib.hid ho
  have HB := Lib.hid hb
  clear hg ho hb
  go_enter Tryd.func40, Tryd.ntmps40
  go_wp2_with fail
  refine (setOne b o w HG.out HO.out).mono ?_
  rintro e w1 ⟨rfl, h1⟩
  go_wp2_with fail
  go_loopw [8] (fun i wr => ∃ j : Nat, j ≤ k ∧ i = .int .u64 j ∧ Wr w b o (lim (invTwo j)) wr) (fun i _ => k - (intOf i).toNat)
  case atStart => exact ⟨0, Nat.zero_le _, rfl, h1⟩
  case round =>
    obtain ⟨j, hj, rfl, hinv⟩ := hrel
    have HI := Lib.hid hinv
    clear hinv h1
    by_cases hlt : j < k
    · have Hlt := Lib.hid hlt
      have HG2 := Lib.hid (Glob.keep (HI.out.keep HB.out HG.out.size) (by omega) HG.out)
      obtain ⟨hh, hh'⟩ := HG2.out.half
      simp only [Nat.zero_add] at hh'
      go_wp2_with fail
      have hb2 : Below wr.heap.size wr (wr.alloc (.cells #[Value.int IntKind.u64 ((lo64 half : Nat) : Int), Value.int IntKind.u64 ((hi64 half : Nat) : Int)] 53)) := (Below.refl _ wr).alloc (Nat.le_refl _) _
      have hw := Wt.of_wr HO.out HI.out
      refine (fpMul (invTwo j) half b o b o wr.heap.size 0 (invTwo_lt j) half_lt _ ((El.of_wr HO.out HI.out).keep hb2 hw.lt) (El.box rfl rfl) (hw.keep hb2 hw.lt)).mono ?_
      rintro e w2 ⟨rfl, h2⟩
      have H2 := Lib.hid (Wr.again (vs := lim (invTwo j)) (us := lim (mt (invTwo j) half)) (lim_same _ _) HO.out.1.1.choose_spec HI.out (Wr.pre hb2 hw.lt h2))
      clear h2 hb2 hh hh' hw
      go_wp2_with fail
      go_roundw
      case rel => exact ⟨j + 1, by omega, by go_num, H2.out⟩
      case measure => simp [intOf]; omega
    · go_wp2_with fail
      go_end0
      obtain rfl : j = k := by omega
      exact ⟨rfl, HI.out⟩

set_option maxRecDepth 100000 in
set_option maxHeartbeats 1000000 in
theorem invTwo_yes (k : Nat) (hk : k ≤ 64) (w : World) (hg : Glob w) :
    Calls Tryd.prog 21 #[.int .u64 (k : Int)] w fun e w' => e = .returned (.agg (bts 16 (mt (invTwo k) 1)).toArray) ∧ Below w.heap.size w w' := by
  have HG := Lib.hid hg
  clear hg
  go_enter Tryd.func21, Tryd.ntmps21
  go_wp2_with fail
  obtain ⟨w1, hw1⟩ : ∃ w1, w1 = w.alloc (.cells z16 30) := ⟨_, rfl⟩
  have hb1 : Below w.heap.size w w1 := by rw [hw1]; exact (Below.refl _ w).alloc (Nat.le_refl _) _
  have hs1 : w1.heap.size = w.heap.size + 1 := by rw [hw1]; simp
  have hr1 : Sp w1 w.heap.size 0 := by rw [hw1]; exact Sp.new rfl
  unfold z16 at hw1
  rw [← hw1]
  clear hw1
  have hb2 : Below w.heap.size w (w1.alloc (.cells #[Value.int IntKind.u64 0, Value.int IntKind.u64 0] 53)) := hb1.alloc (by omega) _
  have hb2' : Below w1.heap.size w1 (w1.alloc (.cells #[Value.int IntKind.u64 0, Value.int IntKind.u64 0] 53)) := (Below.refl _ w1).alloc (Nat.le_refl _) _
  have ho : Wt (w1.alloc (.cells #[Value.int IntKind.u64 0, Value.int IntKind.u64 0] 53)) (w.heap.size + 1) 0 := Wt.box (by rw [hs1])
  refine (invTwoN k (w.heap.size + 1) 0 (by omega) (by have := HG.out.size; omega) _ (HG.out.keep hb2 HG.out.size5) ho).mono ?_
  rintro e w2 ⟨rfl, h2⟩
  obtain ⟨hc2, hc2'⟩ := El.of_wr ho h2
  simp only [Nat.zero_add] at hc2'
  have hb3 := hb2.trans (h2.keep (B := w.heap.size) (by omega) (by simp; omega))
  have hb3' := hb2'.trans (h2.keep (B := w1.heap.size) (by omega) (by simp))
  have B3 := Lib.hid hb3
  have B3' := Lib.hid hb3'
  have R1 := Lib.hid hr1
  clear hb1 hb2 hb2' ho h2 hb3 hb3' hr1
  go_wp2_with fail
  have K := told (invTwo k) (invTwo_lt k) w2
  obtain ⟨A, hA⟩ : ∃ A, A = (bts 16 (mt (invTwo k) 1)).toArray := ⟨_, rfl⟩
  rw [← hA] at K
  have HA := Lib.hid hA
  clear hA
  refine K.mono ?_
  rintro e w3 ⟨rfl, hb4⟩
  have HQ := Lib.hid (show Sp w3 w.heap.size 0 from R1.out.keep (B3'.out.trans (hb4.mono B3'.out.size)) R1.out.lt)
  have B4 := Lib.hid (B3.out.trans (hb4.mono B3.out.size))
  clear K hb4 hc2 hc2' hs1
  go_wp2_with ((with_reducible refine wpList_store16 ?_ (.tmp 2) (.tmp 10) ?_ w.heap.size 0 (mt (invTwo k) 1) ?_ HA.out ?_ HQ.out ?_); rfl; rfl; rfl; rfl)
  exact bodyPost_ret (results16 Tryd.results21 _ _ w.heap.size (mt (invTwo k) 1) rfl (HQ.out.stored _)) rfl ⟨rfl, Below.stored B4.out (Nat.le_refl _)⟩
end Go.Proofs.YtimihpddlinmbaaDoor
