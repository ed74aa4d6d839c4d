/-
  The field of 128 bits: lists of elements out of lists of bytes, and back.
-/
import Derived.Test.YtimihpddlinmbaaDoorJ
import Derived.Test.YtimihpddlinmbaaDoorR
namespace Go.Proofs.YtimihpddlinmbaaDoor
open Go.RowKit
set_option linter.unusedVariables false
set_option linter.unusedSimpArgs false

/-- n elements as bytes, from place o of block b on. -/
def BRow (w : World) (b o n : Nat) (f : Nat → Nat) : Prop := ∀ i, i < n → By w b (o + i * 16) 16 (f i)
/-- n elements of the field, at the head of block b; they may be written. -/
def FRow (w : World) (b n : Nat) (f : Nat → Nat) : Prop := ∀ i, i < n → El w b (i * 2) (f i) ∧ Wt w b (i * 2)

theorem BRow.keep {w w' : World} {B b o n : Nat} {f : Nat → Nat} (h : Below B w w') (hb : b < B) (he : BRow w b o n f) : BRow w' b o n f := fun i hi => (he i hi).keep h hb
theorem FRow.keep {w w' : World} {B b n : Nat} {f : Nat → Nat} (h : Below B w w') (hb : b < B) (he : FRow w b n f) : FRow w' b n f := fun i hi => ⟨(he i hi).1.keep h hb, (he i hi).2.keep h hb⟩

theorem FRow.keep' {w w' : World} {b n : Nat} {f : Nat → Nat} (h : Below w.heap.size w w') (he : FRow w b n f) : FRow w' b n f := fun i hi => ⟨(he i hi).1.keep h (he i hi).1.lt, (he i hi).2.keep h (he i hi).1.lt⟩
theorem Wt.past {w : World} {b o : Nat} (x : Obj) (h : Wt w b o) : Wt (w.alloc x) b o := h.keep ((Below.refl _ w).alloc (Nat.le_refl _) x) h.lt
theorem El.past {w : World} {b o v : Nat} (x : Obj) (h : El w b o v) : El (w.alloc x) b o v := h.keep ((Below.refl _ w).alloc (Nat.le_refl _) x) h.lt

/-- What holds at the head of round k: B the heap's size ahead of all, nb the new row. -/
structure ListInv (w : World) (nb n : Nat) (f : Nat → Nat) (k : Nat) (wr : World) : Prop where
  below : Below w.heap.size w wr
  size : nb < wr.heap.size
  done : ∀ i, i < k → El wr nb (i * 2) (f i)
  free : ∀ i, i < n → Wt wr nb (i * 2)

theorem ListInv.start {w : World} {n : Nat} {f : Nat → Nat} : ListInv w w.heap.size n f 0 (w.alloc (.cells (fpZeros n) 53)) := by
  refine ⟨(Below.refl _ w).alloc (Nat.le_refl _) _, by simp, fun i hi => by omega, fun i hi => ⟨⟨⟨_, box_cell rfl (fpZeros_get n (i * 2) (by omega))⟩, box_free rfl⟩, ⟨_, box_cell rfl (fpZeros_get n (i * 2 + 1) (by omega))⟩, box_free rfl⟩⟩

theorem ListInv.next {w wr wr1 w' : World} {nb n : Nat} {f : Nat → Nat} {k : Nat} (h : ListInv w nb n f k wr) (hnb : w.heap.size ≤ nb) (hk : k < n) (h1 : Below wr.heap.size wr wr1) (h2 : Wr wr1 nb (k * 2) (lim (f k)) w') : ListInv w nb n f (k + 1) w' := by
  have hw1 : Wt wr1 nb (k * 2) := (h.free k hk).keep h1 h.size
  refine ⟨h.below.trans ((h1.mono (by have := h.below.size; omega)).trans (h2.keep hnb (by have := h.below.size; have := h1.size; omega))), by have := h.size; have := h1.size; have := h2.size; omega, fun i hi => ?_, fun i hi => ?_⟩
  · by_cases e : i = k
    · subst e; exact El.of_wr hw1 h2
    · exact El.wr_out h2 (fun _ => by omega) ((h.done i (by omega)).keep h1 h.size)
  · by_cases e : i = k
    · subst e; exact Wt.of_wr hw1 h2
    · exact Wt.wr_out h2 (fun _ => by omega) ((h.free i hi).keep h1 h.size)

set_option maxRecDepth 100000 in
set_option maxHeartbeats 1000000 in
theorem list_yes (n b o cp : Nat) (f : Nat → Nat) (hn : n ≤ 4096) (hf : ∀ i, i < n → f i < P) (w : World) (hg : Glob w) (hr : BRow w b o n f) (hbl : 0 < n → b < w.heap.size) :
    Calls Tryd.prog 15 #[.slice (some ⟨b, o, none⟩) n cp] w fun e w' => e = .returned (.tuple #[.slice (some ⟨w.heap.size, 0, none⟩) n n, .bool true]) ∧ FRow w' w.heap.size n (fun i => mt (f i) rsq) ∧ Below w.heap.size w w' := by
  have mk := fun w => make43 n hn w
  have HF := Lib.hid hf
  have HG := Lib.hid hg
  have HR := Lib.hid hr
  have HB := Lib.hid hbl
  clear hf hg hr hbl
  go_enter Tryd.func15, Tryd.ntmps15
  go_wp2_with fail
  have hi := @ListInv.start w n (fun i => mt (f i) rsq)
  clear mk
  generalize w.alloc (.cells (fpZeros n) 53) = w1 at *
  go_loopw [13] (fun i wr => ∃ k : Nat, k ≤ n ∧ i = .int .i64 k ∧ ListInv w w.heap.size n (fun i => mt (f i) rsq) k wr) (fun i _ => n - (intOf i).toNat)
  case atStart => exact ⟨0, Nat.zero_le _, rfl, hi⟩
  case round =>
    obtain ⟨k, hk, rfl, hinv⟩ := hrel
    have HI := Lib.hid hinv
    clear hinv hi
    by_cases hlt : k < n
    · have hB := HB.out (by omega)
      have hy : By wr b (o + k * 16) 16 (f k) := (HR.out k hlt).keep HI.out.below hB
      have HY := Lib.hid hy
      have HB1 := Lib.hid hB
      have Hlt := Lib.hid hlt
      clear hy hB
      go_wp2_with ((with_reducible refine wpList_load16 ?_ (.tmp 19) ?_ b (o + k * 16) (f k) ?_ HY.out ?_); rfl; rfl; rfl)
      have K := of_yes (f k) (HF.out k hlt) wr (HG.out.keep HI.out.below HG.out.size5)
      refine K.mono ?_
      rintro e w2 ⟨rfl, hb2⟩
      have hw2 : Wt w2 w.heap.size (k * 2) := (HI.out.free k hlt).keep hb2 HI.out.size
      have B2 := Lib.hid hb2
      have hw3 := hw2.past (.cells #[Value.int IntKind.u64 ((lo64 (mt (f k) rsq) : Nat) : Int), Value.int IntKind.u64 ((hi64 (mt (f k) rsq) : Nat) : Int)] 53)
      obtain ⟨⟨⟨v, hc⟩, hf⟩, ⟨u, hc'⟩, hf'⟩ := hw3
      clear K hb2 hw2
      unfold lim
      go_wp2_with fail
      go_roundw
      case rel =>
        refine ⟨k + 1, by omega, by go_num, HI.out.next (Nat.le_refl _) hlt (B2.out.alloc B2.out.size (.cells #[Value.int IntKind.u64 ((lo64 (mt (f k) rsq) : Nat) : Int), Value.int IntKind.u64 ((hi64 (mt (f k) rsq) : Nat) : Int)] 53)) (Wr.two (Below.refl _ _) (by have := HI.out.size; have := B2.out.size; simp; omega) (Below.refl _ _))⟩
      case measure => simp [intOf]; omega
    · go_wp2_with fail
      go_ret2
      obtain rfl : k = n := by omega
      exact ⟨rfl, fun i hi => ⟨HI.out.done i hi, HI.out.free i hi⟩, HI.out.below⟩

structure AllInv (w : World) (nb n : Nat) (f : Nat → Nat) (k : Nat) (wr : World) : Prop where
  below : Below w.heap.size w wr
  size : nb < wr.heap.size
  done : ∀ i, i < k → By wr nb (i * 16) 16 (f i)
  free : ∀ j, j < n * 16 → (∃ v, wr.cell? ⟨nb, j, none⟩ = some v) ∧ wr.frozen? ⟨nb, j, none⟩ = false

theorem AllInv.start {w : World} {n : Nat} {f : Nat → Nat} : AllInv w w.heap.size n f 0 (w.alloc (.cells (byZeros n) 30)) := by
  refine ⟨(Below.refl _ w).alloc (Nat.le_refl _) _, by simp, fun i hi => by omega, fun i hi => ⟨⟨_, box_cell rfl (byZeros_get n i hi)⟩, box_free rfl⟩⟩

theorem AllInv.next {w wr wr1 : World} {nb n : Nat} {f : Nat → Nat} {k : Nat} (h : AllInv w nb n f k wr) (hnb : w.heap.size ≤ nb) (hk : k < n) (h1 : Below wr.heap.size wr wr1) : AllInv w nb n f (k + 1) (wr1.setCells nb (k * 16) (bts 16 (f k))) := by
  have hl : (bts 16 (f k)).length = 16 := by simp [bts]
  have hc : ∀ j, j < n * 16 → (∃ v, wr1.cell? ⟨nb, j, none⟩ = some v) ∧ wr1.frozen? ⟨nb, j, none⟩ = false := by
    intro j hj
    rw [h1.cell h.size, h1.frozen h.size]; exact h.free j hj
  have hin : ∀ j, j < (bts 16 (f k)).length → (wr1.cell? ⟨nb, k * 16 + j, none⟩).isSome = true := by
    intro j hj
    obtain ⟨⟨v, hv⟩, _⟩ := hc (k * 16 + j) (by omega)
    rw [hv]; rfl
  have r := setCells_rest nb (bts 16 (f k)) (k * 16) wr1
  have hs := size_setCells nb (bts 16 (f k)) (k * 16) wr1
  refine ⟨h.below.trans ((h1.mono h.below.size).trans ⟨r.1, r.2.1, r.2.2, by rw [hs]; exact Nat.le_refl _, fun i hi => heap_setCells _ _ _ _ _ (by omega)⟩), by have := h.size; have := h1.size; omega, fun i hi j hj => ?_, fun j hj => ?_⟩
  · by_cases e : i = k
    · subst e
      rw [World.cell?_setCells_in _ _ _ _ hin j (by omega)]
      simp [bts]
    · rw [World.cell?_setCells_out _ _ _ _ _ (fun _ _ => by left; show i * 16 + j < k * 16; omega), h1.cell h.size]
      exact h.done i (by omega) j hj
  · rw [World.frozen?_setCells]
    refine ⟨?_, (hc j hj).2⟩
    by_cases e : k * 16 ≤ j ∧ j < k * 16 + 16
    · have := World.cell?_setCells_in nb (bts 16 (f k)) (k * 16) wr1 hin (j - k * 16) (by omega)
      rw [show k * 16 + (j - k * 16) = j by omega] at this
      exact ⟨_, this⟩
    · rw [World.cell?_setCells_out _ _ _ _ _ (fun _ _ => by show j < k * 16 ∨ k * 16 + (bts 16 (f k)).length ≤ j; omega)]
      exact (hc j hj).1

set_option maxRecDepth 100000 in
set_option maxHeartbeats 1000000 in
theorem all_yes (n b cp : Nat) (f : Nat → Nat) (hn : n ≤ 4096) (hf : ∀ i, i < n → f i < P) (w : World) (hr : ∀ i, i < n → El w b (i * 2) (f i)) :
    Calls Tryd.prog 18 #[.slice (some ⟨b, 0, none⟩) n cp] w fun e w' => e = .returned (.slice (some ⟨w.heap.size, 0, none⟩) n n) ∧ BRow w' w.heap.size 0 n (fun i => mt (f i) 1) ∧ Below w.heap.size w w' := by
  have mk := fun w => make22 n hn w
  have HF := Lib.hid hf
  have HR := Lib.hid hr
  clear hf hr
  go_enter Tryd.func18, Tryd.ntmps18
  go_wp2_with fail
  have hi := @AllInv.start w n (fun i => mt (f i) 1)
  clear mk
  generalize w.alloc (.cells (byZeros n) 30) = w1 at *
  go_loopw [10] (fun i wr => ∃ k : Nat, k ≤ n ∧ i = .int .i64 k ∧ AllInv w w.heap.size n (fun i => mt (f i) 1) k wr) (fun i _ => n - (intOf i).toNat)
  case atStart => exact ⟨0, Nat.zero_le _, rfl, hi⟩
  case round =>
    obtain ⟨k, hk, rfl, hinv⟩ := hrel
    have HI := Lib.hid hinv
    clear hinv hi
    by_cases hlt : k < n
    · have hc : El wr b (k * 2) (f k) := (HR.out k hlt).keep HI.out.below (HR.out k hlt).lt
      obtain ⟨hc, hc'⟩ := hc
      have Hlt := Lib.hid hlt
      go_wp2_with fail
      have K := told (f k) (HF.out k hlt) wr
      unfold lim at K
      obtain ⟨A, hA⟩ : ∃ A, A = (bts 16 (mt (f k) 1)).toArray := ⟨_, rfl⟩
      rw [← hA] at K
      have HA := Lib.hid hA
      clear hA
      refine K.mono ?_
      rintro e w2 ⟨rfl, hb2⟩
      have B2 := Lib.hid hb2
      have HQ := Lib.hid (show Sp w2 w.heap.size (k * 16) from fun j hj => by
        rw [hb2.cell (p := ⟨w.heap.size, k * 16 + j, none⟩) HI.out.size, hb2.frozen (p := ⟨w.heap.size, k * 16 + j, none⟩) HI.out.size]; exact HI.out.free _ (by omega))
      clear K hb2 hc hc'
      go_wp2_with ((with_reducible refine wpList_store16 ?_ (.tmp 20) (.tmp 19) ?_ w.heap.size (k * 16) (mt (f k) 1) ?_ HA.out ?_ HQ.out ?_); rfl; rfl; rfl; rfl)
      go_roundw
      case rel =>
        exact ⟨k + 1, by omega, by go_num, HI.out.next (Nat.le_refl _) hlt B2.out⟩
      case measure => simp [intOf]; omega
    · go_wp2_with fail
      go_ret
      obtain rfl : k = n := by omega
      exact ⟨rfl, fun i hi => by rw [Nat.zero_add]; exact HI.out.done i hi, HI.out.below⟩
end Go.Proofs.YtimihpddlinmbaaDoor
