/-
  The field of 128 bits: bytes out of elements.
-/
import Derived.Test.YtimihpddlinmbaaDoorI
namespace Go.Proofs.YtimihpddlinmbaaDoor
open Go.RowKit
set_option linter.unusedVariables false
set_option linter.unusedSimpArgs false

theorem By.of_wr {w w' : World} {b o x : Nat} (S : Nat) (ho : ∀ j, j < S → ∃ v, w.cell? ⟨b, o + j, none⟩ = some v) (hS : 0 < S) (h : Wr w b o (bts S x) w') : By w' b o S x := by
  intro j hj
  have hl : (bts S x).length = S := by simp [bts]
  obtain ⟨v, hv⟩ := ho 0 hS
  have := Wr.in h (fun i hi => by obtain ⟨v, hv⟩ := ho i (by omega); rw [hv]; rfl) (cell_lt hv) j (by omega)
  rw [this]
  simp [bts]

theorem index0 (v u : Value) (w : World) : (Instr.index 53 (.agg #[v, u]) (.int .i64 0)).run Tryd.prog w = .ok v w := by kernel_rfl
theorem index1 (v u : Value) (w : World) : (Instr.index 53 (.agg #[v, u]) (.int .i64 1)).run Tryd.prog w = .ok u w := by kernel_rfl

/-- Sixteen bytes of one's own. -/
structure Bx (w w2 : World) (n : Nat) : Prop where
  below : Below w.heap.size w w2
  cells : ∀ j, j < 16 → (∃ v, w2.cell? ⟨n, j, none⟩ = some v) ∧ w2.frozen? ⟨n, j, none⟩ = false
theorem Bx.lt {w w2 : World} {n : Nat} (h : Bx w w2 n) : n < w2.heap.size := by obtain ⟨⟨v, hv⟩, _⟩ := h.cells 0 (by omega); exact cell_lt hv
theorem Bx.keep {w w2 w3 : World} {n : Nat} (h : Bx w w2 n) (hb : Below w2.heap.size w2 w3) : Bx w w3 n :=
  ⟨h.below.trans (hb.mono h.below.size), fun j hj => by rw [hb.cell (p := ⟨n, j, none⟩) h.lt, hb.frozen (p := ⟨n, j, none⟩) h.lt]; exact h.cells j hj⟩
theorem Bx.wr {w w2 w3 : World} {n o x : Nat} (h : Bx w w2 n) (hn : w.heap.size ≤ n) (ho : o + 8 ≤ 16) (hw : Wr w2 n o (bts 8 x) w3) : Bx w w3 n ∧ By w3 n o 8 x := by
  have hy : By w3 n o 8 x := By.of_wr 8 (fun j hj => (h.cells (o + j) (by omega)).1) (by omega) hw
  refine ⟨⟨h.below.trans (hw.keep hn h.below.size), fun j hj => ⟨?_, ?_⟩⟩, hy⟩
  · by_cases e : o ≤ j ∧ j < o + 8
    · have := hy (j - o) (by omega)
      rw [show o + (j - o) = j by omega] at this
      exact ⟨_, this⟩
    · rw [Wr.out (p := ⟨n, j, none⟩) hw h.lt (fun _ => by show j < o ∨ o + (bts 8 x).length ≤ j; rw [bts_len]; omega)]
      exact (h.cells j hj).1
  · rw [Wr.frozen (p := ⟨n, j, none⟩) hw h.lt]; exact (h.cells j hj).2
theorem By.wr_out {w w' : World} {b o x u y : Nat} (S T : Nat) (h : Wr w b o (bts S x) w') (hd : u + T ≤ o ∨ o + S ≤ u) (hT : 0 < T) (he : By w b u T y) : By w' b u T y := by
  intro j hj
  rw [Wr.out (p := ⟨b, u + j, none⟩) h (he.lt hT) (fun _ => by show u + j < o ∨ o + (bts S x).length ≤ u + j; rw [bts_len]; omega)]
  exact he j hj

theorem z16_get (j : Nat) (hj : j < 16) : z16[j]? = some (Value.int IntKind.u8 0) := by
  unfold z16
  rcases j with _ | _ | _ | _ | _ | _ | _ | _ | _ | _ | _ | _ | _ | _ | _ | _ | j <;> first | rfl | omega

set_option maxRecDepth 100000 in
set_option maxHeartbeats 1000000 in
theorem zzBytes (x b o : Nat) (hp : x < P) (w : World) (h : El w b o x) :
    Calls Tryd.prog 43 #[.pointer (some ⟨b, o, none⟩)] w fun e w' => e = .returned (.slice (some ⟨w.heap.size, 0, none⟩) 16 16) ∧ By w' w.heap.size 0 16 (mt x 1) ∧ Below w.heap.size w w' := by
  have HP := Lib.hid hp
  have H := Lib.hid h
  clear hp h
  go_enter Tryd.func43, Tryd.ntmps43
  go_wp2_with fail
  have hx1 : Bx w (w.alloc (.cells z16 30)) w.heap.size := ⟨(Below.refl _ w).alloc (Nat.le_refl _) _, fun j hj => ⟨⟨_, box_cell rfl (z16_get j hj)⟩, box_free rfl⟩⟩
  unfold z16 at hx1
  generalize w.alloc (.cells #[Value.int IntKind.u8 0, Value.int IntKind.u8 0, Value.int IntKind.u8 0, Value.int IntKind.u8 0, Value.int IntKind.u8 0, Value.int IntKind.u8 0, Value.int IntKind.u8 0, Value.int IntKind.u8 0, Value.int IntKind.u8 0, Value.int IntKind.u8 0, Value.int IntKind.u8 0, Value.int IntKind.u8 0, Value.int IntKind.u8 0, Value.int IntKind.u8 0, Value.int IntKind.u8 0, Value.int IntKind.u8 0] 30) = w1 at *
  refine (fromMont x b o HP.out _ (El.keep hx1.below H.out.lt H.out)).mono ?_
  rintro e w2 ⟨rfl, hb2⟩
  have X2 := Lib.hid (hx1.keep hb2)
  clear hx1 hb2
  have hml : mt x 1 < W8 := by have := mt_lt x 1; unfold P at this; unfold W8; omega
  have hhi := hi64_small hml
  have K1 := Lib.hid (show ∀ W, Hid (Below w2.heap.size w2 W) → Calls Tryd.prog 58 #[.agg #[], .slice (some ⟨w.heap.size, 0, none⟩) 16 16, .int .u64 ((lo64 (mt x 1) : Nat) : Int)] W fun e w3 => e = .returned (.tuple #[]) ∧ Hid (Bx w w3 w.heap.size ∧ By w3 w.heap.size 0 8 (lo64 (mt x 1))) from by
    intro W hW
    have h3 := X2.out.keep hW.out
    refine (lePutUint64 (lo64 (mt x 1)) w.heap.size 0 16 16 (lo64_small _) (by omega) W (fun j hj => by rw [Nat.zero_add]; exact h3.cells j (by omega))).mono ?_
    rintro e w3 ⟨he, h4⟩
    exact ⟨he, h3.wr (Nat.le_refl _) (by omega) h4⟩)
  have HHI := Lib.hid hhi
  clear hml hhi
  have i0 := index0
  have i1 := index1
  have e0 : IntKind.i64.wrap 0 = 0 := rfl
  have e8 : IntKind.i64.wrap 8 = 8 := rfl
  unfold lim
  go_wp2_with fail
  refine wp_loop_rounds 3 ?_
  rw [rounds_succ]
  go_wp2_with fail
  go_region_with (go_at_call 58; refine (K1.out _ (by first | exact (Below.refl _ _) | exact (Below.refl _ _).drew | exact (Below.refl _ _).drew.drew)).mono ?_; rintro e w3 ⟨rfl, h3⟩)
  clear K1 X2
  have K2 := Lib.hid (show ∀ W, Hid (Below w3.heap.size w3 W) → Calls Tryd.prog 58 #[.agg #[], .slice (some ⟨w.heap.size, 8, none⟩) 8 8, .int .u64 ((hi64 (mt x 1) : Nat) : Int)] W fun e w4 => e = .returned (.tuple #[]) ∧ Hid (Below w.heap.size w w4 ∧ By w4 w.heap.size 0 16 (mt x 1)) from by
    intro W hW
    have h4 := h3.out.1.keep hW.out
    have hy4 := h3.out.2.keep hW.out h3.out.1.lt
    refine (lePutUint64 (hi64 (mt x 1)) w.heap.size 8 8 8 HHI.out (by omega) W (fun j hj => h4.cells (8 + j) (by omega))).mono ?_
    rintro e w4 ⟨he, h5⟩
    obtain ⟨h6, h7⟩ := h4.wr (Nat.le_refl _) (by omega) h5
    exact ⟨he, h6.below, By.both (hy4.wr_out 8 8 h5 (by omega) (by omega)) h7⟩)
  go_wp2_with fail
  rw [rounds_succ]
  go_wp2_with fail
  go_region_with (go_at_call 58; refine (K2.out _ (by first | exact (Below.refl _ _) | exact (Below.refl _ _).drew | exact (Below.refl _ _).drew.drew)).mono ?_; rintro e w4 ⟨rfl, h4⟩)
  clear K2
  go_wp2_with fail
  rw [rounds_succ]
  go_wp2_with fail
  go_ret
  exact ⟨rfl, h4.out.2, h4.out.1⟩

theorem arrayAt (a : Option Addr) (c : Nat) (w : World) : (Instr.arrayAt 30 (.slice a 16 c)).run Tryd.prog w = .ok (.pointer a) w := by kernel_rfl

theorem bts16 (x : Nat) : bts 16 x = [Value.int .u8 ((bt x 0 : Nat) : Int), Value.int .u8 ((bt x 1 : Nat) : Int), Value.int .u8 ((bt x 2 : Nat) : Int), Value.int .u8 ((bt x 3 : Nat) : Int), Value.int .u8 ((bt x 4 : Nat) : Int), Value.int .u8 ((bt x 5 : Nat) : Int), Value.int .u8 ((bt x 6 : Nat) : Int), Value.int .u8 ((bt x 7 : Nat) : Int), Value.int .u8 ((bt x 8 : Nat) : Int), Value.int .u8 ((bt x 9 : Nat) : Int), Value.int .u8 ((bt x 10 : Nat) : Int), Value.int .u8 ((bt x 11 : Nat) : Int), Value.int .u8 ((bt x 12 : Nat) : Int), Value.int .u8 ((bt x 13 : Nat) : Int), Value.int .u8 ((bt x 14 : Nat) : Int), Value.int .u8 ((bt x 15 : Nat) : Int)] := rfl

/-- Bytes of one's own, stored. -/
theorem own_bytes {w w2 : World} {n x : Nat} (hb : Below w.heap.size w w2) (hn : w.heap.size ≤ n) (hc : ∀ j, j < 16 → ∃ v, w2.cell? ⟨n, j, none⟩ = some v) :
    Below w.heap.size w (w2.setCells n 0 (bts 16 x)) ∧ ∀ j, j < 16 → (w2.setCells n 0 (bts 16 x)).cell? ⟨n, j, none⟩ = some (.int .u8 ((bt x j : Nat) : Int)) := by
  have hl : (bts 16 x).length = 16 := by simp [bts]
  have r := setCells_rest n (bts 16 x) 0 w2
  refine ⟨hb.trans ⟨r.1, r.2.1, r.2.2, by rw [size_setCells]; exact Nat.le_refl _, fun k hk => heap_setCells _ _ _ _ _ (by omega)⟩, fun j hj => ?_⟩
  have := World.cell?_setCells_in n (bts 16 x) 0 w2 (fun i hi => by obtain ⟨v, hv⟩ := hc i (by omega); rw [Nat.zero_add, hv]; rfl) j (by omega)
  rw [Nat.zero_add] at this
  rw [this]
  simp [bts]

theorem setCells16z (w : World) (b x : Nat) : w.setCells b 0 (bts 16 x) = ((((((((((((((((w.setCell ⟨b, 0, none⟩ (.int .u8 ((bt x 0 : Nat) : Int))).setCell ⟨b, 1, none⟩ (.int .u8 ((bt x 1 : Nat) : Int))).setCell ⟨b, 2, none⟩ (.int .u8 ((bt x 2 : Nat) : Int))).setCell ⟨b, 3, none⟩ (.int .u8 ((bt x 3 : Nat) : Int))).setCell ⟨b, 4, none⟩ (.int .u8 ((bt x 4 : Nat) : Int))).setCell ⟨b, 5, none⟩ (.int .u8 ((bt x 5 : Nat) : Int))).setCell ⟨b, 6, none⟩ (.int .u8 ((bt x 6 : Nat) : Int))).setCell ⟨b, 7, none⟩ (.int .u8 ((bt x 7 : Nat) : Int))).setCell ⟨b, 8, none⟩ (.int .u8 ((bt x 8 : Nat) : Int))).setCell ⟨b, 9, none⟩ (.int .u8 ((bt x 9 : Nat) : Int))).setCell ⟨b, 10, none⟩ (.int .u8 ((bt x 10 : Nat) : Int))).setCell ⟨b, 11, none⟩ (.int .u8 ((bt x 11 : Nat) : Int))).setCell ⟨b, 12, none⟩ (.int .u8 ((bt x 12 : Nat) : Int))).setCell ⟨b, 13, none⟩ (.int .u8 ((bt x 13 : Nat) : Int))).setCell ⟨b, 14, none⟩ (.int .u8 ((bt x 14 : Nat) : Int))).setCell ⟨b, 15, none⟩ (.int .u8 ((bt x 15 : Nat) : Int))) := rfl

set_option maxRecDepth 100000 in
set_option maxHeartbeats 1000000 in
theorem told (x : Nat) (hp : x < P) (w : World) :
    Calls Tryd.prog 24 #[.agg (lim x).toArray] w fun e w' => e = .returned (.agg (bts 16 (mt x 1)).toArray) ∧ Below w.heap.size w w' := by
  have HP := Lib.hid hp
  clear hp
  unfold lim
  go_enter Tryd.func24, Tryd.ntmps24
  go_wp2_with fail
  obtain ⟨w1, hw1⟩ : ∃ w1, w1 = (w.alloc (.cells #[Value.int IntKind.u64 ((lo64 x : Nat) : Int), Value.int IntKind.u64 ((hi64 x : Nat) : Int)] 53)).alloc (.cells #[Value.int IntKind.u8 0, Value.int IntKind.u8 0, Value.int IntKind.u8 0, Value.int IntKind.u8 0, Value.int IntKind.u8 0, Value.int IntKind.u8 0, Value.int IntKind.u8 0, Value.int IntKind.u8 0, Value.int IntKind.u8 0, Value.int IntKind.u8 0, Value.int IntKind.u8 0, Value.int IntKind.u8 0, Value.int IntKind.u8 0, Value.int IntKind.u8 0, Value.int IntKind.u8 0, Value.int IntKind.u8 0] 30) := ⟨_, rfl⟩
  rw [← hw1]
  have hb1 : Below w.heap.size w w1 := by rw [hw1]; exact ((Below.refl _ w).alloc (Nat.le_refl _) _).alloc (by simp) _
  have hs1 : w1.heap.size = w.heap.size + 2 := by rw [hw1]; simp
  have he1 : El w1 w.heap.size 0 x := by
    rw [hw1]; exact (El.box rfl rfl : El (w.alloc _) w.heap.size 0 x).keep ((Below.refl _ _).alloc (Nat.le_refl _) _) (by simp)
  have hr1 : ∀ j, j < 16 → w1.cell? ⟨w.heap.size + 1, j, none⟩ = some (.int .u8 0) ∧ w1.frozen? ⟨w.heap.size + 1, j, none⟩ = false := by
    intro j hj
    rw [hw1]
    exact ⟨box_cell (by simp) (z16_get j hj), box_free (by simp)⟩
  clear hw1
  refine (zzBytes x w.heap.size 0 HP.out w1 he1).mono ?_
  rintro e w2 ⟨rfl, hy2, hb2⟩
  have hr2 : ∀ j, j < 16 → w2.cell? ⟨w.heap.size + 1, j, none⟩ = some (.int .u8 0) ∧ w2.frozen? ⟨w.heap.size + 1, j, none⟩ = false := by
    intro j hj
    rw [hb2.cell (by simp; omega), hb2.frozen (by simp; omega)]
    exact hr1 j hj
  have B2 := Lib.hid (hb1.trans (hb2.mono (by omega)))
  have HR2 := Lib.hid hr2
  have y0 := hy2 0 (by omega)
  have y1 := hy2 1 (by omega)
  have y2 := hy2 2 (by omega)
  have y3 := hy2 3 (by omega)
  have y4 := hy2 4 (by omega)
  have y5 := hy2 5 (by omega)
  have y6 := hy2 6 (by omega)
  have y7 := hy2 7 (by omega)
  have y8 := hy2 8 (by omega)
  have y9 := hy2 9 (by omega)
  have y10 := hy2 10 (by omega)
  have y11 := hy2 11 (by omega)
  have y12 := hy2 12 (by omega)
  have y13 := hy2 13 (by omega)
  have y14 := hy2 14 (by omega)
  have y15 := hy2 15 (by omega)
  obtain ⟨c0, f0⟩ := hr2 0 (by omega)
  obtain ⟨c1, f1⟩ := hr2 1 (by omega)
  obtain ⟨c2, f2⟩ := hr2 2 (by omega)
  obtain ⟨c3, f3⟩ := hr2 3 (by omega)
  obtain ⟨c4, f4⟩ := hr2 4 (by omega)
  obtain ⟨c5, f5⟩ := hr2 5 (by omega)
  obtain ⟨c6, f6⟩ := hr2 6 (by omega)
  obtain ⟨c7, f7⟩ := hr2 7 (by omega)
  obtain ⟨c8, f8⟩ := hr2 8 (by omega)
  obtain ⟨c9, f9⟩ := hr2 9 (by omega)
  obtain ⟨c10, f10⟩ := hr2 10 (by omega)
  obtain ⟨c11, f11⟩ := hr2 11 (by omega)
  obtain ⟨c12, f12⟩ := hr2 12 (by omega)
  obtain ⟨c13, f13⟩ := hr2 13 (by omega)
  obtain ⟨c14, f14⟩ := hr2 14 (by omega)
  obtain ⟨c15, f15⟩ := hr2 15 (by omega)
  simp only [Nat.zero_add] at y0 y1 y2 y3 y4 y5 y6 y7 y8 y9 y10 y11 y12 y13 y14 y15
  clear hb1 hs1 he1 hr1 hy2 hb2 hr2
  generalize hn1 : w1.heap.size = n1 at *
  clear hn1
  have aa := fun w => arrayAt (some ⟨n1, 0, none⟩) 16 w
  go_wp2_with fail
  rw [← setCells16z]
  obtain ⟨hb3, hy3⟩ := own_bytes (x := mt x 1) B2.out (show w.heap.size ≤ w.heap.size + 1 by omega) (fun j hj => ⟨_, (HR2.out j hj).1⟩)
  generalize w2.setCells (w.heap.size + 1) 0 (bts 16 (mt x 1)) = w3 at *
  have d0 := hy3 0 (by omega)
  have d1 := hy3 1 (by omega)
  have d2 := hy3 2 (by omega)
  have d3 := hy3 3 (by omega)
  have d4 := hy3 4 (by omega)
  have d5 := hy3 5 (by omega)
  have d6 := hy3 6 (by omega)
  have d7 := hy3 7 (by omega)
  have d8 := hy3 8 (by omega)
  have d9 := hy3 9 (by omega)
  have d10 := hy3 10 (by omega)
  have d11 := hy3 11 (by omega)
  have d12 := hy3 12 (by omega)
  have d13 := hy3 13 (by omega)
  have d14 := hy3 14 (by omega)
  have d15 := hy3 15 (by omega)
  rw [bts16]
  exact bodyPost_ret (v := .agg #[.int .u8 ((bt (mt x 1) 0 : Nat) : Int), .int .u8 ((bt (mt x 1) 1 : Nat) : Int), .int .u8 ((bt (mt x 1) 2 : Nat) : Int), .int .u8 ((bt (mt x 1) 3 : Nat) : Int), .int .u8 ((bt (mt x 1) 4 : Nat) : Int), .int .u8 ((bt (mt x 1) 5 : Nat) : Int), .int .u8 ((bt (mt x 1) 6 : Nat) : Int), .int .u8 ((bt (mt x 1) 7 : Nat) : Int), .int .u8 ((bt (mt x 1) 8 : Nat) : Int), .int .u8 ((bt (mt x 1) 9 : Nat) : Int), .int .u8 ((bt (mt x 1) 10 : Nat) : Int), .int .u8 ((bt (mt x 1) 11 : Nat) : Int), .int .u8 ((bt (mt x 1) 12 : Nat) : Int), .int .u8 ((bt (mt x 1) 13 : Nat) : Int), .int .u8 ((bt (mt x 1) 14 : Nat) : Int), .int .u8 ((bt (mt x 1) 15 : Nat) : Int)]) (by simp [results, Tryd.results24, go_sem, d0, d1, d2, d3, d4, d5, d6, d7, d8, d9, d10, d11, d12, d13, d14, d15]) rfl ⟨rfl, hb3⟩
end Go.Proofs.YtimihpddlinmbaaDoor
