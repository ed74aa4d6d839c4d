/-
  The field of 64 bits: bytes out of elements.
-/
import Derived.Test.YtgeifodehflgpaaDoorI
namespace Go.Proofs.YtgeifodehflgpaaDoor
open Go.RowKit
set_option linter.unusedVariables false
set_option linter.unusedSimpArgs false

theorem By.of_wr {w w' : World} {b o x : Nat} (S : Nat) (ho : ∀ j, j < S → ∃ v, w.cell? ⟨b, o + j, none⟩ = some v) (hS : 0 < S) (h : Wr w b o (bts S x) w') : By w' b o S x := by
  intro j hj
  have hl : (bts S x).length = S := by simp [bts]
  obtain ⟨v, hv⟩ := ho 0 hS
  have := Wr.in h (fun i hi => by obtain ⟨v, hv⟩ := ho i (by omega); rw [hv]; rfl) (cell_lt hv) j (by omega)
  rw [this]
  simp [bts]

theorem index0 (v : Value) (w : World) : (Instr.index 54 (.agg #[v]) (.int .i64 0)).run Tryd.prog w = .ok v w := by kernel_rfl

set_option maxRecDepth 100000 in
set_option maxHeartbeats 1000000 in
theorem zzBytes (x b o : Nat) (hp : x < P) (w : World) (h : El w b o x) :
    Calls Tryd.prog 43 #[.pointer (some ⟨b, o, none⟩)] w fun e w' => e = .returned (.slice (some ⟨w.heap.size, 0, none⟩) 8 8) ∧ By w' w.heap.size 0 8 (mt x 1) ∧ Below w.heap.size w w' := by
  have HP := Lib.hid hp
  have H := Lib.hid h
  clear hp h
  go_enter Tryd.func43, Tryd.ntmps43
  go_wp2_with fail
  have hb1 : Below w.heap.size w (w.alloc (.cells #[Value.int IntKind.u8 0, Value.int IntKind.u8 0, Value.int IntKind.u8 0, Value.int IntKind.u8 0, Value.int IntKind.u8 0, Value.int IntKind.u8 0, Value.int IntKind.u8 0, Value.int IntKind.u8 0] 30)) := (Below.refl _ w).alloc (Nat.le_refl _) _
  have hw1 : ∀ j, j < 8 → (∃ v, (w.alloc (.cells #[Value.int IntKind.u8 0, Value.int IntKind.u8 0, Value.int IntKind.u8 0, Value.int IntKind.u8 0, Value.int IntKind.u8 0, Value.int IntKind.u8 0, Value.int IntKind.u8 0, Value.int IntKind.u8 0] 30)).cell? ⟨w.heap.size, 0 + j, none⟩ = some v) ∧ (w.alloc (.cells #[Value.int IntKind.u8 0, Value.int IntKind.u8 0, Value.int IntKind.u8 0, Value.int IntKind.u8 0, Value.int IntKind.u8 0, Value.int IntKind.u8 0, Value.int IntKind.u8 0, Value.int IntKind.u8 0] 30)).frozen? ⟨w.heap.size, 0 + j, none⟩ = false := by
    intro j hj
    exact ⟨⟨_, box_cell rfl (Array.getElem?_eq_getElem (by simpa using hj))⟩, box_free rfl⟩
  have hs1 : (w.alloc (.cells #[Value.int IntKind.u8 0, Value.int IntKind.u8 0, Value.int IntKind.u8 0, Value.int IntKind.u8 0, Value.int IntKind.u8 0, Value.int IntKind.u8 0, Value.int IntKind.u8 0, Value.int IntKind.u8 0] 30)).heap.size = w.heap.size + 1 := by simp
  generalize w.alloc (.cells #[Value.int IntKind.u8 0, Value.int IntKind.u8 0, Value.int IntKind.u8 0, Value.int IntKind.u8 0, Value.int IntKind.u8 0, Value.int IntKind.u8 0, Value.int IntKind.u8 0, Value.int IntKind.u8 0] 30) = w1 at *
  refine (fromMont x b o HP.out _ (El.keep hb1 H.out.lt H.out)).mono ?_
  rintro e w2 ⟨rfl, hb2⟩
  have hw2 : ∀ j, j < 8 → (∃ v, w2.cell? ⟨w.heap.size, 0 + j, none⟩ = some v) ∧ w2.frozen? ⟨w.heap.size, 0 + j, none⟩ = false := by
    intro j hj
    rw [hb2.cell (by simp; omega), hb2.frozen (by simp; omega)]
    exact hw1 j hj
  have hb2' := hb1.trans (hb2.mono (by omega))
  have hs2 : w.heap.size + 1 ≤ w2.heap.size := by have := hb2.size; omega
  have W2 := Lib.hid hw2
  have B2 := Lib.hid hb2'
  have S2 := Lib.hid hs2
  clear hb1 hw1 hs1 hb2 hw2 hb2' hs2
  have K : Calls Tryd.prog 58 #[.agg #[], .slice (some ⟨w.heap.size, 0, none⟩) 8 8, .int .u64 ((mt x 1 : Nat) : Int)] w2.drew fun e w3 => e = .returned (.tuple #[]) ∧ Hid (By w3 w.heap.size 0 8 (mt x 1) ∧ Below w.heap.size w w3) := by
    refine (lePutUint64 (mt x 1) w.heap.size 0 8 8 (by have := mt_lt x 1; unfold P at this; omega) (by omega) w2.drew W2.out).mono ?_
    rintro e w3 ⟨he, h3⟩
    exact ⟨he, By.of_wr (w := w2.drew) 8 (fun j hj => (W2.out j hj).1) (by omega) h3, B2.out.drew.trans (h3.keep (Nat.le_refl _) (by simp; have := S2.out; omega))⟩
  have K1 := Lib.hid K
  clear K
  have i0 := index0
  have e0 : IntKind.i64.wrap 0 = 0 := rfl
  unfold lim
  go_wp2_with fail
  refine wp_loop_rounds 2 ?_
  rw [rounds_succ]
  go_wp2_with fail
  go_region_with (go_at_call 58; refine K1.out.mono ?_; rintro e w3 ⟨rfl, h3⟩)
  clear K1
  go_wp2_with fail
  rw [rounds_succ]
  go_wp2_with fail
  go_ret
  exact ⟨rfl, h3.out.1, h3.out.2⟩

theorem arrayAt (a : Option Addr) (c : Nat) (w : World) : (Instr.arrayAt 30 (.slice a 8 c)).run Tryd.prog w = .ok (.pointer a) w := by kernel_rfl

set_option maxRecDepth 100000 in
set_option maxHeartbeats 1000000 in
theorem told (x : Nat) (hp : x < P) (w : World) :
    Calls Tryd.prog 24 #[.agg (lim x).toArray] w fun e w' => e = .returned (.agg (bts 8 (mt x 1)).toArray) ∧ Below w.heap.size w w' := by
  have HP := Lib.hid hp
  clear hp
  unfold lim
  go_enter Tryd.func24, Tryd.ntmps24
  go_wp2_with fail
  obtain ⟨w1, hw1⟩ : ∃ w1, w1 = (w.alloc (.cells #[Value.int IntKind.u64 (x : Int)] 54)).alloc (.cells #[Value.int IntKind.u8 0, Value.int IntKind.u8 0, Value.int IntKind.u8 0, Value.int IntKind.u8 0, Value.int IntKind.u8 0, Value.int IntKind.u8 0, Value.int IntKind.u8 0, Value.int IntKind.u8 0] 30) := ⟨_, rfl⟩
  rw [← hw1]
  have hb1 : Below w.heap.size w w1 := by rw [hw1]; exact ((Below.refl _ w).alloc (Nat.le_refl _) _).alloc (by simp) _
  have hs1 : w1.heap.size = w.heap.size + 2 := by rw [hw1]; simp
  have he1 : El w1 w.heap.size 0 x := by
    rw [hw1]; exact cell_past _ (El.box rfl rfl)
  have hr1 : ∀ j, j < 8 → w1.cell? ⟨w.heap.size + 1, j, none⟩ = some (.int .u8 0) ∧ w1.frozen? ⟨w.heap.size + 1, j, none⟩ = false := by
    intro j hj
    rw [hw1]
    refine ⟨box_cell (by simp) ?_, box_free (by simp)⟩
    have : ∀ j : Nat, j < 8 → (#[Value.int IntKind.u8 0, Value.int IntKind.u8 0, Value.int IntKind.u8 0, Value.int IntKind.u8 0, Value.int IntKind.u8 0, Value.int IntKind.u8 0, Value.int IntKind.u8 0, Value.int IntKind.u8 0] : Array Value)[j]? = some (Value.int IntKind.u8 0) := by
      intro j hj
      rcases j with _ | _ | _ | _ | _ | _ | _ | _ | j <;> first | rfl | omega
    exact this j hj
  clear hw1
  refine (zzBytes x w.heap.size 0 HP.out w1 he1).mono ?_
  rintro e w2 ⟨rfl, hy2, hb2⟩
  have hr2 : ∀ j, j < 8 → w2.cell? ⟨w.heap.size + 1, j, none⟩ = some (.int .u8 0) ∧ w2.frozen? ⟨w.heap.size + 1, j, none⟩ = false := by
    intro j hj
    rw [hb2.cell (by simp; omega), hb2.frozen (by simp; omega)]
    exact hr1 j hj
  have B2 := Lib.hid (hb1.trans (hb2.mono (by omega)))
  have y0 := hy2 0 (by omega)
  have y1 := hy2 1 (by omega)
  have y2 := hy2 2 (by omega)
  have y3 := hy2 3 (by omega)
  have y4 := hy2 4 (by omega)
  have y5 := hy2 5 (by omega)
  have y6 := hy2 6 (by omega)
  have y7 := hy2 7 (by omega)
  obtain ⟨c0, f0⟩ := hr2 0 (by omega)
  obtain ⟨c1, f1⟩ := hr2 1 (by omega)
  obtain ⟨c2, f2⟩ := hr2 2 (by omega)
  obtain ⟨c3, f3⟩ := hr2 3 (by omega)
  obtain ⟨c4, f4⟩ := hr2 4 (by omega)
  obtain ⟨c5, f5⟩ := hr2 5 (by omega)
  obtain ⟨c6, f6⟩ := hr2 6 (by omega)
  obtain ⟨c7, f7⟩ := hr2 7 (by omega)
  simp only [Nat.zero_add] at y0 y1 y2 y3 y4 y5 y6 y7
  clear hb1 hs1 he1 hr1 hy2 hb2 hr2
  generalize hn1 : w1.heap.size = n1 at *
  clear hn1
  have aa := fun w => arrayAt (some ⟨n1, 0, none⟩) 8 w
  go_wp2_with fail
  obtain ⟨w3, hw3⟩ : ∃ w3, w3 = w2.setCells (w.heap.size + 1) 0 (bts 8 (mt x 1)) := ⟨_, rfl⟩
  have hw4 := hw3
  rw [bts8] at hw4
  simp only [World.setCells, Nat.zero_add, Nat.reduceAdd] at hw4
  rw [← hw4]
  have hb3 : Below w.heap.size w w3 := by
    rw [hw3]
    have r := setCells_rest (w.heap.size + 1) (bts 8 (mt x 1)) 0 w2
    exact B2.out.trans ⟨r.1, r.2.1, r.2.2, by rw [size_setCells]; exact Nat.le_refl _, fun k hk => heap_setCells _ _ _ _ _ (by omega)⟩
  have hy3 : By w3 (w.heap.size + 1) 0 8 (mt x 1) := by
    have hl : (bts 8 (mt x 1)).length = 8 := by simp [bts]
    intro j hj
    rw [hw3, World.cell?_setCells_in (w.heap.size + 1) (bts 8 (mt x 1)) 0 w2 ?_ j (by omega)]
    · simp [bts]
    · intro i hi
      rw [hl] at hi
      rcases i with _ | _ | _ | _ | _ | _ | _ | _ | i <;> first | omega | (simp only [Nat.zero_add, c0, c1, c2, c3, c4, c5, c6, c7, Option.isSome_some, Nat.reduceAdd])
  clear hw3 hw4
  have d0 := hy3 0 (by omega)
  have d1 := hy3 1 (by omega)
  have d2 := hy3 2 (by omega)
  have d3 := hy3 3 (by omega)
  have d4 := hy3 4 (by omega)
  have d5 := hy3 5 (by omega)
  have d6 := hy3 6 (by omega)
  have d7 := hy3 7 (by omega)
  simp only [Nat.zero_add] at d0 d1 d2 d3 d4 d5 d6 d7
  rw [bts8]
  exact bodyPost_ret (v := .agg #[.int .u8 ((bt (mt x 1) 0 : Nat) : Int), .int .u8 ((bt (mt x 1) 1 : Nat) : Int), .int .u8 ((bt (mt x 1) 2 : Nat) : Int), .int .u8 ((bt (mt x 1) 3 : Nat) : Int), .int .u8 ((bt (mt x 1) 4 : Nat) : Int), .int .u8 ((bt (mt x 1) 5 : Nat) : Int), .int .u8 ((bt (mt x 1) 6 : Nat) : Int), .int .u8 ((bt (mt x 1) 7 : Nat) : Int)]) (by simp [results, Tryd.results24, go_sem, d0, d1, d2, d3, d4, d5, d6, d7]) rfl ⟨rfl, hb3⟩
end Go.Proofs.YtgeifodehflgpaaDoor
