/-
  The field of 128 bits: bytes out of elements.
-/
import Derived.Test.YtimihpddlinmbaaDoorI
import Derived.Deep.MidRow
namespace Go.Proofs.YtimihpddlinmbaaDoor
open Go.RowKit
set_option linter.unusedVariables false
set_option linter.unusedSimpArgs false

theorem By.of_wr {w w' : World} {b o x : Nat} (S : Nat) (ho : ∀ j, j < S → ∃ v, w.cell? ⟨b, o + j, none⟩ = some v) (hS : 0 < S) (h : Wr w b o (bts S x) w') : By w' b o S x := by
  intro j hj
  have hl : (bts S x).length = S := by simp [bts]
  obtain ⟨v, hv⟩ := ho 0 hS
  have := Wr.in h (fun i hi => by obtain ⟨v, hv⟩ := ho i (by omega); rw [hv]; rfl) (cell_lt hv) j (by omega)
  rw [this]
  simp [bts]

theorem index0 (v u : Value) (w : World) : (Instr.index 53 (.agg #[v, u]) (.int .i64 0)).run Tryd.prog w = .ok v w := by kernel_rfl
theorem index1 (v u : Value) (w : World) : (Instr.index 53 (.agg #[v, u]) (.int .i64 1)).run Tryd.prog w = .ok u w := by kernel_rfl

/-- Sixteen bytes of one's own. -/
structure Bx (w w2 : World) (n : Nat) : Prop where
  below : Below w.heap.size w w2
  cells : ∀ j, j < 16 → (∃ v, w2.cell? ⟨n, j, none⟩ = some v) ∧ w2.frozen? ⟨n, j, none⟩ = false
theorem Bx.lt {w w2 : World} {n : Nat} (h : Bx w w2 n) : n < w2.heap.size := by obtain ⟨⟨v, hv⟩, _⟩ := h.cells 0 (by omega); exact cell_lt hv
theorem Bx.keep {w w2 w3 : World} {n : Nat} (h : Bx w w2 n) (hb : Below w2.heap.size w2 w3) : Bx w w3 n :=
  ⟨h.below.trans (hb.mono h.below.size), fun j hj => by rw [hb.cell (p := ⟨n, j, none⟩) h.lt, hb.frozen (p := ⟨n, j, none⟩) h.lt]; exact h.cells j hj⟩
theorem Bx.wr {w w2 w3 : World} {n o x : Nat} (h : Bx w w2 n) (hn : w.heap.size ≤ n) (ho : o + 8 ≤ 16) (hw : Wr w2 n o (bts 8 x) w3) : Bx w w3 n ∧ By w3 n o 8 x := by
  have hy : By w3 n o 8 x := By.of_wr 8 (fun j hj => (h.cells (o + j) (by omega)).1) (by omega) hw
  refine ⟨⟨h.below.trans (hw.keep hn h.below.size), fun j hj => ⟨?_, ?_⟩⟩, hy⟩
  · by_cases e : o ≤ j ∧ j < o + 8
    · have := hy (j - o) (by omega)
      rw [show o + (j - o) = j by omega] at this
      exact ⟨_, this⟩
    · rw [Wr.out (p := ⟨n, j, none⟩) hw h.lt (fun _ => by show j < o ∨ o + (bts 8 x).length ≤ j; rw [bts_len]; omega)]
      exact (h.cells j hj).1
  · rw [Wr.frozen (p := ⟨n, j, none⟩) hw h.lt]; exact (h.cells j hj).2
theorem By.wr_out {w w' : World} {b o x u y : Nat} (S T : Nat) (h : Wr w b o (bts S x) w') (hd : u + T ≤ o ∨ o + S ≤ u) (hT : 0 < T) (he : By w b u T y) : By w' b u T y := by
  intro j hj
  rw [Wr.out (p := ⟨b, u + j, none⟩) h (he.lt hT) (fun _ => by show u + j < o ∨ o + (bts S x).length ≤ u + j; rw [bts_len]; omega)]
  exact he j hj

theorem z16_get (j : Nat) (hj : j < 16) : z16[j]? = some (Value.int IntKind.u8 0) := by
  unfold z16
  rcases j with _ | _ | _ | _ | _ | _ | _ | _ | _ | _ | _ | _ | _ | _ | _ | _ | j <;> first | rfl | omega

set_option maxRecDepth 100000 in
set_option maxHeartbeats 1000000 in
theorem zzBytes (x b o : Nat) (hp : x < P) (w : World) (h : El w b o x) :
    Calls Tryd.prog 43 #[.pointer (some ⟨b, o, none⟩)] w fun e w' => e = .returned (.slice (some ⟨w.heap.size, 0, none⟩) 16 16) ∧ By w' w.heap.size 0 16 (mt x 1) ∧ Below w.heap.size w w' := by
  have HP := Lib.hid hp
  have H := Lib.hid h
  clear hp h
  go_enter Tryd.func43, Tryd.ntmps43
  go_wp2_with fail
  have hx1 : Bx w (w.alloc (.cells z16 30)) w.heap.size := ⟨(Below.refl _ w).alloc (Nat.le_refl _) _, fun j hj => ⟨⟨_, box_cell rfl (z16_get j hj)⟩, box_free rfl⟩⟩
  unfold z16 at hx1
  generalize w.alloc (.cells #[Value.int IntKind.u8 0, Value.int IntKind.u8 0, Value.int IntKind.u8 0, Value.int IntKind.u8 0, Value.int IntKind.u8 0, Value.int IntKind.u8 0, Value.int IntKind.u8 0, Value.int IntKind.u8 0, Value.int IntKind.u8 0, Value.int IntKind.u8 0, Value.int IntKind.u8 0, Value.int IntKind.u8 0, Value.int IntKind.u8 0, Value.int IntKind.u8 0, Value.int IntKind.u8 0, Value.int IntKind.u8 0] 30) = w1 at *
  refine (fromMont x b o HP.out _ (El.keep hx1.below H.out.lt H.out)).mono ?_
  rintro e w2 ⟨rfl, hb2⟩
  have X2 := Lib.hid (hx1.keep hb2)
  clear hx1 hb2
  have hml : mt x 1 < W8 := by have := mt_lt x 1; unfold P at this; unfold W8; omega
  have hhi := hi64_small hml
  have K1 := Lib.hid (show ∀ W, Hid (Below w2.heap.size w2 W) → Calls Tryd.prog 58 #[.agg #[], .slice (some ⟨w.heap.size, 0, none⟩) 16 16, .int .u64 ((lo64 (mt x 1) : Nat) : Int)] W fun e w3 => e = .returned (.tuple #[]) ∧ Hid (Bx w w3 w.heap.size ∧ By w3 w.heap.size 0 8 (lo64 (mt x 1))) from by
    intro W hW
    have h3 := X2.out.keep hW.out
    refine (lePutUint64 (lo64 (mt x 1)) w.heap.size 0 16 16 (lo64_small _) (by omega) W (fun j hj => by rw [Nat.zero_add]; exact h3.cells j (by omega))).mono ?_
    rintro e w3 ⟨he, h4⟩
    exact ⟨he, h3.wr (Nat.le_refl _) (by omega) h4⟩)
  have HHI := Lib.hid hhi
  clear hml hhi
  have i0 := index0
  have i1 := index1
  have e0 : IntKind.i64.wrap 0 = 0 := rfl
  have e8 : IntKind.i64.wrap 8 = 8 := rfl
  unfold lim
  go_wp2_with fail
  refine wp_loop_rounds 3 ?_
  rw [rounds_succ]
  go_wp2_with fail
  go_region_with (go_at_call 58; refine (K1.out _ (by first | exact (Below.refl _ _) | exact (Below.refl _ _).drew | exact (Below.refl _ _).drew.drew)).mono ?_; rintro e w3 ⟨rfl, h3⟩)
  clear K1 X2
  have K2 := Lib.hid (show ∀ W, Hid (Below w3.heap.size w3 W) → Calls Tryd.prog 58 #[.agg #[], .slice (some ⟨w.heap.size, 8, none⟩) 8 8, .int .u64 ((hi64 (mt x 1) : Nat) : Int)] W fun e w4 => e = .returned (.tuple #[]) ∧ Hid (Below w.heap.size w w4 ∧ By w4 w.heap.size 0 16 (mt x 1)) from by
    intro W hW
    have h4 := h3.out.1.keep hW.out
    have hy4 := h3.out.2.keep hW.out h3.out.1.lt
    refine (lePutUint64 (hi64 (mt x 1)) w.heap.size 8 8 8 HHI.out (by omega) W (fun j hj => h4.cells (8 + j) (by omega))).mono ?_
    rintro e w4 ⟨he, h5⟩
    obtain ⟨h6, h7⟩ := h4.wr (Nat.le_refl _) (by omega) h5
    exact ⟨he, h6.below, By.both (hy4.wr_out 8 8 h5 (by omega) (by omega)) h7⟩)
  go_wp2_with fail
  rw [rounds_succ]
  go_wp2_with fail
  go_region_with (go_at_call 58; refine (K2.out _ (by first | exact (Below.refl _ _) | exact (Below.refl _ _).drew | exact (Below.refl _ _).drew.drew)).mono ?_; rintro e w4 ⟨rfl, h4⟩)
  clear K2
  go_wp2_with fail
  rw [rounds_succ]
  go_wp2_with fail
  go_ret
  exact ⟨rfl, h4.out.2, h4.out.1⟩

/-! Sixteen bytes at once: as a range of cells; loads and stores of them, and results, by the laws of Derived/Deep/MidRow.lean. -/
theorem By.range {w : World} {b o S x : Nat} (h : By w b o S x) : w.rangeAt b o (bts S x) := by
  intro j v hv
  have hj : j < S := by have := (List.getElem?_eq_some_iff.1 hv).1; simpa [bts] using this
  have e : v = .int .u8 ((bt x j : Nat) : Int) := by simp [bts, hj] at hv; exact hv.symm
  subst e; exact h j hj
theorem size16 (x : Nat) : (Tryd.prog.info? 30).map (·.size) = some (bts 16 x).length := by rw [bts_len]; kernel_rfl
theorem size16' (x : Nat) : (Tryd.prog.info? 30).map (·.size) = some (bts 16 x).toArray.size := by rw [List.size_toArray, bts_len]; kernel_rfl
theorem one16 (x : Nat) : (bts 16 x).toArray.all (·.oneCell') = true := all_oneCell_toArray (fun v hv => by simp [bts] at hv; obtain ⟨a, _, rfl⟩ := hv; rfl)
/-- There sixteen bytes may be written. -/
def Sp (w : World) (b o : Nat) : Prop := ∀ j, j < 16 → (∃ u, w.cell? ⟨b, o + j, none⟩ = some u) ∧ w.frozen? ⟨b, o + j, none⟩ = false
theorem Sp.new {w0 : World} {n : Nat} (h : n = w0.heap.size) : Sp (w0.alloc (.cells z16 30)) n 0 := fun j hj => by rw [Nat.zero_add]; exact ⟨⟨_, box_cell h (z16_get j hj)⟩, box_free h⟩
theorem Sp.lt {w : World} {b o : Nat} (h : Sp w b o) : b < w.heap.size := by obtain ⟨⟨u, hu⟩, _⟩ := h 0 (by omega); exact cell_lt hu
theorem Sp.keep {w w' : World} {B b o : Nat} (h : Below B w w') (hb : b < B) (he : Sp w b o) : Sp w' b o := fun j hj => by
  rw [h.cell (p := ⟨b, o + j, none⟩) hb, h.frozen (p := ⟨b, o + j, none⟩) hb]; exact he j hj
theorem Sp.stored {w : World} {b o : Nat} (h : Sp w b o) (x : Nat) : By (w.setCells b o (bts 16 x)) b o 16 x := by
  intro j hj
  rw [World.cell?_setCells_in b (bts 16 x) o w (fun i hi => by rw [bts_len] at hi; obtain ⟨⟨u, hu⟩, _⟩ := h i hi; rw [hu]; rfl) j (by rw [bts_len]; exact hj)]
  simp [bts]
theorem Below.stored {w w2 : World} {n o : Nat} {vs : List Value} (hb : Below w.heap.size w w2) (hn : w.heap.size ≤ n) : Below w.heap.size w (w2.setCells n o vs) := by
  have r := setCells_rest n vs o w2
  exact hb.trans ⟨r.1, r.2.1, r.2.2, by rw [size_setCells]; exact Nat.le_refl _, fun k hk => heap_setCells _ _ _ _ _ (by omega)⟩
theorem yields_load16 {ops : Array Oper} {S : World → Prop} {op : Oper} {a : Act} (hw : Region.wanted op (yielded ops a.tmps) = true) (x : Operand) (ho : op.op = .load 30 x) (b o v : Nat) (hx : a.eval x = .pointer (some ⟨b, o, none⟩))
    (hS : ∀ w, S w → w.rangeAt b o (bts 16 v)) {A : Array Value} (hA : A = (bts 16 v).toArray) : YieldsIf Tryd.prog ops S op (.agg A) a := by
  subst hA
  exact yieldsIf_load_mid hw 30 x ho b o hx (bts 16 v) _ hS Tryd.underlying30 rfl (size16 v)
theorem wpList_load16 {ops : Array Oper} {rest : List Oper} {op : Oper} {a : Act} {w : World} {Q : Exit → Act → World → Prop} (hgd : op.guard = none) (x : Operand) (ho : op.op = .load 30 x) (b o v : Nat) (hx : a.eval x = .pointer (some ⟨b, o, none⟩))
    (hc : By w b o 16 v) (h : wpList Tryd.prog ops Q rest (a.put op.dst (.agg (bts 16 v).toArray)) w) : wpList Tryd.prog ops Q (op :: rest) a w :=
  wpList_load_mid hgd 30 x ho b o hx (bts 16 v) _ hc.range Tryd.underlying30 rfl (size16 v) h
theorem wp_store16 {op : Oper} {a : Act} {w : World} {K : Act → World → Prop} {Q : Exit → Act → World → Prop} (x y : Operand) (ho : op.op = .store 30 x y) (b o v : Nat) (hx : a.eval x = .pointer (some ⟨b, o, none⟩)) {A : Array Value} (hA : A = (bts 16 v).toArray) (hy : a.eval y = .agg A)
    (ht : Sp w b o) (h : K (a.put op.dst undef) (w.setCells b o (bts 16 v))) : op.wp Tryd.prog a w K Q := by
  subst hA
  refine wp_store_mid 30 x y ho b o (bts 16 v).toArray hx hy ?_ (size16' v) (one16 v) ?_
  · intro j hj
    rw [List.size_toArray, bts_len] at hj
    obtain ⟨⟨u, hu⟩, hf⟩ := ht j hj
    exact ⟨by rw [hu]; rfl, hf⟩
  · rw [List.toList_toArray]; exact h
theorem wpList_store16 {ops : Array Oper} {rest : List Oper} {op : Oper} {a : Act} {w : World} {Q : Exit → Act → World → Prop} (hgd : op.guard = none) (x y : Operand) (ho : op.op = .store 30 x y) (b o v : Nat) (hx : a.eval x = .pointer (some ⟨b, o, none⟩)) {A : Array Value} (hA : A = (bts 16 v).toArray) (hy : a.eval y = .agg A)
    (ht : Sp w b o) (h : wpList Tryd.prog ops Q rest (a.put op.dst undef) (w.setCells b o (bts 16 v))) : wpList Tryd.prog ops Q (op :: rest) a w :=
  wpList_plain hgd fun _ hK => wp_store16 x y ho b o v hx hA hy ht (hK _ _ h)
theorem loaded16 (w : World) (b v : Nat) (hy : By w b 0 16 v) : (loadVar 30 ⟨b, 0, none⟩).run Tryd.prog w = .ok (.agg (bts 16 v).toArray) w :=
  run_loadVar_mid w b 0 30 (bts 16 v) _ hy.range Tryd.underlying30 rfl (size16 v)
theorem results16 {fn : Func} {p : Tmp} (h : fn.results = #[.cell p 30]) (tmps : Array Value) (w : World) (b v : Nat) (hp : tmps[p]?.getD undef = .pointer (some ⟨b, 0, none⟩)) (hy : By w b 0 16 v) : (results fn tmps).run Tryd.prog w = .ok (.agg (bts 16 v).toArray) w := by
  simp [results, h, hp, asAddr, loaded16 w b v hy]
theorem results16' {fn : Func} {p t : Tmp} (h : fn.results = #[.cell p 30, .tmp t]) (tmps : Array Value) (w : World) (b v : Nat) (hp : tmps[p]?.getD undef = .pointer (some ⟨b, 0, none⟩)) (hy : By w b 0 16 v) : (results fn tmps).run Tryd.prog w = .ok (.tuple #[.agg (bts 16 v).toArray, tmps.getD t undef]) w := by
  simp [results, h, hp, asAddr, loaded16 w b v hy]

theorem arrayAt (a : Option Addr) (c : Nat) (w : World) : (Instr.arrayAt 30 (.slice a 16 c)).run Tryd.prog w = .ok (.pointer a) w := by kernel_rfl

theorem bts16 (x : Nat) : bts 16 x = [Value.int .u8 ((bt x 0 : Nat) : Int), Value.int .u8 ((bt x 1 : Nat) : Int), Value.int .u8 ((bt x 2 : Nat) : Int), Value.int .u8 ((bt x 3 : Nat) : Int), Value.int .u8 ((bt x 4 : Nat) : Int), Value.int .u8 ((bt x 5 : Nat) : Int), Value.int .u8 ((bt x 6 : Nat) : Int), Value.int .u8 ((bt x 7 : Nat) : Int), Value.int .u8 ((bt x 8 : Nat) : Int), Value.int .u8 ((bt x 9 : Nat) : Int), Value.int .u8 ((bt x 10 : Nat) : Int), Value.int .u8 ((bt x 11 : Nat) : Int), Value.int .u8 ((bt x 12 : Nat) : Int), Value.int .u8 ((bt x 13 : Nat) : Int), Value.int .u8 ((bt x 14 : Nat) : Int), Value.int .u8 ((bt x 15 : Nat) : Int)] := rfl

set_option maxRecDepth 100000 in
set_option maxHeartbeats 1000000 in
theorem told (x : Nat) (hp : x < P) (w : World) :
    Calls Tryd.prog 24 #[.agg (lim x).toArray] w fun e w' => e = .returned (.agg (bts 16 (mt x 1)).toArray) ∧ Below w.heap.size w w' := by
  have HP := Lib.hid hp
  clear hp
  unfold lim
  go_enter Tryd.func24, Tryd.ntmps24
  go_wp2_with fail
  obtain ⟨w1, hw1⟩ : ∃ w1, w1 = (w.alloc (.cells #[Value.int IntKind.u64 ((lo64 x : Nat) : Int), Value.int IntKind.u64 ((hi64 x : Nat) : Int)] 53)).alloc (.cells z16 30) := ⟨_, rfl⟩
  have hb1 : Below w.heap.size w w1 := by rw [hw1]; exact ((Below.refl _ w).alloc (Nat.le_refl _) _).alloc (by simp) _
  have hs1 : w1.heap.size = w.heap.size + 2 := by rw [hw1]; simp
  have he1 : El w1 w.heap.size 0 x := by
    rw [hw1]; exact (El.box rfl rfl : El (w.alloc _) w.heap.size 0 x).keep ((Below.refl _ _).alloc (Nat.le_refl _) _) (by simp)
  have hr1 : Sp w1 (w.heap.size + 1) 0 := by rw [hw1]; exact Sp.new (by simp)
  unfold z16 at hw1
  rw [← hw1]
  clear hw1
  refine (zzBytes x w.heap.size 0 HP.out w1 he1).mono ?_
  rintro e w2 ⟨rfl, hy2, hb2⟩
  have B2 := Lib.hid (hb1.trans (hb2.mono (by omega)))
  have R2 := Lib.hid (hr1.keep hb2 hr1.lt)
  have Y2 := Lib.hid hy2
  clear hb1 hs1 he1 hr1 hy2 hb2
  generalize hn1 : w1.heap.size = n1 at *
  clear hn1
  have aa := fun w => arrayAt (some ⟨n1, 0, none⟩) 16 w
  go_wp2_with (first | (refine wpList_load16 rfl (.tmp 4) rfl n1 0 (mt x 1) rfl Y2.out ?_) | (refine wpList_store16 rfl (.tmp 2) (.tmp 5) rfl (w.heap.size + 1) 0 (mt x 1) rfl rfl rfl R2.out ?_))
  exact bodyPost_ret (results16 Tryd.results24 _ _ (w.heap.size + 1) (mt x 1) rfl (R2.out.stored _)) rfl ⟨rfl, Below.stored B2.out (by omega)⟩
end Go.Proofs.YtimihpddlinmbaaDoor
