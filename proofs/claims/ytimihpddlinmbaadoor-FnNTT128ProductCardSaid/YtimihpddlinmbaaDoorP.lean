/-
  The statements' lists over the field of 128 bits: elements as numbers, held against numbers, divided by how many they are.
-/
import Derived.Test.YtimihpddlinmbaaDoorO
import Derived.Test.YtimihpddlinmbaaDoorN
import Derived.WalkSmall
import Derived.Deep.RegionHeld3
import Derived.ChangeKeysEq
namespace Go.Proofs.YtimihpddlinmbaaDoor
open Go.RowKit
set_option linter.unusedVariables false
set_option linter.unusedSimpArgs false

/-- n numbers of 128 bits, at the head of block g. -/
def WRow (w : World) (g n : Nat) (f : Nat → Nat) : Prop := ∀ i, i < n → w.cell? ⟨g, i * 2, none⟩ = some (wlo (f i)) ∧ w.cell? ⟨g, i * 2 + 1, none⟩ = some (whi (f i))
def wcells (f : Nat → Nat) : Nat → List Value
  | 0 => []
  | k + 1 => wcells f k ++ [wlo (f k), whi (f k)]

theorem wcells_len (f : Nat → Nat) : ∀ k, (wcells f k).length = k * 2
  | 0 => rfl
  | k + 1 => by rw [wcells, List.length_append, wcells_len f k]; simp; omega
theorem wcells_get (f : Nat → Nat) : ∀ k i, i < k → (wcells f k)[i * 2]? = some (wlo (f i)) ∧ (wcells f k)[i * 2 + 1]? = some (whi (f i))
  | 0, i, h => by omega
  | k + 1, i, h => by
    have hl := wcells_len f k
    rw [wcells]
    by_cases e : i = k
    · subst e
      rw [List.getElem?_append_right (by omega), List.getElem?_append_right (by omega)]
      rw [hl, Nat.sub_self, show i * 2 + 1 - i * 2 = 1 by omega]
      exact ⟨rfl, rfl⟩
    · rw [List.getElem?_append_left (by omega), List.getElem?_append_left (by omega)]
      exact wcells_get f k i (by omega)

/-- A new list of n numbers came back. -/
def GotW (w : World) (n : Nat) (f : Nat → Nat) (e : Ending) (w' : World) : Prop :=
  ∃ g cap, e = .returned (.slice (some ⟨g, 0, none⟩) n cap) ∧ w.heap.size ≤ g ∧ g < w'.heap.size ∧ WRow w' g n f ∧ Below w.heap.size w w'

structure L64Inv (w : World) (f : Nat → Nat) (k : Nat) (v : Value) (wr : World) : Prop where
  below : Below w.heap.size w wr
  own : wr.ownsRow w.heap.size 35 2 v k (wcells f k)

theorem L64Inv.next {w wr w3 w4 : World} {f : Nat → Nat} {k : Nat} {v v' : Value} {o : Obj} (h : L64Inv w f k v wr) (hb : Below wr.heap.size wr w3) (h2 : w4.ownsRow w.heap.size 35 2 v' (k + 1) (wcells f (k + 1))) (h3 : (w3.alloc o).grownBy w4 v.ownBlock) : L64Inv w f (k + 1) v' w4 := by
  refine ⟨?_, h2⟩
  have h4 : Below w.heap.size w (w3.alloc o) := (h.below.trans (hb.mono h.below.size)).alloc (by have := h.below.size; have := hb.size; omega) o
  exact h4.grown h3 h4.size (fun j hj => (h.own.lt j hj).1)

theorem own_slice {w : World} {base : Nat} {e : TypeId} {size n : Nat} {v : Value} {xs : List Value} (h : w.ownsRow base e size v n xs) (hn : 0 < n) : ∃ g cap, v = .slice (some ⟨g, 0, none⟩) n cap ∧ base ≤ g := by
  obtain ⟨_, h2⟩ := h
  rcases h2 with ⟨_, h2⟩ | ⟨g, cap, cur, hv, hg, _⟩
  · omega
  · exact ⟨g, cap, hv, hg⟩

set_option maxRecDepth 100000 in
set_option maxHeartbeats 1000000 in
theorem l64_yes (n b o cp : Nat) (f : Nat → Nat) (h1 : 0 < n) (hn : n ≤ 4096) (hf : ∀ i, i < n → f i < W8) (w : World) (hr : BRow w b o n f) :
    Calls Tryd.prog 9 #[.slice (some ⟨b, o, none⟩) n cp] w (GotW w n f) := by
  obtain ⟨i0, hi0, hi1⟩ := Option.map_eq_some_iff.1 info35
  simp only [Prod.mk.injEq] at hi1
  obtain ⟨hz0, hz1, hz2⟩ := hi1
  have HF := Lib.hid hf
  have HR := Lib.hid hr
  have H1 := Lib.hid h1
  have I0 := Lib.hid (show Tryd.prog.info? 35 = some i0 ∧ i0.zero = some (.agg (Array.replicate 2 (.int .u64 0))) ∧ i0.size = 2 ∧ i0.bytes = 16 from ⟨hi0, hz0, hz1, hz2⟩)
  clear hf hr hi0 hz0 hz1 hz2 h1
  go_enter Tryd.func9, Tryd.ntmps9
  go_wp2_with fail
  have hi : L64Inv w f 0 (.slice (some ⟨w.heap.size, 0, none⟩) 0 0) (w.alloc (.cells #[] 35)) := by
    refine ⟨(Below.refl _ w).alloc (Nat.le_refl _) _, ⟨rfl, Or.inr ⟨w.heap.size, 0, #[], rfl, Nat.le_refl _, heap_new _ _ _ rfl, Nat.le_refl _, by unfold maxLen; omega, rfl, rfl⟩⟩⟩
  generalize w.alloc (.cells #[] 35) = w1 at *
  generalize Value.slice (some ⟨w.heap.size, 0, none⟩) 0 0 = v1 at *
  go_loopw [3, 9] (fun v i wr => ∃ k : Nat, k ≤ n ∧ i = .int .i64 k ∧ L64Inv w f k v wr) (fun _ i _ => n - (intOf i).toNat)
  case atStart => exact ⟨0, Nat.zero_le _, rfl, hi⟩
  case round =>
    obtain ⟨k, hk, rfl, hinv⟩ := hrel
    have HI := Lib.hid hinv
    clear hinv hi
    by_cases hlt : k < n
    · have Hlt := Lib.hid hlt
      have hy : By wr b (o + k * 16) 16 (f k) := (HR.out k hlt).keep HI.out.below ((HR.out k hlt).lt (by omega))
      have HY := Lib.hid hy
      clear hy
      go_wp2_with (first | ((with_reducible refine wpList_load16 ?_ (.tmp 11) ?_ b (o + k * 16) (f k) ?_ HY.out ?_); rfl; rfl; rfl) | ((with_reducible refine wpList_store16 ?_ (.tmp 5) (.tmp 12) ?_ wr.heap.size 0 (f k) ?_ rfl ?_ ?_ ?_); rfl; rfl; rfl; rfl; exact Sp.new rfl) | ((with_reducible refine wpList_load16 ?_ (.tmp 5) ?_ wr.heap.size 0 (f k) ?_ ?_ ?_); rfl; rfl; rfl; exact (Sp.new rfl).stored _))
      have K := n64_yes (f k) (HF.out k hlt)
      obtain ⟨w2, hw2⟩ : ∃ w2, w2 = (wr.alloc (.cells z16 30)).setCells wr.heap.size 0 (bts 16 (f k)) := ⟨_, rfl⟩
      have hb2 : Below wr.heap.size wr w2 := by rw [hw2]; exact Below.stored ((Below.refl _ wr).alloc (Nat.le_refl _) _) (Nat.le_refl _)
      unfold z16 at hw2
      rw [← hw2]
      clear hw2
      refine (K w2).mono ?_
      rintro e w3 ⟨rfl, hb3⟩
      clear K
      have hb4 := hb2.trans (hb3.mono hb2.size)
      have hown : w3.ownsRow w.heap.size 35 2 u3 k (wcells f k) := HI.out.own.kept (row := none) ⟨hb4.os, hb4.tape, hb4.output, hb4.size, fun j hj _ => hb4.block j hj⟩ (by cases hv : u3.ownBlock <;> simp)
      have OWN := Lib.hid hown
      have B4 := Lib.hid hb4
      clear hb2 hb3 hb4 hown
      unfold wv wlo whi
      go_wp2_with (at_builtin; go_must (refine wpList_append_own _ rfl (.tmp 13) (.tmp 16) 28 rfl w.heap.size 35 i0 (.agg (Array.replicate 2 (.int .u64 0))) 2 16 Tryd.underlying28 I0.out.1 I0.out.2.1 I0.out.2.2.1 I0.out.2.2.2 rfl (by decide) u3 k _ rfl (OWN.out.alloc _) ⟨w3.heap.size, 0, none⟩ 1 1 [.int .u64 ((lo64 (f k) : Nat) : Int), .int .u64 ((hi64 (f k) : Nat) : Int)] rfl rfl (cell_two_new _ _ _ _) (fun x hx => by simp at hx; rcases hx with rfl | rfl <;> rfl) (by unfold maxLen; omega) (by omega) (by have := HI.out.below.size; have := B4.out.size; simp; omega) ?_); intro v' w4 h2 h3 h4; clear h4; have HN := Lib.hid (L64Inv.next HI.out B4.out h2 h3); clear h2 h3)
      go_roundw
      case rel => exact ⟨k + 1, by omega, by go_num, HN.out⟩
      case measure => simp [intOf]; omega
    · obtain rfl : k = n := by omega
      have hg : GotW w k f (.returned u3) wr := by
        obtain ⟨g, cap, hv, hgb⟩ := own_slice HI.out.own H1.out
        have hown := HI.out.own
        rw [hv] at hown
        refine ⟨g, cap, by rw [hv], hgb, (hown.lt g (by simp [Value.ownBlock])).2, fun i hi => ?_, HI.out.below⟩
        have hw := wcells_get f k i hi
        exact ⟨by rw [hown.cellAt (i * 2) (by omega)]; exact hw.1, by rw [hown.cellAt (i * 2 + 1) (by omega)]; exact hw.2⟩
      have HG := Lib.hid hg
      clear hg
      go_wp2_with fail
      go_ret
      exact HG.out

/-- Two numbers of 128 bits, compared. -/
theorem weq (x y x' y' : Int) (w : World) : (Op.equalIn 10000 35 (.agg #[.int .u64 x, .int .u64 y]) (.agg #[.int .u64 x', .int .u64 y'])).run Tryd.prog w = .ok (x == x' && y == y') w := by
  obtain ⟨i, hi⟩ : ∃ i, Tryd.prog.info? 33 = some i := Option.isSome_iff_exists.1 (by kernel_rfl)
  have hc : Tryd.prog.cellsOf 33 = 1 := by kernel_rfl
  have he : Tryd.prog.plainKey 33 = true := by kernel_rfl
  rw [run_equalIn_array w 9999 _ _ Tryd.underlying35 hi, hc]
  have p : ∀ (xs : Array Value) (v : Value) (off : Nat) (w : World), xs[off]? = some v → (part 33 xs off).run Tryd.prog w = .ok v w := fun xs v off w h => run_part_plain w he h
  have q : ∀ (a b : Int) (w : World), (Op.equalIn 9999 33 (.int .u64 a) (.int .u64 b)).run Tryd.prog w = .ok (a == b) w := fun a b w => run_equalIn_int w 9998 33 .u64 .u64 a b Tryd.underlying33
  simp only [Op.eqItems, List.range_succ, List.range_zero, List.nil_append, List.cons_append, Sem.run_bind, Nat.zero_mul, Nat.one_mul, Nat.mul_one]
  rw [p #[.int .u64 x, .int .u64 y] (.int .u64 x) 0 w rfl, Result.andThen_ok, p #[.int .u64 x', .int .u64 y'] (.int .u64 x') 0 w rfl, Result.andThen_ok, q, Result.andThen_ok]
  by_cases h : x = x'
  · subst h
    simp only [beq_self_eq_true, Bool.not_true, Bool.false_eq_true, if_false, Sem.run_bind]
    rw [p #[.int .u64 x, .int .u64 y] (.int .u64 y) 1 w rfl, Result.andThen_ok, p #[.int .u64 x, .int .u64 y'] (.int .u64 y') 1 w rfl, Result.andThen_ok, q, Result.andThen_ok]
    by_cases h2 : y = y'
    · subst h2; simp
    · simp [h2]
  · simp [h]

set_option maxRecDepth 100000 in
set_option maxHeartbeats 1000000 in
theorem same_yes (n b o cp c cq : Nat) (f : Nat → Nat) (hn : n ≤ 4096) (hf : ∀ i, i < n → f i < W8) (w : World) (hr : BRow w b o n f) (hw : WRow w c n f) :
    Calls Tryd.prog 7 #[.slice (some ⟨b, o, none⟩) n cp, .slice (some ⟨c, 0, none⟩) n cq] w fun e w' => e = .returned (.bool true) ∧ Below w.heap.size w w' := by
  have HF := Lib.hid hf
  have HR := Lib.hid hr
  have HW := Lib.hid hw
  have hnn : ((n : Int) != (n : Int)) = false := by simp
  clear hf hr hw
  go_enter Tryd.func7, Tryd.ntmps7
  go_wp2_with fail
  obtain ⟨w1, hw1⟩ : ∃ w1, w1 = w := ⟨_, rfl⟩
  have hi1 : Below w.heap.size w w1 := by rw [hw1]; exact Below.refl _ _
  rw [← hw1]
  clear hw1
  go_loopw [13] (fun i wr => ∃ k : Nat, k ≤ n ∧ i = .int .i64 k ∧ Hid (Below w.heap.size w wr)) (fun i _ => n - (intOf i).toNat)
  case atStart => exact ⟨0, Nat.zero_le _, rfl, hi1⟩
  case round =>
    obtain ⟨k, hk, rfl, HI⟩ := hrel
    clear hi1
    by_cases hlt : k < n
    · have Hlt := Lib.hid hlt
      have hy : By wr b (o + k * 16) 16 (f k) := (HR.out k hlt).keep HI.out ((HR.out k hlt).lt (by omega))
      have HY := Lib.hid hy
      have z0 := (HW.out k hlt).1
      have z1 := (HW.out k hlt).2
      have hcl := cell_lt z0
      rw [← HI.out.cell hcl] at z0
      rw [← HI.out.cell (cell_lt z1)] at z1
      unfold wlo at z0
      unfold whi at z1
      have hcl2 : c < wr.heap.size := by have := HI.out.size; simp at hcl; omega
      obtain ⟨A, hA⟩ : ∃ A, A = (bts 16 (f k)).toArray := ⟨_, rfl⟩
      have SK := Lib.hid (show ∀ W, Below wr.heap.size wr W → (fun W => W.rangeAt b (o + k * 16) (bts 16 (f k)) ∧ W.cell? ⟨c, k * 2, none⟩ = some (.int .u64 ((lo64 (f k) : Nat) : Int)) ∧ W.cell? ⟨c, k * 2 + 1, none⟩ = some (.int .u64 ((hi64 (f k) : Nat) : Int))) W from fun W hW => ⟨(HY.out.keep hW (HY.out.lt (by omega))).range, by rw [hW.cell (p := ⟨c, k * 2, none⟩) hcl2]; exact z0, by rw [hW.cell (p := ⟨c, k * 2 + 1, none⟩) hcl2]; exact z1⟩)
      have K19 := Lib.hid (show ∀ W, Hid (Below wr.heap.size wr W) → Calls Tryd.prog 19 #[.agg A] W fun e w' => e = .returned (.agg #[.int .u64 ((lo64 (f k) : Nat) : Int), .int .u64 ((hi64 (f k) : Nat) : Int)]) ∧ Hid (Below wr.heap.size wr w') from by
        intro W hW
        rw [hA]
        refine (n64_yes (f k) (HF.out k hlt) W).mono ?_
        rintro e w' ⟨he, hb⟩
        exact ⟨he, Below.trans hW.out (hb.mono hW.out.size)⟩)
      have HA := Lib.hid hA
      have hq : ∀ w, (Op.equalIn 10000 35 (.agg #[.int .u64 ((lo64 (f k) : Nat) : Int), .int .u64 ((hi64 (f k) : Nat) : Int)]) (.agg #[.int .u64 ((lo64 (f k) : Nat) : Int), .int .u64 ((hi64 (f k) : Nat) : Int)])).run Tryd.prog w = .ok true w := fun w => by rw [weq]; simp
      clear hy hcl hcl2 hA z0 z1
      go_wp2_with fail
      refine wp_region_held_drew (S := fun W => W.rangeAt b (o + k * 16) (bts 16 (f k)) ∧ W.cell? ⟨c, k * 2, none⟩ = some (.int .u64 ((lo64 (f k) : Nat) : Int)) ∧ W.cell? ⟨c, k * 2 + 1, none⟩ = some (.int .u64 ((hi64 (f k) : Nat) : Int))) (by kernel_rfl) ?_ (fun hHeld => ?_)
      · exact SK.out _ (Below.refl _ _).drew
      have h2 := Lib.hid (Below.drew (Below.refl wr.heap.size wr))
      refine wpAnyH_take (i := 0) (v := ?v0) rfl (by kernel_rfl) (by kernel_rfl) (by kernel_rfl) (fun _ _ _ h => h) (Or.inl ⟨by rfl, ?hy0⟩) hHeld ?rest0
      case hy0 => (intro w hSw; obtain ⟨_, hSw0, hSw1⟩ := hSw; go_simp; with_reducible rfl)
      simp only [Act.put, List.setIfInBounds_toArray, List.set_cons_zero, List.set_cons_succ]
      refine wpAnyH_take (i := 1) (v := ?v1) rfl (by kernel_rfl) (by kernel_rfl) (by kernel_rfl) (fun _ _ _ h => h) (Or.inl ⟨by rfl, ?hy1⟩) hHeld ?rest1
      case hy1 => (intro w hSw; obtain ⟨_, hSw0, hSw1⟩ := hSw; go_simp; with_reducible rfl)
      simp only [Act.put, List.setIfInBounds_toArray, List.set_cons_zero, List.set_cons_succ]
      refine wpAnyH_take (i := 2) (v := ?v2) rfl (by kernel_rfl) (by kernel_rfl) (by kernel_rfl) (fun _ _ _ h => h) (Or.inl ⟨by rfl, ?hy2⟩) hHeld ?rest2
      case hy2 => (intro w hSw; obtain ⟨_, hSw0, hSw1⟩ := hSw; go_simp; with_reducible rfl)
      simp only [Act.put, List.setIfInBounds_toArray, List.set_cons_zero, List.set_cons_succ]
      refine wpAnyH_take (i := 3) rfl (by kernel_rfl) (by kernel_rfl) (by kernel_rfl) (fun _ _ _ h => h) (yields_load16 (by rfl) (.tmp 18) rfl b (o + k * 16) (f k) rfl (fun _ h => h.1) HA.out) hHeld ?restl
      simp only [Act.put, List.setIfInBounds_toArray, List.set_cons_zero, List.set_cons_succ]
      refine wpAnyH_take (i := 5) (v := ?v5) rfl (by kernel_rfl) (by kernel_rfl) (by kernel_rfl) (fun _ _ _ h => h) (Or.inl ⟨by rfl, ?hy5⟩) hHeld ?rest5
      case hy5 => (intro w hSw; obtain ⟨_, hSw0, hSw1⟩ := hSw; go_simp; with_reducible rfl)
      simp only [Act.put, List.setIfInBounds_toArray, List.set_cons_zero, List.set_cons_succ]
      refine wpAnyH_take (i := 6) (v := ?v6) rfl (by kernel_rfl) (by kernel_rfl) (by kernel_rfl) (fun _ _ _ h => h) (Or.inl ⟨by rfl, ?hy6⟩) hHeld ?rest6
      case hy6 => (intro w hSw; obtain ⟨_, hSw0, hSw1⟩ := hSw; go_simp; with_reducible rfl)
      simp only [Act.put, List.setIfInBounds_toArray, List.set_cons_zero, List.set_cons_succ]
      refine wpAnyH_take (i := 7) (v := ?v7) rfl (by kernel_rfl) (by kernel_rfl) (by kernel_rfl) (fun _ _ _ h => h) (Or.inl ⟨by rfl, ?hy7⟩) hHeld ?rest7
      case hy7 => (intro w hSw; obtain ⟨_, hSw0, hSw1⟩ := hSw; go_simp; with_reducible rfl)
      simp only [Act.put, List.setIfInBounds_toArray, List.set_cons_zero, List.set_cons_succ]
      refine wpAnyH_take (i := 8) (v := ?v8) rfl (by kernel_rfl) (by kernel_rfl) (by kernel_rfl) (fun _ _ _ h => h) (Or.inl ⟨by rfl, ?hy8⟩) hHeld ?rest8
      case hy8 => (intro w hSw; obtain ⟨_, hSw0, hSw1⟩ := hSw; go_simp; with_reducible rfl)
      simp only [Act.put, List.setIfInBounds_toArray, List.set_cons_zero, List.set_cons_succ]
      refine wpAnyH_ready (rs := [4]) (by kernel_rfl) (by simp) ?_
      refine AllReadyH.cons rfl (fun K hK => ?_) ?_
      rotate_left
      · exact AllReadyH.nil
      go_simp
      go_at_call 19
      refine (K19.out _ h2).mono ?_
      rintro e w3 ⟨rfl, h3⟩
      try go_wp2_with fail
      refine hK.out _ _ ?_ (fun hHeld => ?_)
      · exact SK.out _ h3.out
      clear hK K
      try simp only [Act.put, List.setIfInBounds_toArray, List.set_cons_zero, List.set_cons_succ]
      refine wpAnyH_take (i := 9) (v := ?v9) rfl (by kernel_rfl) (by kernel_rfl) (by kernel_rfl) (fun _ _ _ h => h) (Or.inl ⟨by rfl, ?hy9⟩) hHeld ?rest9
      case hy9 => (intro w hSw; obtain ⟨_, hSw0, hSw1⟩ := hSw; go_simp; with_reducible rfl)
      simp only [Act.put, List.setIfInBounds_toArray, List.set_cons_zero, List.set_cons_succ]
      refine wpAnyH_done (by kernel_rfl) ?_ _
      have B5 := Lib.hid (HI.out.trans (h3.out.mono HI.out.size))
      clear K19 h3 h2 hHeld SK HA hq
      go_wp2_with fail
      go_roundw
      case rel => exact ⟨k + 1, by omega, by go_num, B5.out⟩
      case measure => simp [intOf]; omega
    · go_wp2_with fail
      go_ret
      exact ⟨rfl, HI.out⟩

/-- A new list of n elements as bytes came back. -/
def GotB (w : World) (n : Nat) (g : Nat → Nat) (e : Ending) (w' : World) : Prop :=
  ∃ nb, e = .returned (.slice (some ⟨nb, 0, none⟩) n n) ∧ w.heap.size ≤ nb ∧ nb < w'.heap.size ∧ BRow w' nb 0 n g ∧ Below w.heap.size w w'

theorem wrap_pow_i (t : Nat) (h : t < 7) : IntKind.i64.wrap ((2 : Int) ^ t) = ((2 ^ t : Nat) : Int) := by
  rcases t with _ | _ | _ | _ | _ | _ | _ | t <;> first | omega | rfl

/-- An element divided by 2^k, as the statements do it. -/
def hv (k x : Nat) : Nat := mt (mt (mt x rsq) (mt (mt (invTwo k) 1) rsq)) 1

set_option maxRecDepth 100000 in
set_option maxHeartbeats 1000000 in
theorem halves_yes (k n b o cp : Nat) (f : Nat → Nat) (hk : k < 7) (hn : n = 2 ^ k) (hf : ∀ i, i < n → f i < P) (w : World) (hg : Glob w) (hr : BRow w b o n f) :
    Calls Tryd.prog 8 #[.slice (some ⟨b, o, none⟩) n cp] w (GotB w n (fun i => hv k (f i))) := by
  have h1 : 0 < n := by rw [hn]; exact Nat.two_pow_pos k
  have hn64 : n ≤ 64 := by
    rw [hn]
    have : 2 ^ k ≤ 2 ^ 6 := Nat.pow_le_pow_right (by omega) (by omega)
    omega
  have HN := Lib.hid hn
  have HF := Lib.hid hf
  have HG := Lib.hid hg
  have HR := Lib.hid hr
  have H1 := Lib.hid h1
  have Hk := Lib.hid hk
  clear hn hf hg hr h1
  go_enter Tryd.func8, Tryd.ntmps8
  go_wp2_with fail
  go_loop [3] (fun i => ∃ t : Nat, t ≤ k ∧ i = .int .u64 t) (fun i => k - (intOf i).toNat)
  case atStart => exact ⟨0, by omega, rfl⟩
  case round =>
    obtain ⟨t, ht, rfl⟩ := hrel
    have hsh := wrap_pow_i t (by omega)
    obtain ⟨q, hq⟩ : ∃ q, q = 2 ^ t := ⟨_, rfl⟩
    rw [← hq] at hsh
    by_cases hlt : t < k
    · have hqn : q < n := by rw [hq, HN.out]; exact Nat.pow_lt_pow_right (by omega) hlt
      clear hq
      go_wp2_with fail
      go_round
      case rel => exact ⟨t + 1, by omega, by go_num⟩
      case measure => simp [intOf]; omega
    · obtain rfl : k = t := by omega
      have hqn : ¬ q < n := by rw [hq, HN.out]; omega
      clear hq
      go_wp2_with fail
      refine (invTwo_yes k (by omega) w HG.out).mono ?_
      rintro e w1 ⟨rfl, hb1⟩
      have B1 := Lib.hid hb1
      clear hb1
      go_wp2_with fail
      refine (vecScale_yes n b o cp (mt (invTwo k) 1) f H1.out (by omega) HF.out (mt_lt _ _) w1 (HG.out.keep B1.out HG.out.size5) (HR.out.keep B1.out ((HR.out 0 H1.out).lt (by omega)))).mono ?_
      rintro e w2 ⟨nb, rfl, g1, g2, g3, g4⟩
      have G := Lib.hid (show GotB w n (fun i => hv k (f i)) (.returned (.slice (some ⟨nb, 0, none⟩) n n)) w2 from ⟨nb, rfl, by have := B1.out.size; omega, g2, g3, B1.out.trans (g4.mono B1.out.size)⟩)
      clear g1 g2 g3 g4
      go_wp2_with fail
      go_ret
      exact G.out
end Go.Proofs.YtimihpddlinmbaaDoor
