/-
  The reference over the field of 128 bits: whether all of a list are below the order.
-/
import Derived.Test.YtimihpddlinmbaaDoorSa
import Derived.Deep.RegionHeld3
namespace Go.Proofs.YtimihpddlinmbaaDoor
open Go.RowKit
set_option linter.unusedVariables false
set_option linter.unusedSimpArgs false

set_option maxRecDepth 100000 in
set_option maxHeartbeats 1000000 in
theorem hasAll_yes (n b o cp : Nat) (f : Nat → Nat) (hn : n ≤ 4096) (hf : ∀ i, i < n → f i < W8) (w : World) (hr : BRow w b o n f) :
    Calls Tryd.prog 29 #[.slice (some ⟨b, o, none⟩) n cp] w fun e w' => e = .returned (.bool (hasAll n f)) ∧ Below w.heap.size w w' := by
  have HF := Lib.hid hf
  have HR := Lib.hid hr
  clear hf hr
  go_enter Tryd.func29, Tryd.ntmps29
  go_wp2_with fail
  obtain ⟨w1, hw1⟩ : ∃ w1, w1 = w := ⟨_, rfl⟩
  have hi1 : Below w.heap.size w w1 := by rw [hw1]; exact Below.refl _ _
  rw [← hw1]
  clear hw1
  go_loopw [7] (fun i wr => ∃ k : Nat, k ≤ n ∧ i = .int .i64 k ∧ Hid (∀ i, i < k → f i < P) ∧ Hid (Below w.heap.size w wr)) (fun i _ => n - (intOf i).toNat)
  case atStart => exact ⟨0, Nat.zero_le _, rfl, fun i hi => by omega, hi1⟩
  case round =>
    obtain ⟨k, hk, rfl, HP, HI⟩ := hrel
    clear hi1
    by_cases hlt : k < n
    · have Hlt := Lib.hid hlt
      have hy : By wr b (o + k * 16) 16 (f k) := (HR.out k hlt).keep HI.out ((HR.out k hlt).lt (by omega))
      have HY := Lib.hid hy
      clear hy
      go_wp2_with (first | ((with_reducible refine wpList_load16 ?_ (.tmp 9) ?_ b (o + k * 16) (f k) ?_ HY.out ?_); rfl; rfl; rfl) | ((with_reducible refine wpList_store16 ?_ (.tmp 4) (.tmp 10) ?_ wr.heap.size 0 (f k) ?_ rfl ?_ ?_ ?_); rfl; rfl; rfl; rfl; exact Sp.new rfl))
      obtain ⟨w2, hw2⟩ : ∃ w2, w2 = (wr.alloc (.cells z16 30)).setCells wr.heap.size 0 (bts 16 (f k)) := ⟨_, rfl⟩
      have hb2 : Below wr.heap.size wr w2 := by rw [hw2]; exact Below.stored ((Below.refl _ wr).alloc (Nat.le_refl _) _) (Nat.le_refl _)
      have hs2 : w2.heap.size = wr.heap.size + 1 := by rw [hw2, size_setCells]; simp
      have hy2 : By w2 wr.heap.size 0 16 (f k) := by rw [hw2]; exact (Sp.new rfl).stored _
      unfold z16 at hw2
      rw [← hw2]
      clear hw2
      obtain ⟨A, hA⟩ : ∃ A, A = (bts 16 (f k)).toArray := ⟨_, rfl⟩
      have K11 := Lib.hid (show ∀ W, Hid (Below w2.heap.size w2 W) → Calls Tryd.prog 11 #[] W fun e w' => e = .returned FV ∧ Hid (Below w2.heap.size w2 w') from by
        intro W hW
        refine (f64_yes W).mono ?_
        rintro e w' ⟨he, hb⟩
        exact ⟨he, Below.trans hW.out (hb.mono hW.out.size)⟩)
      have K19 := Lib.hid (show ∀ W, Hid (Below w2.heap.size w2 W) → Calls Tryd.prog 19 #[.agg A] W fun e w' => e = .returned (wv (f k)) ∧ Hid (Below w2.heap.size w2 w') from by
        intro W hW
        rw [hA]
        refine (n64_yes (f k) (HF.out k hlt) W).mono ?_
        rintro e w' ⟨he, hb⟩
        exact ⟨he, Below.trans hW.out (hb.mono hW.out.size)⟩)
      obtain ⟨bb, hbb⟩ : ∃ bb, bb = hasB (f k) := ⟨_, rfl⟩
      have HBB := Lib.hid (show bb = decide (f k < P) by rw [hbb]; exact hasB_iff (f k) (HF.out k hlt))
      have K44 := Lib.hid (show ∀ W, Hid (Below w2.heap.size w2 W) → Calls Tryd.prog 44 #[FV, wv (f k)] W fun e w' => e = .returned (.bool bb) ∧ Hid (Below w2.heap.size w2 w') from by
        intro W hW
        rw [hbb]
        refine (has_yes (f k) W).mono ?_
        rintro e w' ⟨he, hb⟩
        exact ⟨he, Below.trans hW.out (hb.mono hW.out.size)⟩)
      have HA := Lib.hid hA
      have S2 := Lib.hid hs2
      have B2 := Lib.hid hb2
      have SK := Lib.hid (show ∀ W, Below w2.heap.size w2 W → W.rangeAt wr.heap.size 0 (bts 16 (f k)) from fun W hW => (hy2.keep hW (by omega)).range)
      clear hbb hA hb2 hs2 hy2
      refine wp_region_held_drew (S := fun W => W.rangeAt wr.heap.size 0 (bts 16 (f k))) (by kernel_rfl) ?_ (fun hHeld => ?_)
      · exact SK.out _ (Below.refl _ _).drew
      have h2 := Lib.hid (Below.drew (Below.refl w2.heap.size w2))
      refine wpAnyH_take (i := 1) rfl (by kernel_rfl) (by kernel_rfl) (by kernel_rfl) (fun _ _ _ h => h) (yields_load16 (by rfl) (.tmp 4) rfl wr.heap.size 0 (f k) rfl (fun _ h => h) HA.out) hHeld ?restl
      simp only [Act.put, List.setIfInBounds_toArray, List.set_cons_zero, List.set_cons_succ]
      refine wpAnyH_ready (rs := [0]) (by kernel_rfl) (by simp) ?_
      refine AllReadyH.cons rfl (fun K hK => ?_) ?_
      rotate_left
      · exact AllReadyH.nil
      go_simp
      go_at_call 11
      refine (K11.out _ h2).mono ?_
      rintro e w3 ⟨rfl, h3⟩
      try go_wp2_with fail
      refine hK.out _ _ ?_ (fun hHeld => ?_)
      · exact SK.out _ h3.out
      clear hK K
      try simp only [Act.put, List.setIfInBounds_toArray, List.set_cons_zero, List.set_cons_succ]
      refine wpAnyH_ready (rs := [2]) (by kernel_rfl) (by simp) ?_
      refine AllReadyH.cons rfl (fun K hK => ?_) ?_
      rotate_left
      · exact AllReadyH.nil
      go_simp
      go_at_call 19
      refine (K19.out _ h3).mono ?_
      rintro e w4 ⟨rfl, h4⟩
      try go_wp2_with fail
      refine hK.out _ _ ?_ (fun hHeld => ?_)
      · exact SK.out _ h4.out
      clear hK K
      try simp only [Act.put, List.setIfInBounds_toArray, List.set_cons_zero, List.set_cons_succ]
      refine wpAnyH_ready (rs := [3]) (by kernel_rfl) (by simp) ?_
      refine AllReadyH.cons rfl (fun K hK => ?_) ?_
      rotate_left
      · exact AllReadyH.nil
      go_simp
      go_at_call 44
      refine (K44.out _ h4).mono ?_
      rintro e w5 ⟨rfl, h5⟩
      try go_wp2_with fail
      refine hK.out _ _ ?_ (fun hHeld => ?_)
      · exact SK.out _ h5.out
      clear hK K
      try simp only [Act.put, List.setIfInBounds_toArray, List.set_cons_zero, List.set_cons_succ]
      refine wpAnyH_take (i := 4) (v := ?va) rfl (by kernel_rfl) (by kernel_rfl) (by kernel_rfl) (fun _ _ _ h => h) (Or.inl ⟨by rfl, ?hya⟩) hHeld ?resta
      case hya => (intro w hSw; go_simp; with_reducible rfl)
      simp only [Act.put, List.setIfInBounds_toArray, List.set_cons_zero, List.set_cons_succ]
      refine wpAnyH_done (by kernel_rfl) ?_ _
      have B5 := Lib.hid (HI.out.trans ((B2.out.mono HI.out.size).trans (h5.out.mono (by have := S2.out; have := HI.out.size; omega))))
      clear K11 K19 K44 h5 h4 h3 h2 hHeld SK HA
      rcases bb with _ | _
      · go_wp2_with fail
        go_ret
        exact ⟨ret_bool (decide_eq_false (fun h => by have h6 := h k Hlt.out; rw [show decide (f k < P) = true from decide_eq_true h6] at HBB; exact Bool.noConfusion HBB.out)).symm, B5.out⟩
      · go_wp2_with fail
        go_roundw
        case rel => exact ⟨k + 1, by omega, by go_num, fun i hi => if e : i = k then by rw [e]; exact of_decide_eq_true HBB.out.symm else HP.out i (by omega), B5.out⟩
        case measure => simp [intOf]; omega
    · go_wp2_with fail
      go_ret
      obtain rfl : k = n := by omega
      exact ⟨ret_bool (decide_eq_true HP.out).symm, HI.out⟩
end Go.Proofs.YtimihpddlinmbaaDoor
