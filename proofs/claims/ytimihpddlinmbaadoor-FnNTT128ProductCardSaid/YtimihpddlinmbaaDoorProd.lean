/-
  The row of products, and its tied card.
-/
import Derived.Test.YtimihpddlinmbaaDoorE
import Derived.Test.YtimihpddlinmbaaDoorAa
import Derived.Test.YtimihpddlinmbaaDoorCards
import Derived.Test.YtimihpddlinmbaaDoorTie
namespace Go.Proofs.YtimihpddlinmbaaDoor
open Go.ChangeShapes Go.WideShapes Go.ChangeAt Go.RowKit Go.Deep
set_option linter.unusedVariables false
set_option linter.unusedSimpArgs false

theorem ownKnobNone' : ownKnob Tryd.prog.godebug = none := by kernel_rfl
theorem laidOut' : laidOutB Tryd.prog = true := by kernel_rfl

set_option maxRecDepth 100000 in
theorem prod_door (os : Os) (args : Array Value) : laidMetH Tryd.prog Rows.fnNTT128ProductRow.laid ((World.doorLaid Tryd.prog 120 os).forCall (fun _ _ => 0) ⟨#[], args, []⟩).memory :=
  laidMetH_of_parts3 (fuel := 8) (laidMet_of_run' 8 (by kernel_rfl) (by kernel_rfl)) (by kernel_rfl) (by kernel_rfl)

set_option maxRecDepth 100000 in
theorem prod_lifted (os : Os) (started : os.Started) (H : Type) (enc : TypeId × Value → H) :
    ReturnsInHanded {} Tryd.checked os 4 .any (fun w args => (Rows.fnNTT128ProductSpec.pre enc Tryd.prog Tryd.f4 [] false w args ∧ laidMetH Tryd.prog Rows.fnNTT128ProductRow.laid w) ∧ sizedMet enc Tryd.prog Tryd.f4 (OpenSpec.ofChange Rows.fnNTT128ProductSpec) false w args)
      (Rows.fnNTT128ProductSpec.post enc Tryd.prog Tryd.f4 false true false false) := by
  refine returnsInHanded_of_change_and (C := Tryd.checked) (X := fun w _ => laidMetH Tryd.prog Rows.fnNTT128ProductRow.laid w) (fun _ _ _ hh h => h.of_heap hh) ownKnobNone' started (by kernel_rfl) Tryd.func4
    (ChangeSpec.witness_shaped (enc := enc) (C := Tryd.checked) (os := os) (X := fun w _ => laidMetH Tryd.prog Rows.fnNTT128ProductRow.laid w) false (World.doorLaid Tryd.prog 120 os) #[.slice none 0 0, .slice none 0 0] 8 rfl (World.shaped_of_RefB (by kernel_rfl) (by kernel_rfl)) (by kernel_rfl) (by kernel_rfl) (by kernel_rfl) (prod_door os _)) ?_
  intro W base args ds gs before hval0 hW _ _ hL _
  have hval : ∀ (j : Nat) t v, Tryd.f4.params[j]? = some t → args[j]? = some v → Value.okWide Tryd.prog W .any base t v := hval0
  have hW' := hW
  obtain ⟨p, q, hA0, hV, rfl, hfz, hnd⟩ := hW
  have hA : DataW.TrodAll enc Tryd.prog W 0 (fun _ => true) true Tryd.f4.params.toList args.toList ds p := hA0
  rw [Tryd.params4] at hA hval
  obtain ⟨v0, v1, d0, d1, p0, p1, rfl, rfl, rfl, h0, h1⟩ := trodAll_two hA
  obtain ⟨qa, n, cp, rfl, harg⟩ := open_arg (hval 0 22 v0 rfl rfl) h0
  obtain ⟨qb, n', cp', rfl, harg'⟩ := open_arg (hval 1 22 v1 rfl rfl) h1
  have hG := glob_of_laid hL
  clear hA0 hval0
  have hlt0 : ∀ x ∈ p0, x.block < W.heap.size := fun x hx => hW'.lt x (by simp [hx])
  have hlt1 : ∀ x ∈ p1, x.block < W.heap.size := fun x hx => hW'.lt x (by simp [hx])
  match gs, hV with
  | [x1, x2, x3, x4], hV =>
    refine (prod_any law_product qa qb n n' cp cp' W hG harg harg').mono fun e W' ⟨he, hb⟩ => ?_
    subst he
    exact ⟨_, rfl, _, _, _, [], p0 ++ p1, q, hW', trodAll_mk1 (shut_bool Tryd.underlying4 _), trodAll_mk2 (Below.trod laidOut' (by kernel_rfl) (of_decide_eq_true (by kernel_rfl)) h0 hb hlt0) (Below.trod laidOut' (by kernel_rfl) (of_decide_eq_true (by kernel_rfl)) h1 hb hlt1), hb.trodVars laidOut' (by kernel_rfl) hV, hb.frame _, fun h => by cases h⟩

theorem fnNTT128Product_holds : Rows.FnNTT128ProductSaid :=
  OpenClaim.holds_of_wide 4 Tryd.f4 rfl rfl rfl rfl rfl rfl rfl ⟨rfl, rfl, rfl, rfl, rfl⟩ rfl rfl rfl rfl rfl (by kernel_rfl) Tryd.func4 (by kernel_rfl)
    (of_decide_eq_true (by kernel_rfl)) (by unfold Func.isWrapper; first | (rw [if_pos (by decide +kernel)]; kernel_rfl) | (rw [if_neg (by decide +kernel)]; exact ⟨rfl, rfl⟩))
    (fun os started H enc _ => prod_lifted os started H enc)

/-- The tied card. -/
theorem fnNTT128ProductCard_holds : Rows.FnNTT128ProductCardSaid :=
  Claim7.holds_tied_plain_at .later [] [.data, .data, .data, .data, .data, .sentinel] true (true, "d511d4ad4df7f56346a1b2b6822f9fda1b2b5b4c5132368b8f3090dce09b2c93") false
    fnNTT128Product_holds (fun _ h => by cases h) (by kernel_rfl) (fun _ h => by cases h) fnNTT128Product_row_tie rfl ⟨rfl, rfl⟩ (by kernel_rfl) rfl
    (fun f fn hf hfn => by
      obtain rfl : f = 4 := Option.some.inj ((show Tryd.prog.funcNamed "loop.example/pub-g03033/laws.FnNTT128Product" = some 4 by kernel_rfl).symm.trans hf) |>.symm
      obtain rfl : fn = Tryd.f4 := (Option.some.inj (Tryd.func4.symm.trans hfn)).symm
      exact ⟨by kernel_rfl, fun j t ht => by
        rw [Tryd.params4] at ht
        have hm : t ∈ [22] := by simpa using Array.mem_of_getElem? ht
        have hall : ([22].all fun u => !Tryd.prog.wantsStandIn u) = true := by kernel_rfl
        exact (show Tryd.prog.wantsStandIn t = false by simpa using List.all_eq_true.1 hall t hm)⟩)
    (by kernel_rfl)
end Go.Proofs.YtimihpddlinmbaaDoor
