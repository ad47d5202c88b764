/-
  STATEMENT 2: from the law's walk to the row, and the tied card.
-/
import Derived.Test.Qxb6612971aDoorRows
import Derived.Test.Qxb6612971aDoorTie
import Derived.Test.Qxb6612971aDoorCards
import Derived.Test.Qxb6612971aDoorLaw
import Derived.Test.Qxb6612971aDoorWit
import Derived.ProofKit
import Derived.ChangeSame
import Derived.ChangeVars
import Derived.JoinedOf
import Derived.RowKit
import Derived.RowKitTokens
import Derived.LaidLaws
import Derived.LaidHandle
import Derived.Stop.Joined
import Derived.SevenTiedAt
namespace Go.Proofs.Qxb6612971aDoor
open Go.ChangeShapes Go.WideShapes Go.ChangeAt Go.RowKit
open Go.ChangeMaps (open_string shut_string)

theorem own : ownKnob Tryd.prog.godebug = none := by kernel_rfl
theorem errorAt : Tryd.prog.globalNamed "errors.errorType" = some 0 := by kernel_rfl
theorem oneRow : ((List.range 170).filter fun t => Tryd.prog.rowNamed t [101, 114, 114, 111, 114]) = [37] := by kernel_rfl
theorem sizeTypes : Tryd.prog.types.size = 170 := by kernel_rfl

/-- What the condition gives a walk: the variable's one cell. -/
theorem handle_of_laid {W : World} (h : laidMetH Tryd.prog Rows.fnUnreachableFindsTheWrapperAnywhereInAJoinRow.laid W) : HoldsErr W := by
  have h' : laidMet Tryd.prog [] W ∧ handlesMet Tryd.prog Rows.fnUnreachableFindsTheWrapperAnywhereInAJoinRow.laid W := h
  obtain ⟨name, u, ty, e1, e2, e3, e4, e5⟩ := h'.2 _ (List.mem_singleton.2 rfl)
  have en : name = [101, 114, 114, 111, 114] := (Option.some.inj e1).symm
  subst en
  have k2 : (some 71 : Option TypeId) = some u := Eq.trans (by kernel_rfl) e2
  obtain rfl := Option.some.inj k2
  have hm : ty ∈ (List.range 170).filter fun t => Tryd.prog.rowNamed t [101, 114, 114, 111, 114] := List.mem_filter.2 ⟨List.mem_range.2 (by rw [← sizeTypes]; exact e3), e4⟩
  rw [oneRow] at hm
  obtain rfl := List.mem_singleton.1 hm
  have hh : typeHandle Tryd.prog 37 = .pointer (some ⟨7, 37, none⟩) := by kernel_rfl
  rw [hh] at e5
  show W.cell? ⟨0, 0, none⟩ = _
  simpa using World.var?_cell errorAt e5 0

set_option maxRecDepth 100000 in
theorem lifted (os : Os) (started : os.Started) (H : Type) (enc : TypeId × Value → H) :
    ReturnsInHanded {} Tryd.checked os 3 .any (fun w args => (Rows.fnUnreachableFindsTheWrapperAnywhereInAJoinSpec.pre enc Tryd.prog Tryd.f3 [] false w args ∧ laidMetH Tryd.prog Rows.fnUnreachableFindsTheWrapperAnywhereInAJoinRow.laid w) ∧ sizedMet enc Tryd.prog Tryd.f3 (OpenSpec.ofChange Rows.fnUnreachableFindsTheWrapperAnywhereInAJoinSpec) false w args)
      (Rows.fnUnreachableFindsTheWrapperAnywhereInAJoinSpec.post enc Tryd.prog Tryd.f3 false true false false) := by
  refine returnsInHanded_of_change_and (C := Tryd.checked) (X := fun w _ => laidMetH Tryd.prog Rows.fnUnreachableFindsTheWrapperAnywhereInAJoinRow.laid w) (fun _ _ _ hh h => h.of_heap hh) own started (by kernel_rfl) Tryd.func3
    (ChangeSpec.witness_shaped (enc := enc) (C := Tryd.checked) (os := os) (X := fun w _ => laidMetH Tryd.prog Rows.fnUnreachableFindsTheWrapperAnywhereInAJoinRow.laid w) false (laidOf (World.holding Tryd.prog os ⟨#[], #[], []⟩)) #[.string ⟨#[]⟩, .string ⟨#[]⟩] 8 rfl (wit_shaped os _) (by kernel_rfl) (by kernel_rfl) (by kernel_rfl) (laid_met os _)) ?_
  intro W base args ds gs before hval0 hW _ _ hL _
  have hval : ∀ (j : Nat) t v, Tryd.f3.params[j]? = some t → args[j]? = some v → Value.okWide Tryd.prog W .any base t v := hval0
  have hW' := hW
  obtain ⟨p, q, hA0, hV0, rfl, hfz, hnd⟩ := hW
  have hA : DataW.TrodAll enc Tryd.prog W 0 (fun _ => true) true Tryd.f3.params.toList args.toList ds p := hA0
  have hV : DataW.TrodVars enc Tryd.prog W (fun _ => true) [] gs q := hV0
  rw [Tryd.params3] at hA hval
  obtain ⟨v0, v1, d0, d1, p0, p1, rfl, rfl, rfl, h0, h1⟩ := trodAll_two hA
  obtain ⟨a, rfl, rfl, rfl, wa⟩ := open_string Tryd.underlying9 (hval 0 9 v0 rfl rfl) h0
  obtain ⟨b, rfl, rfl, rfl, wb⟩ := open_string Tryd.underlying9 (hval 1 9 v1 rfl rfl) h1
  have hg := handle_of_laid hL
  obtain ⟨rfl, rfl⟩ := trodVars_none hV
  clear hA0 hval0
  refine (law_walk a b W wa wb hg).mono fun e W' ⟨he, hb⟩ => ?_
  subst he
  refine ⟨_, rfl, _, _, _, [], [], [], hW', ?_, ?_, rfl, hb.frame _, fun h => by cases h⟩
  · exact trodAll_mk1 (shut_bool Tryd.underlying4 true)
  · exact trodAll_mk2 (shut_string Tryd.underlying9 wa) (shut_string Tryd.underlying9 wb)

theorem row_holds : Rows.FnUnreachableFindsTheWrapperAnywhereInAJoinSaid :=
  OpenClaim.holds_of_wide 3 Tryd.f3 rfl rfl rfl rfl rfl rfl rfl ⟨rfl, rfl, rfl, rfl, rfl⟩ rfl rfl rfl rfl rfl (by kernel_rfl) Tryd.func3 (by kernel_rfl)
    (of_decide_eq_true (by kernel_rfl)) (by unfold Func.isWrapper; rw [if_neg (of_decide_eq_false (by kernel_rfl))]; exact ⟨rfl, rfl⟩)
    (fun os started H enc _ => lifted os started H enc)

/-- THE STATEMENT: the tied card. -/
theorem fnUnreachableFindsTheWrapperAnywhereInAJoin_card : Rows.FnUnreachableFindsTheWrapperAnywhereInAJoinCardSaid :=
  Claim7.holds_tied_plain_at .later [] [.handle] true (true, "b19e5c8103cef3137067ea418a356543b4ca6a530b65bd52d12a850db1f29b7e") true
    row_holds (fun _ h => by cases h) (by kernel_rfl) (fun _ h => by cases h) fnUnreachableFindsTheWrapperAnywhereInAJoin_row_tie rfl ⟨rfl, rfl⟩ (by kernel_rfl) rfl
    (fun f fn hf hfn => by
      obtain rfl : f = 3 := Option.some.inj ((show Tryd.prog.funcNamed Rows.fnUnreachableFindsTheWrapperAnywhereInAJoinRow.func = some 3 by kernel_rfl).symm.trans hf) |>.symm
      obtain rfl : fn = Tryd.f3 := (Option.some.inj (Tryd.func3.symm.trans hfn)).symm
      exact ⟨by kernel_rfl, fun j t ht => by
        rw [Tryd.params3] at ht
        have h9 : t = 9 := by
          rcases j with _ | _ | j
          · simpa using ht.symm
          · simpa using ht.symm
          · simp at ht
        subst h9
        exact (show Tryd.prog.wantsStandIn 9 = false by kernel_rfl)⟩)
    (by kernel_rfl)

end Go.Proofs.Qxb6612971aDoor
