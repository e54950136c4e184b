/-
  THE ROW OF FnYrResolve, PROVED, AND ITS TIED CARD.
-/
import Derived.Test.YtillamhoakohdaaGreatDoorCards
import Derived.Test.YtillamhoakohdaaGreatDoorTie
import Derived.ProofKit
import Derived.Lay
import Derived.SevenTiedAt
import Derived.Stop.Joined
import Derived.Test.YtillamhoakohdaaGreatDoorM50
import Derived.Test.YtillamhoakohdaaGreatDoorM51
set_option linter.unusedVariables false
set_option linter.unusedSimpArgs false
namespace Go.Proofs.YtillamhoakohdaaGreatDoor
open Go Go.ChangeShapes Go.WideShapes Go.ChangeAt Go.RowKit
open Go.ChangeMaps (open_string shut_string)

theorem own : ownKnob Tryz.prog.godebug = none := by kernel_rfl
set_option maxRecDepth 100000 in
theorem fnYrResolve_lifted (os : Os) (started : os.Started) (H : Type) (enc : TypeId × Value → H) :
  ReturnsInHanded {} Tryz.checked os 3 .any (fun w args => (Rows.fnYrResolveSpec.pre enc Tryz.prog Tryz.f3 Rows.fnYrResolveRow.domain false w args ∧ laidMetH Tryz.prog Rows.fnYrResolveRow.laid w) ∧ sizedMet enc Tryz.prog Tryz.f3 (OpenSpec.ofChange Rows.fnYrResolveSpec) false w args)
   (Rows.fnYrResolveSpec.post enc Tryz.prog Tryz.f3 false true false false) := by
 refine returnsInHanded_of_change_and (C := Tryz.checked) (X := fun w _ => laidMetH Tryz.prog Rows.fnYrResolveRow.laid w) (fun _ _ _ hh h => h.of_heap hh) own started (by kernel_rfl) Tryz.func3
  (ChangeSpec.witness_shaped (enc := enc) (C := Tryz.checked) (os := os) (X := fun w _ => laidMetH Tryz.prog Rows.fnYrResolveRow.laid w) false (World.laidAll Tryz.prog os Rows.fnYrResolveRow.laid) #[.string ⟨#[]⟩, .int .u8 0] 8 (World.laidAll_os _ _ _)
   (World.shaped_of_ZipB (by kernel_rfl) (by kernel_rfl)) (by kernel_rfl) (by kernel_rfl) (by kernel_rfl)
   (by rw [MakeChecks.laidMetH_plain _ _ _ (by kernel_rfl)]; exact laidMet_laidAll _ (by kernel_rfl) (by kernel_rfl))) ?_
 intro W base args ds gs before hval0 hW hc _ hL _
 have hval : ∀ (j : Nat) t v, Tryz.f3.params[j]? = some t → args[j]? = some v → Value.okWide Tryz.prog W .any base t v := hval0
 have hW' := hW
 obtain ⟨p, q, hA0, hV, rfl, _, _⟩ := hW
 have hA : DataW.TrodAll enc Tryz.prog W 0 (fun _ => true) true Tryz.f3.params.toList args.toList ds p := hA0
 rw [Tryz.params3] at hA hval
 obtain ⟨v0, v1, d0, d1, p0, p1, rfl, rfl, rfl, h0, h1⟩ := trodAll_two hA
 obtain ⟨rfl, rfl⟩ := trodVars_none hV
 obtain ⟨s, rfl, rfl, rfl, ws⟩ := open_string Tryz.underlying9 (hval 0 9 v0 rfl rfl) h0
 obtain ⟨k, rfl, rfl, rfl, wk⟩ := open_int Tryz.underlying5 (hval 1 5 v1 rfl rfl) h1
 have hk : 0 ≤ k ∧ k ≤ 255 := by
  have hmin : IntKind.u8.min = 0 := rfl
  have hmax : IntKind.u8.max = 255 := rfl
  simp only [Lit.wf, Bool.and_eq_true, decide_eq_true_eq] at wk
  omega
 rw [MakeChecks.laidMetH_plain _ _ _ (by kernel_rfl)] at hL
 have HG := glob_of_laid hL
 clear hA0 hval0
 simp only [List.append_nil] at hW'
 refine (fnYrResolve_any s k hk.1 hk.2 W HG).mono fun e W' ⟨hB, he⟩ => ?_
 subst he
 refine ⟨_, rfl, _, _, _, [], [], [], hW', ?_, ?_, ?_, hB.frame _, fun h => by cases h⟩
 ·exact trodAll_mk1 (shut_bool Tryz.underlying4 _)
 ·exact trodAll_mk2 (shut_string Tryz.underlying9 ws) (shut_int Tryz.underlying5 wk)
 ·rfl

theorem fnYrResolve_holds : Rows.FnYrResolveSaid :=
 OpenClaim.holds_of_wide 3 Tryz.f3 rfl rfl rfl rfl rfl rfl rfl ⟨rfl, rfl, rfl, rfl, rfl⟩ rfl rfl rfl rfl rfl (by kernel_rfl) Tryz.func3 (by kernel_rfl)
  (of_decide_eq_true (by kernel_rfl)) (by unfold Func.isWrapper; first | (rw [if_pos (by decide +kernel)]; kernel_rfl) | (rw [if_neg (by decide +kernel)]; exact ⟨rfl, rfl⟩))
  (fun os started H enc _ => fnYrResolve_lifted os started H enc)
theorem fnYrResolve_card : Rows.FnYrResolveCardSaid :=
 Claim7.holds_tied_plain_at .later [] [.data, .data, .widerDeep, .widerDeep, .data, .data, .data, .data, .data, .sentinel, .sentinel, .pinned, .pinned] true (true, "df408971289703f4e8b9ac6b136840ed8dfde314c93f8f75306b4fec27d7656f") true
  fnYrResolve_holds (fun _ h => by cases h) (by kernel_rfl) (fun _ h => by cases h) fnYrResolve_row_tie rfl ⟨rfl, rfl⟩ (by kernel_rfl) rfl
  (fun f fn hf hfn => by
   obtain rfl : f = 3 := Option.some.inj ((show Tryz.prog.funcNamed "given.example/pub-sestina/laws.FnYrResolve" = some 3 by kernel_rfl).symm.trans hf) |>.symm
   obtain rfl : fn = Tryz.f3 := (Option.some.inj (Tryz.func3.symm.trans hfn)).symm
   exact ⟨by kernel_rfl, fun j t ht => by
    rw [Tryz.params3] at ht
    have hm : t ∈ [9, 5] := by simpa using Array.mem_of_getElem? ht
    have hall : ([9, 5].all fun u => !Tryz.prog.wantsStandIn u) = true := by kernel_rfl
    exact (show Tryz.prog.wantsStandIn t = false by simpa using List.all_eq_true.1 hall t hm)⟩)
  (by kernel_rfl)
#print axioms fnYrResolve_card
end Go.Proofs.YtillamhoakohdaaGreatDoor
