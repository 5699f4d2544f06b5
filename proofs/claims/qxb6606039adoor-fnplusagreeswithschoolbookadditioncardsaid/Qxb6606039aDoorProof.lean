import Derived.Test.Qxb6606039aDoorTie
import Derived.Test.Qxb6606039aDoorCards
import Derived.Test.Qxb6606039aDoorMain
import Derived.Stop.LaidErr
import Derived.Lib.LaidTab
import Derived.WalkKit
import Derived.ProofKit
import Derived.OpenShut
import Derived.LaidMore
import Derived.Lay
import Derived.SevenTiedAt
import Derived.Stop.Joined
import Derived.ShutString
import Derived.ChangeOld
import Derived.Below
namespace Go.Proofs.Qxb6606039aDoor
open Go.ChangeShapes Go.WideShapes Go.ChangeAt Go.RowKit
open Go.ChangeMaps (open_string shut_string)


theorem own : ownKnob Tryd.prog.godebug = none := by kernel_rfl

theorem tab_of {W : World} (h : laidMetH Tryd.prog Rows.fnPlusAgreesWithSchoolbookAdditionRow.laid W) : Tab W := by
  rw [MakeChecks.laidMetH_plain _ _ _ (by kernel_rfl)] at h
  have h3 := h.tail.tail
  exact Lib.tabIs_of_head (g := 2) (t := 79) (e := 32) (n := 20) (zs := Lib.pow10Tab) tab_global (by kernel_rfl) Tryd.underlying79 Tryd.underlying32 (by kernel_rfl) (by kernel_rfl) h3

set_option maxRecDepth 100000 in
theorem lifted (os : Os) (started : os.Started) (H : Type) (enc : TypeId × Value → H) :
    ReturnsInHanded {} Tryd.checked os 3 .any (fun w args => (Rows.fnPlusAgreesWithSchoolbookAdditionSpec.pre enc Tryd.prog Tryd.f3 Rows.fnPlusAgreesWithSchoolbookAdditionRow.domain false w args ∧ laidMetH Tryd.prog Rows.fnPlusAgreesWithSchoolbookAdditionRow.laid w) ∧ sizedMet enc Tryd.prog Tryd.f3 (OpenSpec.ofChange Rows.fnPlusAgreesWithSchoolbookAdditionSpec) false w args)
      (Rows.fnPlusAgreesWithSchoolbookAdditionSpec.post enc Tryd.prog Tryd.f3 false true false false) := by
  refine returnsInHanded_of_change_and (C := Tryd.checked) (X := fun w _ => laidMetH Tryd.prog Rows.fnPlusAgreesWithSchoolbookAdditionRow.laid w) (fun _ _ _ hh h => h.of_heap hh) own started (by kernel_rfl) Tryd.func3
    (ChangeSpec.witness_shaped (enc := enc) (C := Tryd.checked) (os := os) (X := fun w _ => laidMetH Tryd.prog Rows.fnPlusAgreesWithSchoolbookAdditionRow.laid w) false (World.laidAll Tryd.prog os Rows.fnPlusAgreesWithSchoolbookAdditionRow.laid) #[.bool false, .string ByteArray.empty, .int .i64 0] 8 (World.laidAll_os _ _ _)
      (World.shaped_of_ZipB (by kernel_rfl) (by kernel_rfl)) (by kernel_rfl) (by kernel_rfl) (by kernel_rfl)
      (by rw [MakeChecks.laidMetH_plain _ _ _ (by kernel_rfl)]; exact laidMet_laidAll _ (by kernel_rfl) (by kernel_rfl))) ?_
  intro W base args ds gs before hval0 hW hc _ hL _
  have hval : ∀ (j : Nat) t v, Tryd.f3.params[j]? = some t → args[j]? = some v → Value.okWide Tryd.prog W .any base t v := hval0
  have hW' := hW
  obtain ⟨p, q, hA0, hV, rfl, _, _⟩ := hW
  have hA : DataW.TrodAll enc Tryd.prog W 0 (fun _ => true) true Tryd.f3.params.toList args.toList ds p := hA0
  rw [Tryd.params3] at hA hval
  obtain ⟨v0, v1, v2, d0, d1, d2, p0, p1, p2, rfl, rfl, rfl, h0, h1, h2⟩ := trodAll_three hA
  obtain ⟨rfl, rfl⟩ := trodVars_none hV
  obtain ⟨x0, rfl, rfl, rfl⟩ := open_bool Tryd.underlying4 (hval 0 4 v0 rfl rfl) h0
  obtain ⟨s1, rfl, rfl, rfl, hs1⟩ := open_string Tryd.underlying9 (hval 1 9 v1 rfl rfl) h1
  obtain ⟨x2, rfl, rfl, rfl, wx⟩ := open_int Tryd.underlying2 (hval 2 2 v2 rfl rfl) h2
  simp only [List.append_nil] at hW'
  refine (walk x0 s1 x2 W (tab_of hL)).mono fun e W' ⟨he, bel⟩ => ?_
  subst he
  exact ⟨_, rfl, _, _, _, [], _, [], hW', trodAll_mk1 (shut_bool Tryd.underlying4 _), trodAll_mk3 (shut_bool Tryd.underlying4 _) (shut_string Tryd.underlying9 hs1) (shut_int Tryd.underlying2 wx), rfl, bel.frame _, fun h => by cases h⟩

theorem holds : Rows.FnPlusAgreesWithSchoolbookAdditionSaid :=
  OpenClaim.holds_of_wide 3 Tryd.f3 rfl rfl rfl rfl rfl rfl rfl ⟨rfl, rfl, rfl, rfl, rfl⟩ rfl rfl rfl rfl rfl (by kernel_rfl) Tryd.func3 (by kernel_rfl)
    (of_decide_eq_true (by kernel_rfl)) (by unfold Func.isWrapper; first | (rw [if_pos (by decide +kernel)]; kernel_rfl) | (rw [if_neg (by decide +kernel)]; exact ⟨rfl, rfl⟩))
    (fun os started H enc _ => lifted os started H enc)
theorem card_holds : Rows.FnPlusAgreesWithSchoolbookAdditionCardSaid :=
  Claim7.holds_tied_plain_at .later [] [.data, .data, .data, .data, .sentinel, .sentinel, .pinned] true (true, "0e4dd86efb4af9b89d97004d60a9176cd1551e3bbc60d32caa3e931bca00e4ad") true holds (fun _ h => by cases h) (by kernel_rfl) (fun _ h => by cases h) fnPlusAgreesWithSchoolbookAddition_row_tie rfl ⟨rfl, rfl⟩ (by kernel_rfl) rfl
    (fun f fn hf hfn => by
      obtain rfl : f = 3 := Option.some.inj ((show Tryd.prog.funcNamed Tryd.f3.name = some 3 by kernel_rfl).symm.trans hf) |>.symm
      obtain rfl : fn = Tryd.f3 := (Option.some.inj (Tryd.func3.symm.trans hfn)).symm
      exact ⟨by kernel_rfl, fun j t ht => by
        rw [Tryd.params3] at ht
        have hm : t ∈ [4, 9, 2] := by simpa using Array.mem_of_getElem? ht
        have hall : ([4, 9, 2].all fun u => !Tryd.prog.wantsStandIn u) = true := by kernel_rfl
        exact (show Tryd.prog.wantsStandIn t = false by simpa using List.all_eq_true.1 hall t hm)⟩)
    (by kernel_rfl)
end Go.Proofs.Qxb6606039aDoor
