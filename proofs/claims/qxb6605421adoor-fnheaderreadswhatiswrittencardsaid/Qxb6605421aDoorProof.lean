import Derived.Test.Qxb6605421aDoorTie
import Derived.Test.Qxb6605421aDoorCards
import Derived.Test.Qxb6605421aDoorMain2
import Derived.WalkKit
import Derived.ProofKit
import Derived.OpenShut
import Derived.LaidMore
import Derived.Lay
import Derived.SevenTiedAt
import Derived.Stop.Joined
import Derived.ShutString
import Derived.ChangeOld
import Derived.Below
namespace Go.Proofs.Qxb6605421aDoor
open Go.ChangeShapes Go.WideShapes Go.ChangeAt Go.RowKit
open Go.ChangeMaps (open_string shut_string)


theorem own : ownKnob Tryd.prog.godebug = none := by kernel_rfl

theorem walk (name sub rest : ByteArray) (quoted : Bool) (w : World) (h1 : name.size ≤ maxLen) (h2 : sub.size ≤ maxLen) (h3 : rest.size ≤ maxLen) :
    Calls Tryd.prog 4 #[.string name, .string sub, .bool quoted, .string rest] w fun e w' => e = .returned (.bool true) ∧ Below w.heap.size w w' := by
  cases hb : decide (name.size + sub.size + rest.size ≤ 1048576) with
  | false => exact main_bytes name sub rest quoted w h1 h2 h3 hb
  | true =>
  by_cases hl : 262144 < name.size ∨ 262144 < sub.size ∨ 262144 < rest.size
  · exact main_long name sub rest quoted w h1 h2 h3 hb hl
  have g1 : name.size ≤ 262144 := by omega
  have g2 : sub.size ≤ 262144 := by omega
  have g3 : rest.size ≤ 262144 := by omega
  have hB : ∀ w, Calls Tryd.prog 10 #[.string name, .string sub, .bool quoted, .string rest] w fun e w' => e = .returned (.bool true) ∧ w' = w := fun w => by
    have := bytes_any name sub rest quoted w h1 h2 h3
    rw [hb] at this
    exact this
  by_cases hN : ∀ c ∈ name.data.toList, nmB (c.toNat : Int) = true
  · have hin : ∀ j (h : j < name.size), nmB (name[j]).toNat = true := fun j h => hN _ (List.mem_of_getElem? (Lib.data_getElem? name j h))
    have hls : (lowS name).size = name.size := by rw [Lib.size_eq (lowS name), Lib.size_eq name]; simp [lowS]
    cases quoted with
    | false => exact main_plain name sub rest w g1 g2 g3 hB hin (hd_plain name rest sub.data.toList hN g1 g3)
    | true => exact main_quoted name sub rest w g1 g2 g3 hB hin (hd_quoted name sub rest hN g1 g3 g2) (by omega)
  · obtain ⟨K, hK, i1, i2⟩ := bad_byte name hN
    exact main_bad name sub rest quoted K w g1 g2 g3 hB hK i1 i2

set_option maxRecDepth 100000 in
theorem lifted (os : Os) (started : os.Started) (H : Type) (enc : TypeId × Value → H) :
    ReturnsInHanded {} Tryd.checked os 4 .any (fun w args => (Rows.fnHeaderReadsWhatIsWrittenSpec.pre enc Tryd.prog Tryd.f4 Rows.fnHeaderReadsWhatIsWrittenRow.domain false w args ∧ laidMetH Tryd.prog Rows.fnHeaderReadsWhatIsWrittenRow.laid w) ∧ sizedMet enc Tryd.prog Tryd.f4 (OpenSpec.ofChange Rows.fnHeaderReadsWhatIsWrittenSpec) false w args)
      (Rows.fnHeaderReadsWhatIsWrittenSpec.post enc Tryd.prog Tryd.f4 false true false false) := by
  refine returnsInHanded_of_change_and (C := Tryd.checked) (X := fun w _ => laidMetH Tryd.prog Rows.fnHeaderReadsWhatIsWrittenRow.laid w) (fun _ _ _ hh h => h.of_heap hh) own started (by kernel_rfl) Tryd.func4
    (ChangeSpec.witness_shaped (enc := enc) (C := Tryd.checked) (os := os) (X := fun w _ => laidMetH Tryd.prog Rows.fnHeaderReadsWhatIsWrittenRow.laid w) false (World.laidAll Tryd.prog os Rows.fnHeaderReadsWhatIsWrittenRow.laid) #[.string ByteArray.empty, .string ByteArray.empty, .bool false, .string ByteArray.empty] 8 (World.laidAll_os _ _ _)
      (World.shaped_of_ZipB (by kernel_rfl) (by kernel_rfl)) (by kernel_rfl) (by kernel_rfl) (by kernel_rfl)
      (by rw [MakeChecks.laidMetH_plain _ _ _ (by kernel_rfl)]; exact laidMet_laidAll _ (by kernel_rfl) (by kernel_rfl))) ?_
  intro W base args ds gs before hval0 hW hc _ hL _
  have hval : ∀ (j : Nat) t v, Tryd.f4.params[j]? = some t → args[j]? = some v → Value.okWide Tryd.prog W .any base t v := hval0
  have hW' := hW
  obtain ⟨p, q, hA0, hV, rfl, _, _⟩ := hW
  have hA : DataW.TrodAll enc Tryd.prog W 0 (fun _ => true) true Tryd.f4.params.toList args.toList ds p := hA0
  rw [Tryd.params4] at hA hval
  obtain ⟨v0, v1, v2, v3, d0, d1, d2, d3, p0, p1, p2, p3, rfl, rfl, rfl, h0, h1, h2, h3⟩ := trodAll_four hA
  obtain ⟨rfl, rfl⟩ := trodVars_none hV
  obtain ⟨s0, rfl, rfl, rfl, hs0⟩ := open_string Tryd.underlying9 (hval 0 9 v0 rfl rfl) h0
  obtain ⟨s1, rfl, rfl, rfl, hs1⟩ := open_string Tryd.underlying9 (hval 1 9 v1 rfl rfl) h1
  obtain ⟨x2, rfl, rfl, rfl⟩ := open_bool Tryd.underlying4 (hval 2 4 v2 rfl rfl) h2
  obtain ⟨s3, rfl, rfl, rfl, hs3⟩ := open_string Tryd.underlying9 (hval 3 9 v3 rfl rfl) h3
  simp only [List.append_nil] at hW'
  refine (walk s0 s1 s3 x2 W hs0 hs1 hs3).mono fun e W' ⟨he, bel⟩ => ?_
  subst he
  exact ⟨_, rfl, _, _, _, [], _, [], hW', trodAll_mk1 (shut_bool Tryd.underlying4 _), trodAll_mk4 (shut_string Tryd.underlying9 hs0) (shut_string Tryd.underlying9 hs1) (shut_bool Tryd.underlying4 _) (shut_string Tryd.underlying9 hs3), rfl, bel.frame _, fun h => by cases h⟩

theorem holds : Rows.FnHeaderReadsWhatIsWrittenSaid :=
  OpenClaim.holds_of_wide 4 Tryd.f4 rfl rfl rfl rfl rfl rfl rfl ⟨rfl, rfl, rfl, rfl, rfl⟩ rfl rfl rfl rfl rfl (by kernel_rfl) Tryd.func4 (by kernel_rfl)
    (of_decide_eq_true (by kernel_rfl)) (by unfold Func.isWrapper; first | (rw [if_pos (by decide +kernel)]; kernel_rfl) | (rw [if_neg (by decide +kernel)]; exact ⟨rfl, rfl⟩))
    (fun os started H enc _ => lifted os started H enc)
theorem card_holds : Rows.FnHeaderReadsWhatIsWrittenCardSaid :=
  Claim7.holds_tied_plain_at .later [] [.data, .pinned, .pinned] true (true, "0cca092ec9748da96e8eff1462c6cb777138e505fdaaf4b6d75e5b0d52dc7616") true holds (fun _ h => by cases h) (by kernel_rfl) (fun _ h => by cases h) fnHeaderReadsWhatIsWritten_row_tie rfl ⟨rfl, rfl⟩ (by kernel_rfl) rfl
    (fun f fn hf hfn => by
      obtain rfl : f = 4 := Option.some.inj ((show Tryd.prog.funcNamed Tryd.f4.name = some 4 by kernel_rfl).symm.trans hf) |>.symm
      obtain rfl : fn = Tryd.f4 := (Option.some.inj (Tryd.func4.symm.trans hfn)).symm
      exact ⟨by kernel_rfl, fun j t ht => by
        rw [Tryd.params4] at ht
        have hm : t ∈ [9, 9, 4, 9] := by simpa using Array.mem_of_getElem? ht
        have hall : ([9, 9, 4, 9].all fun u => !Tryd.prog.wantsStandIn u) = true := by kernel_rfl
        exact (show Tryd.prog.wantsStandIn t = false by simpa using List.all_eq_true.1 hall t hm)⟩)
    (by kernel_rfl)
end Go.Proofs.Qxb6605421aDoor
