import Derived.Test.Qxb6600459aDoorAny
import Derived.Deep.DeepCutAuto
import Derived.Deep.RegionWith
namespace Go.Proofs.Qxb6600459aDoor
open Go.RowKit Go.Shelf Go.Lib

/-- strings.TrimLeft(s[a:], labelSpace) is R. -/
def TrimGives (s R : ByteArray) (a : Nat) : Prop :=
  ∀ w : World, Calls Tryd.prog 24 #[.string (s.extract a s.size), .string ⟨#[32, 9, 13, 10]⟩] w fun e w' => e = .returned (.string R) ∧ Below w.heap.size w w'
/-- strings.HasPrefix(R, p) is v. -/
def PfxGives (R p : ByteArray) (v : Bool) : Prop :=
  ∀ w : World, Calls Tryd.prog 25 #[.string R, .string p] w fun e w' => e = .returned (.bool v) ∧ w' = w
/-- strings.IndexByte(labelSymbols, R[0]) is i. -/
def SymGives (R : ByteArray) (h : 0 < R.size) (i : Int) : Prop :=
  ∀ w : World, Calls Tryd.prog 26 #[.string ⟨#[33, 61, 60, 62, 40, 41, 44]⟩, .int .u8 ((R[0]'h).toNat : Int)] w fun e w' => e = .returned (.int .i64 i) ∧ w' = w
/-- strings.IndexAny(R, labelSymbols+labelSpace) is i. -/
def AnyGives (R : ByteArray) (i : Int) : Prop :=
  ∀ w : World, Calls Tryd.prog 27 #[.string R, .string ⟨#[33, 61, 60, 62, 40, 41, 44, 32, 9, 13, 10]⟩] w fun e w' => e = .returned (.int .i64 i) ∧ Below w.heap.size w w'

set_option maxHeartbeats 800000 in
set_option maxRecDepth 100000 in
theorem peek_empty (s R : ByteArray) (a b : Nat) (w : World) (ha : a ≤ s.size) (hc0 : w.cell? ⟨b, 0, none⟩ = some (.string s)) (hc1 : w.cell? ⟨b, 1, none⟩ = some (.int .i64 a))
    (hT : Hid (TrimGives s R a)) (hR : R.toList.isEmpty = true) :
    Calls Tryd.prog 21 #[.pointer (some ⟨b, 0, none⟩)] w fun e w' => e = .returned (.string ⟨#[]⟩) ∧ Below w.heap.size w w' := by
  go_enter Tryd.func21, Tryd.ntmps21
  go_wp2
  go_cut [3] (fun v wc => v = .string R ∧ Below w.heap.size w wc)
  case first =>
    go_region_with (go_at_call 24; refine (hT.out _).mono ?_; rintro e w' ⟨rfl, hb⟩)
    all_goals
      go_wp2
      go_meet
      case rel => exact ⟨rfl, ((Below.refl _ w).drew).trans hb⟩
  case rest =>
    obtain ⟨rfl, hb⟩ := hcut
    go_wp2
    go_ret
    exact ⟨rfl, hb⟩

set_option maxHeartbeats 800000 in
set_option maxRecDepth 100000 in
theorem peek_eq (s R : ByteArray) (a b : Nat) (w : World) (ha : a ≤ s.size) (hc0 : w.cell? ⟨b, 0, none⟩ = some (.string s)) (hc1 : w.cell? ⟨b, 1, none⟩ = some (.int .i64 a))
    (hT : Hid (TrimGives s R a)) (hR : R.toList.isEmpty = false) (h2 : 2 ≤ R.size) (h61 : Hid (PfxGives R ⟨#[61, 61]⟩ true)) :
    Calls Tryd.prog 21 #[.pointer (some ⟨b, 0, none⟩)] w fun e w' => e = .returned (.string (R.extract 0 2)) ∧ Below w.heap.size w w' := by
  go_enter Tryd.func21, Tryd.ntmps21
  go_wp2
  go_cut [3] (fun v wc => v = .string R ∧ Below w.heap.size w wc)
  case first =>
    go_region_with (go_at_call 24; refine (hT.out _).mono ?_; rintro e w' ⟨rfl, hb⟩)
    all_goals
      go_wp2
      go_meet
      case rel => exact ⟨rfl, ((Below.refl _ w).drew).trans hb⟩
  case rest =>
    obtain ⟨rfl, hb⟩ := hcut
    go_wp2_with (first
      | (go_at_call_of 25 (Value.string (ByteArray.mk #[61, 61])); refine (h61.out _).mono ?_; rintro e w' ⟨rfl, rfl⟩))
    go_ret
    exact ⟨rfl, hb⟩

set_option maxHeartbeats 800000 in
set_option maxRecDepth 100000 in
theorem peek_ne (s R : ByteArray) (a b : Nat) (w : World) (ha : a ≤ s.size) (hc0 : w.cell? ⟨b, 0, none⟩ = some (.string s)) (hc1 : w.cell? ⟨b, 1, none⟩ = some (.int .i64 a))
    (hT : Hid (TrimGives s R a)) (hR : R.toList.isEmpty = false) (h2 : 2 ≤ R.size) (h61 : Hid (PfxGives R ⟨#[61, 61]⟩ false)) (h33 : Hid (PfxGives R ⟨#[33, 61]⟩ true)) :
    Calls Tryd.prog 21 #[.pointer (some ⟨b, 0, none⟩)] w fun e w' => e = .returned (.string (R.extract 0 2)) ∧ Below w.heap.size w w' := by
  go_enter Tryd.func21, Tryd.ntmps21
  go_wp2
  go_cut [3] (fun v wc => v = .string R ∧ Below w.heap.size w wc)
  case first =>
    go_region_with (go_at_call 24; refine (hT.out _).mono ?_; rintro e w' ⟨rfl, hb⟩)
    all_goals
      go_wp2
      go_meet
      case rel => exact ⟨rfl, ((Below.refl _ w).drew).trans hb⟩
  case rest =>
    obtain ⟨rfl, hb⟩ := hcut
    go_wp2_with (first
      | (go_at_call_of 25 (Value.string (ByteArray.mk #[61, 61])); refine (h61.out _).mono ?_; rintro e w' ⟨rfl, rfl⟩)
      | (go_at_call_of 25 (Value.string (ByteArray.mk #[33, 61])); refine (h33.out _).mono ?_; rintro e w' ⟨rfl, rfl⟩))
    go_ret
    exact ⟨rfl, hb⟩

set_option maxHeartbeats 800000 in
set_option maxRecDepth 100000 in
theorem peek_sym (s R : ByteArray) (a b : Nat) (w : World) (ha : a ≤ s.size) (hc0 : w.cell? ⟨b, 0, none⟩ = some (.string s)) (hc1 : w.cell? ⟨b, 1, none⟩ = some (.int .i64 a))
    (hT : Hid (TrimGives s R a)) (hR : R.toList.isEmpty = false) (h0 : 0 < R.size) (i : Int) (hi : 0 ≤ i) (h61 : Hid (PfxGives R ⟨#[61, 61]⟩ false)) (h33 : Hid (PfxGives R ⟨#[33, 61]⟩ false)) (hsy : Hid (SymGives R h0 i)) :
    Calls Tryd.prog 21 #[.pointer (some ⟨b, 0, none⟩)] w fun e w' => e = .returned (.string (R.extract 0 1)) ∧ Below w.heap.size w w' := by
  go_enter Tryd.func21, Tryd.ntmps21
  go_wp2
  go_cut [3] (fun v wc => v = .string R ∧ Below w.heap.size w wc)
  case first =>
    go_region_with (go_at_call 24; refine (hT.out _).mono ?_; rintro e w' ⟨rfl, hb⟩)
    all_goals
      go_wp2
      go_meet
      case rel => exact ⟨rfl, ((Below.refl _ w).drew).trans hb⟩
  case rest =>
    obtain ⟨rfl, hb⟩ := hcut
    go_wp2_with (first
      | (go_at_call_of 25 (Value.string (ByteArray.mk #[61, 61])); refine (h61.out _).mono ?_; rintro e w' ⟨rfl, rfl⟩)
      | (go_at_call_of 25 (Value.string (ByteArray.mk #[33, 61])); refine (h33.out _).mono ?_; rintro e w' ⟨rfl, rfl⟩)
      | (go_at_call 26; refine (hsy.out _).mono ?_; rintro e w' ⟨rfl, rfl⟩))
    go_ret
    exact ⟨rfl, hb⟩

set_option maxHeartbeats 800000 in
set_option maxRecDepth 100000 in
theorem peek_all (s R : ByteArray) (a b : Nat) (w : World) (ha : a ≤ s.size) (hc0 : w.cell? ⟨b, 0, none⟩ = some (.string s)) (hc1 : w.cell? ⟨b, 1, none⟩ = some (.int .i64 a))
    (hT : Hid (TrimGives s R a)) (hR : R.toList.isEmpty = false) (h0 : 0 < R.size) (i k : Int) (hi : i < 0) (hk : k < 0) (h61 : Hid (PfxGives R ⟨#[61, 61]⟩ false)) (h33 : Hid (PfxGives R ⟨#[33, 61]⟩ false)) (hsy : Hid (SymGives R h0 i)) (hany : Hid (AnyGives R k)) :
    Calls Tryd.prog 21 #[.pointer (some ⟨b, 0, none⟩)] w fun e w' => e = .returned (.string R) ∧ Below w.heap.size w w' := by
  go_enter Tryd.func21, Tryd.ntmps21
  go_wp2
  go_cut [3] (fun v wc => v = .string R ∧ Below w.heap.size w wc)
  case first =>
    go_region_with (go_at_call 24; refine (hT.out _).mono ?_; rintro e w' ⟨rfl, hb⟩)
    all_goals
      go_wp2
      go_meet
      case rel => exact ⟨rfl, ((Below.refl _ w).drew).trans hb⟩
  case rest =>
    obtain ⟨rfl, hb⟩ := hcut
    go_wp2_with (first
      | (go_at_call_of 25 (Value.string (ByteArray.mk #[61, 61])); refine (h61.out _).mono ?_; rintro e w' ⟨rfl, rfl⟩)
      | (go_at_call_of 25 (Value.string (ByteArray.mk #[33, 61])); refine (h33.out _).mono ?_; rintro e w' ⟨rfl, rfl⟩)
      | (go_at_call 26; refine (hsy.out _).mono ?_; rintro e w' ⟨rfl, rfl⟩)
      | (go_at_call 27; refine (hany.out _).mono ?_; rintro e w2 ⟨rfl, hb2⟩))
    go_ret
    exact ⟨rfl, hb.trans (hb2.mono hb.size)⟩

set_option maxHeartbeats 800000 in
set_option maxRecDepth 100000 in
theorem peek_word (s R : ByteArray) (a b : Nat) (w : World) (ha : a ≤ s.size) (hc0 : w.cell? ⟨b, 0, none⟩ = some (.string s)) (hc1 : w.cell? ⟨b, 1, none⟩ = some (.int .i64 a))
    (hT : Hid (TrimGives s R a)) (hR : R.toList.isEmpty = false) (h0 : 0 < R.size) (i : Int) (k : Nat) (hi : i < 0) (hk : k ≤ R.size) (h61 : Hid (PfxGives R ⟨#[61, 61]⟩ false)) (h33 : Hid (PfxGives R ⟨#[33, 61]⟩ false)) (hsy : Hid (SymGives R h0 i)) (hany : Hid (AnyGives R k)) :
    Calls Tryd.prog 21 #[.pointer (some ⟨b, 0, none⟩)] w fun e w' => e = .returned (.string (R.extract 0 k)) ∧ Below w.heap.size w w' := by
  go_enter Tryd.func21, Tryd.ntmps21
  go_wp2
  go_cut [3] (fun v wc => v = .string R ∧ Below w.heap.size w wc)
  case first =>
    go_region_with (go_at_call 24; refine (hT.out _).mono ?_; rintro e w' ⟨rfl, hb⟩)
    all_goals
      go_wp2
      go_meet
      case rel => exact ⟨rfl, ((Below.refl _ w).drew).trans hb⟩
  case rest =>
    obtain ⟨rfl, hb⟩ := hcut
    go_wp2_with (first
      | (go_at_call_of 25 (Value.string (ByteArray.mk #[61, 61])); refine (h61.out _).mono ?_; rintro e w' ⟨rfl, rfl⟩)
      | (go_at_call_of 25 (Value.string (ByteArray.mk #[33, 61])); refine (h33.out _).mono ?_; rintro e w' ⟨rfl, rfl⟩)
      | (go_at_call 26; refine (hsy.out _).mono ?_; rintro e w' ⟨rfl, rfl⟩)
      | (go_at_call 27; refine (hany.out _).mono ?_; rintro e w2 ⟨rfl, hb2⟩))
    go_ret
    exact ⟨rfl, hb.trans (hb2.mono hb.size)⟩

end Go.Proofs.Qxb6600459aDoor
