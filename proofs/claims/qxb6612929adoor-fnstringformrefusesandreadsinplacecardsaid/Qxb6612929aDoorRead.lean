import Derived.Test.Qxb6612929aDoorBool
namespace Go.Proofs.Qxb6612929aDoor
open Go.RowKit

attribute [local go_sem] ta42_bool ta9_bool ta4_is

theorem word_le (b : Bool) : (word b).size ≤ 5 := by cases b <;> decide

set_option maxRecDepth 100000 in
set_option maxHeartbeats 800000 in
theorem read_bool (b : Bool) (B : Nat) (s : ByteArray) (l : List UInt8) (n : Int) (w : World) (H : Hid (VT B s l n w)) :
    Calls Tryd.prog 17 #[.pointer (some ⟨B, 0, none⟩), .iface 4 (.bool b)] w fun e w' => e = .returned (.bool true) ∧ VT B s (laid b l) ((word b).size : Nat) w' ∧ Below B w w' := by
  have hw := word_le b
  have HT : Hid (∀ (L : Nat) (W : World), VT B s l n W → Calls Tryd.prog 18 #[.slice (some ⟨B, 1, none⟩) 0 25, .iface 4 (.bool b), .pointer (some ⟨L, 0, none⟩)] W fun e w' => e = .returned (.tuple #[.slice (some ⟨B, 1, none⟩) (word b).size 25, .bool true]) ∧ VT B s (laid b l) n w' ∧ Below B W w') := fun L W h => appendText_bool b B L s l n W h
  generalize (word b).size = k at *
  go_enter Tryd.func17, Tryd.ntmps17
  go_wp2_with (go_at_call 18; refine (HT.out _ _ (H.out.below ((Below.refl _ _).alloc (Nat.le_refl _) _))).mono ?_; rintro e w1 ⟨rfl, hv, hb⟩; have HV : Hid (VT B s (laid b l) n w1) := hv; have h26 := hv.cell26; have f26 := hv.free 26; have HB : Hid (Below B w w1) := (((Below.refl _ _).alloc (Nat.le_refl _) _).mono (Nat.le_of_lt H.out.lt)).trans hb; clear hv hb)
  all_goals go_ret
  all_goals exact ⟨rfl, HV.out.set26 _, by refine Below.setCell HB.out ?_ _; exact Nat.le_refl _⟩
set_option maxRecDepth 100000 in
set_option maxHeartbeats 800000 in
theorem form_bool (b : Bool) (B : Nat) (s : ByteArray) (l : List UInt8) (n : Int) (w : World) (H : Hid (VT B s l n w)) :
    Calls Tryd.prog 15 #[.iface 4 (.bool b), .pointer (some ⟨B, 0, none⟩)] w fun e w' => e = .returned (.bool true) ∧ VT B s (laid b l) ((word b).size : Nat) w' ∧ Below B w w' := by
  go_enter Tryd.func15, Tryd.ntmps15
  go_wp2_with (go_at_call 17; refine (read_bool _ _ _ _ _ _ H).mono ?_; rintro e w' ⟨rfl, hv, hb⟩)
  go_ret
  exact ⟨rfl, hv, hb⟩
set_option maxHeartbeats 400000 in
theorem zz_bool (b : Bool) (B : Nat) (s : ByteArray) (l : List UInt8) (n : Int) (w : World) (H : Hid (VT B s l n w)) :
    Calls Tryd.prog 14 #[.bool b, .pointer (some ⟨B, 0, none⟩)] w fun e w' => e = .returned (.bool true) ∧ VT B s (laid b l) ((word b).size : Nat) w' ∧ Below B w w' := by
  go_enter Tryd.func14, Tryd.ntmps14
  go_wp2_with (go_at_call 15; refine (form_bool _ _ _ _ _ _ H).mono ?_; rintro e w' ⟨rfl, hv, hb⟩)
  go_ret
  exact ⟨rfl, hv, hb⟩
end Go.Proofs.Qxb6612929aDoor
