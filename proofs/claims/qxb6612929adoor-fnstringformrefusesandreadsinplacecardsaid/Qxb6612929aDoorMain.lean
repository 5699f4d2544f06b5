import Derived.Test.Qxb6612929aDoorRead
namespace Go.Proofs.Qxb6612929aDoor
open Go.RowKit

set_option maxHeartbeats 400000 in
theorem main_bytes (x y : ByteArray) (b : Bool) (w : World) (h : 1048576 < x.size + y.size) :
    Calls Tryd.prog 4 #[.string x, .bool b, .string y] w fun e w' => e = .returned (.bool true) ∧ Below w.heap.size w w' := by
  go_enter Tryd.func4, Tryd.ntmps4
  go_wp2_with (go_at_call 11; refine (bytes_no _ _ _ _ h).mono ?_; rintro e w' ⟨rfl, rfl⟩)
  go_ret
  exact ⟨rfl, Below.refl _ _⟩
set_option maxHeartbeats 400000 in
theorem main_x (x y : ByteArray) (b : Bool) (w : World) (h : x.size + y.size ≤ 1048576) (hx : 524288 < x.size) :
    Calls Tryd.prog 4 #[.string x, .bool b, .string y] w fun e w' => e = .returned (.bool true) ∧ Below w.heap.size w w' := by
  go_enter Tryd.func4, Tryd.ntmps4
  go_wp2_with (go_at_call 11; refine (bytes_any _ _ _ _ h).mono ?_; rintro e w' ⟨rfl, rfl⟩)
  go_ret
  exact ⟨rfl, Below.refl _ _⟩
set_option maxHeartbeats 400000 in
theorem main_y (x y : ByteArray) (b : Bool) (w : World) (h : x.size + y.size ≤ 1048576) (hx : x.size ≤ 524288) (hy : 524288 < y.size) :
    Calls Tryd.prog 4 #[.string x, .bool b, .string y] w fun e w' => e = .returned (.bool true) ∧ Below w.heap.size w w' := by
  go_enter Tryd.func4, Tryd.ntmps4
  go_wp2_with (go_at_call 11; refine (bytes_any _ _ _ _ h).mono ?_; rintro e w' ⟨rfl, rfl⟩)
  go_ret
  exact ⟨rfl, Below.refl _ _⟩

def NewIs (l0 : List UInt8) : Prop := ∀ w : World, Calls Tryd.prog 6 #[] w fun e w' => e = .returned (.pointer (some ⟨w.heap.size, 0, none⟩)) ∧ VT w.heap.size ⟨#[]⟩ l0 0 w' ∧ Below w.heap.size w w'
def Fits (l : List UInt8) (d : ByteArray) : Prop := d.size ≤ 25 ∧ l = d.data.toList ++ List.replicate (25 - d.size) 0
theorem are_fits {B : Nat} {s d : ByteArray} {l : List UInt8} {n : Int} {w : World} (H : Hid (VT B s l n w)) (F : Hid (Fits l d)) : Calls Tryd.prog 8 #[.pointer (some ⟨B, 0, none⟩), .string s, .string d, .int .i64 n] w fun e w' => e = .returned (.bool true) ∧ Below w.heap.size w w' := are_any B s d l n w H F.out.2 F.out.1
def BoolIs (b : Bool) (l0 l1 : List UInt8) (k : Int) : Prop := ∀ (B : Nat) (s : ByteArray) (n : Int) (w : World), VT B s l0 n w → Calls Tryd.prog 14 #[.bool b, .pointer (some ⟨B, 0, none⟩)] w fun e w' => e = .returned (.bool true) ∧ VT B s l1 k w' ∧ Below B w w'

set_option maxRecDepth 100000 in
set_option maxHeartbeats 2000000 in
theorem main_true (x y : ByteArray) (w : World) (h : x.size + y.size ≤ 1048576) (hx : x.size ≤ 524288) (hy : y.size ≤ 524288) (l0 l1 : List UInt8)
    (HN : Hid (NewIs l0)) (HA0 : Hid (Fits l0 ⟨#[]⟩)) (HA1 : Hid (Fits l1 ⟨#[116, 114, 117, 101]⟩)) (HZ : Hid (BoolIs true l0 l1 4)) :
    Calls Tryd.prog 4 #[.string x, .bool true, .string y] w fun e w' => e = .returned (.bool true) ∧ Below w.heap.size w w' := by
  go_enter Tryd.func4, Tryd.ntmps4
  go_wp2_with (first
    | (go_at_call 11; refine (bytes_any _ _ _ _ h).mono ?_; rintro e w' ⟨rfl, rfl⟩)
    | (go_at_call 6; refine (HN.out _).mono ?_; rintro e w1 ⟨rfl, hv, hb⟩; have HV : Hid (VT _ _ _ _ _) := hv; have HB : Hid (Below _ _ _) := hb; clear hv hb)
    | (go_at_call 10; refine (zz_str _ _ _ _ _ _ HV).mono ?_; rintro e w1 ⟨rfl, hv, hb⟩; have HV : Hid (VT _ _ _ _ _) := hv; have HB : Hid (Below _ _ _) := HB.out.trans hb; clear hv hb)
    | (go_at_call 12; refine (zz_nil _ _).mono ?_; rintro e w1 ⟨rfl, rfl⟩)
    | (go_at_call 13; refine (zz_arr _ _).mono ?_; rintro e w1 ⟨rfl, hb⟩; have HV : Hid (VT _ _ _ _ _) := HV.out.below hb; have HB : Hid (Below _ _ _) := HB.out.trans (hb.mono HB.out.size); clear hb)
    | (go_at_call 14; refine (HZ.out _ _ _ _ HV.out).mono ?_; rintro e w1 ⟨rfl, hv, hb⟩; have HV : Hid (VT _ _ _ _ _) := hv; have HB : Hid (Below _ _ _) := HB.out.trans hb; clear hv hb)
    | (go_at_call 8; refine (are_fits HV ?_).mono ?_; (first | exact HA0 | exact HA1); rintro e w1 ⟨rfl, hb⟩; have HV : Hid (VT _ _ _ _ _) := HV.out.below hb; have HB : Hid (Below _ _ _) := HB.out.trans (hb.mono HB.out.size); clear hb))
  go_ret
  exact ⟨rfl, HB.out⟩

set_option maxRecDepth 100000 in
set_option maxHeartbeats 2000000 in
theorem main_false (x y : ByteArray) (w : World) (h : x.size + y.size ≤ 1048576) (hx : x.size ≤ 524288) (hy : y.size ≤ 524288) (l0 l1 : List UInt8)
    (HN : Hid (NewIs l0)) (HA0 : Hid (Fits l0 ⟨#[]⟩)) (HA1 : Hid (Fits l1 ⟨#[102, 97, 108, 115, 101]⟩)) (HZ : Hid (BoolIs false l0 l1 5)) :
    Calls Tryd.prog 4 #[.string x, .bool false, .string y] w fun e w' => e = .returned (.bool true) ∧ Below w.heap.size w w' := by
  go_enter Tryd.func4, Tryd.ntmps4
  go_wp2_with (first
    | (go_at_call 11; refine (bytes_any _ _ _ _ h).mono ?_; rintro e w' ⟨rfl, rfl⟩)
    | (go_at_call 6; refine (HN.out _).mono ?_; rintro e w1 ⟨rfl, hv, hb⟩; have HV : Hid (VT _ _ _ _ _) := hv; have HB : Hid (Below _ _ _) := hb; clear hv hb)
    | (go_at_call 10; refine (zz_str _ _ _ _ _ _ HV).mono ?_; rintro e w1 ⟨rfl, hv, hb⟩; have HV : Hid (VT _ _ _ _ _) := hv; have HB : Hid (Below _ _ _) := HB.out.trans hb; clear hv hb)
    | (go_at_call 12; refine (zz_nil _ _).mono ?_; rintro e w1 ⟨rfl, rfl⟩)
    | (go_at_call 13; refine (zz_arr _ _).mono ?_; rintro e w1 ⟨rfl, hb⟩; have HV : Hid (VT _ _ _ _ _) := HV.out.below hb; have HB : Hid (Below _ _ _) := HB.out.trans (hb.mono HB.out.size); clear hb)
    | (go_at_call 14; refine (HZ.out _ _ _ _ HV.out).mono ?_; rintro e w1 ⟨rfl, hv, hb⟩; have HV : Hid (VT _ _ _ _ _) := hv; have HB : Hid (Below _ _ _) := HB.out.trans hb; clear hv hb)
    | (go_at_call 8; refine (are_fits HV ?_).mono ?_; (first | exact HA0 | exact HA1); rintro e w1 ⟨rfl, hb⟩; have HV : Hid (VT _ _ _ _ _) := HV.out.below hb; have HB : Hid (Below _ _ _) := HB.out.trans (hb.mono HB.out.size); clear hb))
  go_ret
  exact ⟨rfl, HB.out⟩

theorem newIs : NewIs (List.replicate 25 0) := new_any
theorem areIs (l : List UInt8) (d : ByteArray) (hd : d.size ≤ 25) (h : l = d.data.toList ++ List.replicate (25 - d.size) 0) : Fits l d := ⟨hd, h⟩
theorem boolIs (b : Bool) : BoolIs b (List.replicate 25 0) (laid b (List.replicate 25 0)) ((word b).size : Nat) := fun B s n w hv => zz_bool b B s _ n w hv

theorem walk (x y : ByteArray) (b : Bool) (w : World) :
    Calls Tryd.prog 4 #[.string x, .bool b, .string y] w fun e w' => e = .returned (.bool true) ∧ Below w.heap.size w w' := by
  by_cases h : 1048576 < x.size + y.size
  · exact main_bytes x y b w h
  by_cases hx : 524288 < x.size
  · exact main_x x y b w (by omega) hx
  by_cases hy : 524288 < y.size
  · exact main_y x y b w (by omega) (by omega) hy
  cases b with
  | true => exact main_true x y w (by omega) (by omega) (by omega) _ _ newIs (areIs _ _ (by decide) rfl) (areIs _ _ (by decide) rfl) (boolIs true)
  | false => exact main_false x y w (by omega) (by omega) (by omega) _ _ newIs (areIs _ _ (by decide) rfl) (areIs _ _ (by decide) rfl) (boolIs false)
end Go.Proofs.Qxb6612929aDoor
