import Derived.Test.Qxb6612929aDoorFields
namespace Go.Proofs.Qxb6612929aDoor
open Go.RowKit

attribute [local go_sem] ta42_bool ta9_bool ta4_is

theorem VT.some {B : Nat} {s : ByteArray} {l : List UInt8} {n : Int} {w : World} (h : VT B s l n w) (j : Nat) (hj : j < 27) : ∃ v, w.cell? ⟨B, j, none⟩ = some v := by
  rw [h.cell]
  exact ⟨_, List.getElem?_eq_getElem (by simp [len_bytes, h.len]; omega)⟩
theorem VT.setB {B : Nat} {s : ByteArray} {l : List UInt8} {n : Int} {w : World} (h : VT B s l n w) (j : Nat) (c : UInt8) (v : Int) (hv : v = (c.toNat : Int)) (hj : j < 25) : VT B s (l.set j c) n (w.setCell ⟨B, j + 1, none⟩ (.int .u8 v)) := by
  subst hv
  refine ⟨?_, by simpa using h.len⟩
  have : (Lib.byteCells l ++ [Value.int .i64 n]).set j (.int .u8 c.toNat) = Lib.byteCells (l.set j c) ++ [Value.int .i64 n] := by
    rw [List.set_append_left _ _ (by rw [len_bytes, h.len]; exact hj)]
    simp [Lib.byteCells, List.map_set]
  simp [World.setCell, Array.getElem?_modify, h.has, this]

set_option maxRecDepth 100000 in
set_option maxHeartbeats 800000 in
theorem append_true (B : Nat) (s : ByteArray) (l : List UInt8) (n : Int) (w : World) (H : Hid (VT B s l n w)) :
    Calls Tryd.prog 22 #[.slice (some ⟨B, 1, none⟩) 0 25, .bool true] w fun e w' => e = .returned (.slice (some ⟨B, 1, none⟩) 4 25) ∧ VT B s ((((l.set 0 116).set 1 114).set 2 117).set 3 101) n w' ∧ Below B w w' := by
  obtain ⟨v1, h1⟩ := H.out.some 1 (by omega)
  obtain ⟨v2, h2⟩ := H.out.some 2 (by omega)
  obtain ⟨v3, h3⟩ := H.out.some 3 (by omega)
  obtain ⟨v4, h4⟩ := H.out.some 4 (by omega)
  have f1 := H.out.free 1
  have f2 := H.out.free 2
  have f3 := H.out.free 3
  have f4 := H.out.free 4
  go_enter Tryd.func22, Tryd.ntmps22
  go_wp2
  go_ret
  refine ⟨rfl, ((((H.out.setB 0 116 116 rfl (by omega)).setB 1 114 114 rfl (by omega)).setB 2 117 117 rfl (by omega)).setB 3 101 101 rfl (by omega)), ?_⟩
  refine Below.setCell (Below.setCell (Below.setCell (Below.setCell (Below.refl B w) ?_ _) ?_ _) ?_ _) ?_ _ <;> exact Nat.le_refl _
set_option maxRecDepth 100000 in
set_option maxHeartbeats 800000 in
theorem append_false (B : Nat) (s : ByteArray) (l : List UInt8) (n : Int) (w : World) (H : Hid (VT B s l n w)) :
    Calls Tryd.prog 22 #[.slice (some ⟨B, 1, none⟩) 0 25, .bool false] w fun e w' => e = .returned (.slice (some ⟨B, 1, none⟩) 5 25) ∧ VT B s (((((l.set 0 102).set 1 97).set 2 108).set 3 115).set 4 101) n w' ∧ Below B w w' := by
  obtain ⟨v1, h1⟩ := H.out.some 1 (by omega)
  obtain ⟨v2, h2⟩ := H.out.some 2 (by omega)
  obtain ⟨v3, h3⟩ := H.out.some 3 (by omega)
  obtain ⟨v4, h4⟩ := H.out.some 4 (by omega)
  obtain ⟨v5, h5⟩ := H.out.some 5 (by omega)
  have f1 := H.out.free 1
  have f2 := H.out.free 2
  have f3 := H.out.free 3
  have f4 := H.out.free 4
  have f5 := H.out.free 5
  go_enter Tryd.func22, Tryd.ntmps22
  go_wp2
  go_ret
  refine ⟨rfl, (((((H.out.setB 0 102 102 rfl (by omega)).setB 1 97 97 rfl (by omega)).setB 2 108 108 rfl (by omega)).setB 3 115 115 rfl (by omega)).setB 4 101 101 rfl (by omega)), ?_⟩
  refine Below.setCell (Below.setCell (Below.setCell (Below.setCell (Below.setCell (Below.refl B w) ?_ _) ?_ _) ?_ _) ?_ _) ?_ _ <;> exact Nat.le_refl _

/-- The word of a bool and how it lies in the 25 bytes. -/
def word (b : Bool) : ByteArray := if b then ⟨#[116, 114, 117, 101]⟩ else ⟨#[102, 97, 108, 115, 101]⟩
def laid (b : Bool) (l : List UInt8) : List UInt8 := if b then (((l.set 0 116).set 1 114).set 2 117).set 3 101 else ((((l.set 0 102).set 1 97).set 2 108).set 3 115).set 4 101

theorem append_any (b : Bool) (B : Nat) (s : ByteArray) (l : List UInt8) (n : Int) (w : World) (H : Hid (VT B s l n w)) :
    Calls Tryd.prog 22 #[.slice (some ⟨B, 1, none⟩) 0 25, .bool b] w fun e w' => e = .returned (.slice (some ⟨B, 1, none⟩) (word b).size 25) ∧ VT B s (laid b l) n w' ∧ Below B w w' := by
  cases b with
  | true => exact append_true B s l n w H
  | false => exact append_false B s l n w H

set_option maxHeartbeats 800000 in
theorem appendBool_any (b : Bool) (B : Nat) (s : ByteArray) (l : List UInt8) (n : Int) (w : World) (H : Hid (VT B s l n w)) :
    Calls Tryd.prog 19 #[.slice (some ⟨B, 1, none⟩) 0 25, .bool b] w fun e w' => e = .returned (.slice (some ⟨B, 1, none⟩) (word b).size 25) ∧ VT B s (laid b l) n w' ∧ Below B w w' := by
  go_enter Tryd.func19, Tryd.ntmps19
  go_wp2_with (go_at_call 22; refine (append_any _ _ _ _ _ _ H).mono ?_; rintro e w1 ⟨rfl, hv, hb⟩)
  go_ret
  exact ⟨rfl, hv, hb⟩

set_option maxRecDepth 100000 in
set_option maxHeartbeats 800000 in
theorem appendText_bool (b : Bool) (B L : Nat) (s : ByteArray) (l : List UInt8) (n : Int) (w : World) (H : Hid (VT B s l n w)) :
    Calls Tryd.prog 18 #[.slice (some ⟨B, 1, none⟩) 0 25, .iface 4 (.bool b), .pointer (some ⟨L, 0, none⟩)] w fun e w' => e = .returned (.tuple #[.slice (some ⟨B, 1, none⟩) (word b).size 25, .bool true]) ∧ VT B s (laid b l) n w' ∧ Below B w w' := by
  go_enter Tryd.func18, Tryd.ntmps18
  go_wp2_with (go_at_call 19; refine (appendBool_any _ _ _ _ _ _ H).mono ?_; rintro e w1 ⟨rfl, hv, hb⟩)
  go_ret2
  exact ⟨rfl, hv, hb⟩
end Go.Proofs.Qxb6612929aDoor
