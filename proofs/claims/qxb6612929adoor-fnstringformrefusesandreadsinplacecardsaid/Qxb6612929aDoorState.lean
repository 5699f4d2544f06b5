import Derived.Test.Qxb6612929aDoorProg
import Derived.WalkKit
import Derived.Handy
import Derived.KernelRfl
import Derived.BigQuiet
import Derived.Deep.QuietTactic
import Derived.WalkSmall
import Derived.Lib.IndexBytes
import Derived.Laws.Strings3
import Derived.Laws.Runes
import Derived.Lib.TrimByte
import Derived.Deep.MidRow
import Derived.Deep.WholeRow
import Derived.OwnWalk
namespace Go.Proofs.Qxb6612929aDoor
open Go.RowKit

theorem ret_bool {a b : Bool} (h : a = b) : Ending.returned (.bool a) = .returned (.bool b) := by rw [h]

set_option maxHeartbeats 400000 in
theorem bytes_any (x y : ByteArray) (b : Bool) (w : World) (hs : x.size + y.size ≤ 1048576) :
    Calls Tryd.prog 11 #[.string x, .bool b, .string y] w fun e w' => e = .returned (.bool true) ∧ w' = w := by
  go_enter Tryd.func11, Tryd.ntmps11
  go_wp2
  go_ret
  exact ⟨rfl, rfl⟩
set_option maxHeartbeats 400000 in
theorem bytes_no (x y : ByteArray) (b : Bool) (w : World) (hs : 1048576 < x.size + y.size) :
    Calls Tryd.prog 11 #[.string x, .bool b, .string y] w fun e w' => e = .returned (.bool false) ∧ w' = w := by
  go_enter Tryd.func11, Tryd.ntmps11
  go_wp2
  all_goals
    go_ret
    exact ⟨rfl, rfl⟩

/-- The value text at block B: the string s, the 25 bytes l, the count n. -/
structure VT (B : Nat) (s : ByteArray) (l : List UInt8) (n : Int) (w : World) : Prop where
  has : w.heap[B]? = some (.cells (.string s :: (Lib.byteCells l ++ [.int .i64 n])).toArray 38 (0, 0))
  len : l.length = 25

theorem VT.lt {B : Nat} {s : ByteArray} {l : List UInt8} {n : Int} {w : World} (h : VT B s l n w) : B < w.heap.size := (Array.getElem?_eq_some_iff.1 h.has).1
theorem VT.below {B : Nat} {s : ByteArray} {l : List UInt8} {n : Int} {w w' : World} (h : VT B s l n w) (k : Below w.heap.size w w') : VT B s l n w' := ⟨by rw [k.block B h.lt]; exact h.has, h.len⟩
theorem VT.drewN {B : Nat} {s : ByteArray} {l : List UInt8} {n : Int} {w : World} (h : VT B s l n w) (k : Nat) : VT B s l n (w.drewN k) := ⟨h.has, h.len⟩
theorem VT.cell {B : Nat} {s : ByteArray} {l : List UInt8} {n : Int} {w : World} (h : VT B s l n w) (j : Nat) : w.cell? ⟨B, j, none⟩ = (.string s :: (Lib.byteCells l ++ [.int .i64 n]))[j]? := by
  simp [World.cell?, h.has]
theorem VT.free {B : Nat} {s : ByteArray} {l : List UInt8} {n : Int} {w : World} (h : VT B s l n w) (j : Nat) : w.frozen? ⟨B, j, none⟩ = false := by
  simp [World.frozen?, h.has]
theorem len_bytes (l : List UInt8) : (Lib.byteCells l).length = l.length := by simp [Lib.byteCells]
theorem VT.cell0 {B : Nat} {s : ByteArray} {l : List UInt8} {n : Int} {w : World} (h : VT B s l n w) : w.cell? ⟨B, 0, none⟩ = some (.string s) := by rw [h.cell]; rfl
theorem VT.cell26 {B : Nat} {s : ByteArray} {l : List UInt8} {n : Int} {w : World} (h : VT B s l n w) : w.cell? ⟨B, 26, none⟩ = some (.int .i64 n) := by
  rw [h.cell]; simp [len_bytes, h.len]
theorem VT.range {B : Nat} {s : ByteArray} {l : List UInt8} {n : Int} {w : World} (h : VT B s l n w) : w.rangeAt B 1 (Lib.byteCells l) := fun j v hv => by
  rw [h.cell, show 1 + j = j + 1 by omega, List.getElem?_cons_succ, List.getElem?_append_left (List.getElem?_eq_some_iff.1 hv).1]; exact hv
theorem VT.set0 {B : Nat} {s : ByteArray} {l : List UInt8} {n : Int} {w : World} (h : VT B s l n w) (t : ByteArray) : VT B t l n (w.setCell ⟨B, 0, none⟩ (.string t)) := by
  refine ⟨?_, h.len⟩
  simp [World.setCell, Array.getElem?_modify, h.has]
theorem VT.set26 {B : Nat} {s : ByteArray} {l : List UInt8} {n : Int} {w : World} (h : VT B s l n w) (m : Int) : VT B s l m (w.setCell ⟨B, 26, none⟩ (.int .i64 m)) := by
  refine ⟨?_, h.len⟩
  simp [World.setCell, Array.getElem?_modify, h.has, len_bytes, h.len]

set_option maxHeartbeats 400000 in
theorem new_any (w : World) : Calls Tryd.prog 6 #[] w fun e w' => e = .returned (.pointer (some ⟨w.heap.size, 0, none⟩)) ∧ VT w.heap.size ⟨#[]⟩ (List.replicate 25 0) 0 w' ∧ Below w.heap.size w w' := by
  go_enter Tryd.func6, Tryd.ntmps6
  go_wp2
  go_ret
  exact ⟨rfl, ⟨by simp [World.alloc, -World.alloc_eq]; rfl, rfl⟩, (Below.refl _ _).alloc (Nat.le_refl _) _⟩

theorem ta42_nil (xT : TypeId) (w : World) : (Instr.typeAssert .nilIface xT 42 true).run Tryd.prog w = .ok (.tuple #[.slice none 0 0, .bool false]) w := by
  simp [Instr.typeAssert, Sem.run_bind, run_underlying Tryd.underlying42, Tryd.zeroValue42]
theorem ta42_is (xT : TypeId) (v : Value) (w : World) : (Instr.typeAssert (.iface 42 v) xT 42 true).run Tryd.prog w = .ok (.tuple #[v, .bool true]) w := by
  simp [Instr.typeAssert, Sem.run_bind, run_underlying Tryd.underlying42]
theorem ta42_string (xT : TypeId) (v : Value) (w : World) : (Instr.typeAssert (.iface 9 v) xT 42 true).run Tryd.prog w = .ok (.tuple #[.slice none 0 0, .bool false]) w := by
  simp [Instr.typeAssert, Sem.run_bind, run_underlying Tryd.underlying42, Tryd.zeroValue42]
theorem ta42_bool (xT : TypeId) (v : Value) (w : World) : (Instr.typeAssert (.iface 4 v) xT 42 true).run Tryd.prog w = .ok (.tuple #[.slice none 0 0, .bool false]) w := by
  simp [Instr.typeAssert, Sem.run_bind, run_underlying Tryd.underlying42, Tryd.zeroValue42]
theorem ta9_is (xT : TypeId) (v : Value) (w : World) : (Instr.typeAssert (.iface 9 v) xT 9 true).run Tryd.prog w = .ok (.tuple #[v, .bool true]) w := by
  simp [Instr.typeAssert, Sem.run_bind, run_underlying Tryd.underlying9]
theorem ta9_bool (xT : TypeId) (v : Value) (w : World) : (Instr.typeAssert (.iface 4 v) xT 9 true).run Tryd.prog w = .ok (.tuple #[.string ⟨#[]⟩, .bool false]) w := by
  simp [Instr.typeAssert, Sem.run_bind, run_underlying Tryd.underlying9, Tryd.zeroValue9]
theorem ta4_is (xT : TypeId) (v : Value) (w : World) : (Instr.typeAssert (.iface 4 v) xT 4 true).run Tryd.prog w = .ok (.tuple #[v, .bool true]) w := by
  simp [Instr.typeAssert, Sem.run_bind, run_underlying Tryd.underlying4]
attribute [local go_sem] ta42_nil ta42_is ta42_string ta42_bool ta9_is ta9_bool ta4_is

set_option maxRecDepth 100000 in
set_option maxHeartbeats 400000 in
theorem form_nil (B : Nat) (w : World) : Calls Tryd.prog 15 #[.nilIface, .pointer (some ⟨B, 0, none⟩)] w fun e w' => e = .returned (.bool false) ∧ w' = w := by
  go_enter Tryd.func15, Tryd.ntmps15
  go_wp2
  go_ret
  exact ⟨rfl, rfl⟩
set_option maxHeartbeats 400000 in
theorem zz_nil (B : Nat) (w : World) : Calls Tryd.prog 12 #[.pointer (some ⟨B, 0, none⟩)] w fun e w' => e = .returned (.bool false) ∧ w' = w := by
  go_enter Tryd.func12, Tryd.ntmps12
  go_wp2_with (go_at_call 15; refine (form_nil _ _).mono ?_; rintro e w' ⟨rfl, rfl⟩)
  go_ret
  exact ⟨rfl, rfl⟩
set_option maxRecDepth 100000 in
set_option maxHeartbeats 400000 in
theorem form_arr (B : Nat) (v : Value) (w : World) : Calls Tryd.prog 15 #[.iface 42 v, .pointer (some ⟨B, 0, none⟩)] w fun e w' => e = .returned (.bool false) ∧ w' = w := by
  go_enter Tryd.func15, Tryd.ntmps15
  go_wp2
  go_ret
  exact ⟨rfl, rfl⟩
set_option maxHeartbeats 400000 in
theorem zz_arr (B : Nat) (w : World) : Calls Tryd.prog 13 #[.pointer (some ⟨B, 0, none⟩)] w fun e w' => e = .returned (.bool false) ∧ Below w.heap.size w w' := by
  go_enter Tryd.func13, Tryd.ntmps13
  go_wp2_with (go_at_call 15; refine (form_arr _ _ _).mono ?_; rintro e w' ⟨rfl, rfl⟩)
  go_ret
  exact ⟨rfl, (Below.refl _ _).alloc (Nat.le_refl _) _⟩

set_option maxRecDepth 100000 in
set_option maxHeartbeats 400000 in
theorem read_str (B : Nat) (x s : ByteArray) (l : List UInt8) (n : Int) (w : World) (H : Hid (VT B s l n w)) :
    Calls Tryd.prog 17 #[.pointer (some ⟨B, 0, none⟩), .iface 9 (.string x)] w fun e w' => e = .returned (.bool true) ∧ VT B x l 0 w' ∧ Below B w w' := by
  have h0 := H.out.cell0
  have f0 := H.out.free 0
  have h26 := H.out.cell26
  have f26 := H.out.free 26
  go_enter Tryd.func17, Tryd.ntmps17
  go_wp2
  go_ret
  exact ⟨rfl, (H.out.set0 x).set26 0, by refine Below.setCell (Below.setCell (Below.refl B w) ?_ _) ?_ _ <;> exact Nat.le_refl _⟩
set_option maxRecDepth 100000 in
set_option maxHeartbeats 400000 in
theorem form_str (B : Nat) (x s : ByteArray) (l : List UInt8) (n : Int) (w : World) (H : Hid (VT B s l n w)) :
    Calls Tryd.prog 15 #[.iface 9 (.string x), .pointer (some ⟨B, 0, none⟩)] w fun e w' => e = .returned (.bool true) ∧ VT B x l 0 w' ∧ Below B w w' := by
  go_enter Tryd.func15, Tryd.ntmps15
  go_wp2_with (go_at_call 17; refine (read_str _ _ _ _ _ _ H).mono ?_; rintro e w' ⟨rfl, hv, hb⟩)
  go_ret
  exact ⟨rfl, hv, hb⟩
set_option maxHeartbeats 400000 in
theorem zz_str (B : Nat) (x s : ByteArray) (l : List UInt8) (n : Int) (w : World) (H : Hid (VT B s l n w)) :
    Calls Tryd.prog 10 #[.string x, .pointer (some ⟨B, 0, none⟩)] w fun e w' => e = .returned (.bool true) ∧ VT B x l 0 w' ∧ Below B w w' := by
  go_enter Tryd.func10, Tryd.ntmps10
  go_wp2_with (go_at_call 15; refine (form_str _ _ _ _ _ _ H).mono ?_; rintro e w' ⟨rfl, hv, hb⟩)
  go_ret
  exact ⟨rfl, hv, hb⟩
end Go.Proofs.Qxb6612929aDoor
