import Derived.Test.Qxb6605421aDoorProg
import Derived.WalkKit
import Derived.Handy
import Derived.KernelRfl
import Derived.BigQuiet
import Derived.Deep.QuietTactic
import Derived.WalkSmall
import Derived.Laws.Runes
namespace Go.Proofs.Qxb6605421aDoor
open Go.RowKit

theorem ret_bool {a b : Bool} (h : a = b) : Ending.returned (.bool a) = .returned (.bool b) := by rw [h]

/-- zzNameByte. -/
def nmB (c : Int) : Bool := (decide (97 ≤ c) && decide (c ≤ 122)) || (decide (65 ≤ c) && decide (c ≤ 90)) || (decide (48 ≤ c) && decide (c ≤ 57)) || c == 45 || c == 46
/-- isKeyChar. -/
def keyB (c : Int) : Bool := (decide (97 ≤ c) && decide (c ≤ 122)) || (decide (65 ≤ c) && decide (c ≤ 90)) || (decide (48 ≤ c) && decide (c ≤ 57)) || c == 45
/-- isSpace. -/
def spB (c : Int) : Bool := c == 32 || c == 9 || c == 13

set_option maxHeartbeats 400000 in
theorem bytes_any (a b c : ByteArray) (q : Bool) (w : World) (ha : a.size ≤ maxLen) (hb : b.size ≤ maxLen) (hc : c.size ≤ maxLen) :
    Calls Tryd.prog 10 #[.string a, .string b, .bool q, .string c] w fun e w' => e = .returned (.bool (decide (a.size + b.size + c.size ≤ 1048576))) ∧ w' = w := by
  unfold maxLen at ha hb hc
  go_enter Tryd.func10, Tryd.ntmps10
  go_wp2
  all_goals
    go_ret
    exact ⟨ret_bool (by simp; omega), rfl⟩

set_option maxHeartbeats 400000 in
theorem nm_any (c : Int) (w : World) : Calls Tryd.prog 11 #[.int .u8 c] w fun e w' => e = .returned (.bool (nmB c)) ∧ w' = w := by
  go_enter Tryd.func11, Tryd.ntmps11
  go_wp2
  all_goals
    go_ret
    exact ⟨ret_bool (by unfold nmB; rw [Bool.eq_iff_iff]; simp <;> omega), rfl⟩

set_option maxHeartbeats 400000 in
theorem key_any (c : Int) (w : World) : Calls Tryd.prog 23 #[.int .u8 c] w fun e w' => e = .returned (.bool (keyB c)) ∧ w' = w := by
  go_enter Tryd.func23, Tryd.ntmps23
  go_wp2
  all_goals
    go_ret
    exact ⟨ret_bool (by unfold keyB; rw [Bool.eq_iff_iff]; simp <;> omega), rfl⟩

set_option maxHeartbeats 400000 in
theorem sp_any (c : Int) (w : World) : Calls Tryd.prog 24 #[.int .u8 c] w fun e w' => e = .returned (.bool (spB c)) ∧ w' = w := by
  go_enter Tryd.func24, Tryd.ntmps24
  go_wp2
  all_goals
    go_ret
    exact ⟨ret_bool (by unfold spB; simp_all <;> omega), rfl⟩

/-- A scanner (text T, offset i) in block b. -/
structure At (b : Nat) (T : ByteArray) (i : Nat) (w : World) : Prop where
  text : w.cell? ⟨b, 0, none⟩ = some (.string T)
  off : w.cell? ⟨b, 1, none⟩ = some (.int .i64 i)
  free : w.frozen? ⟨b, 1, none⟩ = false
  lt : b < w.heap.size

/-- w' is w but for block b (and draws). -/
structure But (b : Nat) (w w' : World) : Prop where
  os : w'.os = w.os
  tape : w'.tape = w.tape
  output : w'.output = w.output
  size : w'.heap.size = w.heap.size
  block : ∀ k, k ≠ b → w'.heap[k]? = w.heap[k]?

theorem But.refl (b : Nat) (w : World) : But b w w := ⟨rfl, rfl, rfl, rfl, fun _ _ => rfl⟩
theorem But.trans {b : Nat} {x y z : World} (h : But b x y) (k : But b y z) : But b x z :=
  ⟨k.os.trans h.os, k.tape.trans h.tape, k.output.trans h.output, k.size.trans h.size, fun i hi => (k.block i hi).trans (h.block i hi)⟩
theorem But.below {b : Nat} {x y : World} (h : But b x y) : Below b x y := ⟨h.os, h.tape, h.output, by rw [h.size]; exact Nat.le_refl _, fun k hk => h.block k (by omega)⟩

theorem At.drewN {b : Nat} {T : ByteArray} {i : Nat} {w : World} (h : At b T i w) (n : Nat) : At b T i (w.drewN n) := ⟨h.text, h.off, h.free, h.lt⟩
theorem But.drewN (b : Nat) (w : World) (n : Nat) : But b w (w.drewN n) := ⟨rfl, rfl, rfl, rfl, fun _ _ => rfl⟩
theorem At.step {b : Nat} {T : ByteArray} {i : Nat} {w : World} (h : At b T i w) (k : Nat) : At b T k (w.setCell ⟨b, 1, none⟩ (.int .i64 k)) :=
  ⟨by rw [World.cell?_setCell_other _ _ _ _ (by simp)]; exact h.text, World.cell?_setCell_same _ _ _ h.off, by simpa using h.free, by simpa [World.setCell] using h.lt⟩
theorem But.step (b : Nat) (w : World) (v : Value) : But b w (w.setCell ⟨b, 1, none⟩ v) :=
  ⟨rfl, rfl, rfl, by simp [World.setCell], fun k hk => Below.heap_setCell _ _ _ _ hk⟩
theorem At.but {b c : Nat} {T : ByteArray} {i : Nat} {w w' : World} (h : At b T i w) (k : Below c w w') (hc : b < c) : At b T i w' :=
  ⟨by rw [k.cell hc]; exact h.text, by rw [k.cell hc]; exact h.off, by rw [k.frozen hc]; exact h.free, Nat.lt_of_lt_of_le h.lt k.size⟩

set_option maxHeartbeats 800000 in
/-- (*scanner).next inside the text. -/
theorem next_any (b : Nat) (T : ByteArray) (i : Nat) (w : World) (h : At b T i w) (hT : T.size ≤ 2000000) (hi : i < T.size) :
    Calls Tryd.prog 25 #[.pointer (some ⟨b, 0, none⟩)] w fun e w' => e = .returned (.int .u8 (T[i]).toNat) ∧ At b T (i + 1) w' ∧ But b w w' := by
  have c0 := h.text; have c1 := h.off; have f1 := h.free
  have hne : ((i : Int) == (T.size : Int)) = false := by simp; omega
  go_enter Tryd.func25, Tryd.ntmps25
  go_wp2
  go_quiet (fail)
  go_wp2
  have hA : At b T (i + 1) ((w.drewN nq).setCell ⟨b, 1, none⟩ (.int .i64 ((i : Int) + 1))) := (h.drewN nq).step (i + 1)
  have hB : But b w ((w.drewN nq).setCell ⟨b, 1, none⟩ (.int .i64 ((i : Int) + 1))) := (But.drewN b w nq).trans (But.step b _ _)
  generalize (w.drewN nq).setCell ⟨b, 1, none⟩ (.int .i64 ((i : Int) + 1)) = W at hA hB ⊢
  clear c0 c1 f1 hne
  have c0 := hA.text; have c1 : W.cell? ⟨b, 1, none⟩ = some (.int .i64 ((i : Int) + 1)) := hA.off
  have e1 : IntKind.i64.wrap ((i : Int) + 1 - 1) = (i : Int) := by rw [show (i : Int) + 1 - 1 = (i : Int) by omega]; exact wrap_small _ (by omega) (by omega)
  go_quiet (fail)
  go_wp2
  go_ret
  exact ⟨rfl, hA.drewN _, hB.trans (But.drewN b _ _)⟩
end Go.Proofs.Qxb6605421aDoor
