import Derived.Test.Qxb6605421aDoorSmall
namespace Go.Proofs.Qxb6605421aDoor
open Go.RowKit

/-- header on the text T from place 1 answers res and ends at place fin. -/
def HdGives (T res : ByteArray) (fin : Nat) : Prop :=
  ∀ (b : Nat) (w : World), At b T 1 w → Calls Tryd.prog 18 #[.pointer (some ⟨b, 0, none⟩)] w fun e w' => e = .returned (.string res) ∧ At b T fin w' ∧ Below b w w'

set_option maxHeartbeats 800000 in
set_option maxRecDepth 100000 in
theorem zz_any (T res : ByteArray) (fin : Nat) (w : World) (h : Hid (HdGives T res fin)) :
    Calls Tryd.prog 13 #[.string T, .int .i64 1] w fun e w' => e = .returned (.tuple #[.string res, .int .i64 fin]) ∧ Below w.heap.size w w' := by
  go_enter Tryd.func13, Tryd.ntmps13
  go_wp2_with (go_at_call 18; refine (h.out w.heap.size _ ⟨by simp, by simp, by simp, by simp⟩).mono ?_; rintro e w1 ⟨rfl, hA, hb⟩)
  have c1 := hA.off
  go_quiet (fail)
  go_wp2
  go_ret2
  exact ⟨rfl, below_drewN (((Below.refl _ w).alloc (Nat.le_refl _) _).trans hb) _⟩
end Go.Proofs.Qxb6605421aDoor
