import Derived.Test.Qxb6600459aDoorMain
import Derived.BigQuiet
import Derived.Deep.QuietTactic
import Derived.WalkSmall
namespace Go.Proofs.Qxb6600459aDoor
open Go.RowKit

def Peek21 (s tok : ByteArray) (a : Nat) : Prop :=
  ∀ (b : Nat) (w : World), w.cell? ⟨b, 0, none⟩ = some (.string s) → w.cell? ⟨b, 1, none⟩ = some (.int .i64 a) →
    Calls Tryd.prog 21 #[.pointer (some ⟨b, 0, none⟩)] w fun e w' => e = .returned (.string tok) ∧ Below w.heap.size w w'

set_option maxHeartbeats 800000 in
set_option maxRecDepth 100000 in
theorem zz_any (s tok : ByteArray) (a : Nat) (h : Hid (Peek21 s tok a)) : PeekGives s tok a := by
  intro w
  go_enter Tryd.func15, Tryd.ntmps15
  go_wp2_with (go_at_call 21; refine (h.out _ _ (by simp) (by simp)).mono ?_; rintro e w1 ⟨rfl, hb⟩)
  have hc : w1.cell? ⟨w.heap.size, 1, none⟩ = some (.int .i64 a) := by
    rw [hb.cell (by simp)]; simp
  go_quiet (fail)
  go_wp2
  go_ret2
  exact ⟨rfl, below_drewN (((Below.refl _ w).alloc (Nat.le_refl _) _).trans (hb.mono (by simp))) _⟩
end Go.Proofs.Qxb6600459aDoor
