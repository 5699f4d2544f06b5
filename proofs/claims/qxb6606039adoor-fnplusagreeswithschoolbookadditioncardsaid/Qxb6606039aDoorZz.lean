import Derived.Test.Qxb6606039aDoorPlus
namespace Go.Proofs.Qxb6606039aDoor
open Go.RowKit

/-- What integer.plus gives. -/
def PlusGives (q : Bool) (d : ByteArray) (n x : Int) : Prop := ∀ w : World, Tab w →
  Calls Tryd.prog 14 #[.agg #[.bool q, .string d], .int .i64 n] w fun e w' => (∃ (m : Bool) (r : ByteArray), e = .returned (.agg #[.bool m, .string r]) ∧ Res x m r.data.toList) ∧ Below w.heap.size w w'

set_option maxHeartbeats 800000 in
set_option maxRecDepth 100000 in
theorem zz_any (q : Bool) (d : ByteArray) (n x : Int) (w : World) (h : Hid (PlusGives q d n x)) (HT : Hid (Tab w)) :
    Calls Tryd.prog 8 #[.bool q, .string d, .int .i64 n] w fun e w' => (∃ (m : Bool) (r : ByteArray), e = .returned (.tuple #[.bool m, .string r]) ∧ Res x m r.data.toList) ∧ Below w.heap.size w w' := by
  go_enter Tryd.func8, Tryd.ntmps8
  go_wp2_with (go_at_call 14; refine (h.out w HT.out).mono ?_; rintro e w1 ⟨⟨m, r, rfl, hres⟩, hb⟩; have HR : Hid (Res x m r.data.toList) := hres; clear hres)
  go_quiet (fail)
  go_wp2
  go_ret2
  exact ⟨⟨m, r, rfl, HR.out⟩, below_drewN (hb.alloc hb.size _) _⟩
end Go.Proofs.Qxb6606039aDoor
