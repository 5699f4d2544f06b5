import Derived.Test.Qxb6600459aDoorProg
import Derived.WalkKit
import Derived.Handy
import Derived.KernelRfl
namespace Go.Proofs.Qxb6600459aDoor
open Go.RowKit

/-- metaB1IsSpace. -/
def isSp (n : Int) : Bool := n == 32 || n == 9 || n == 10 || n == 13
/-- metaB1IsSymbol. -/
def isSy (n : Int) : Bool := n == 33 || n == 61 || n == 60 || n == 62 || n == 40 || n == 41 || n == 44
theorem ret_bool {a b : Bool} (h : a = b) : Ending.returned (.bool a) = .returned (.bool b) := by rw [h]

set_option maxHeartbeats 400000 in
theorem bytes_any (s : ByteArray) (n : Int) (w : World) (hs : s.size ≤ 1048576) :
    Calls Tryd.prog 14 #[.string s, .int .i64 n] w fun e w' => e = .returned (.bool true) ∧ w' = w := by
  go_enter Tryd.func14, Tryd.ntmps14
  go_wp2
  go_ret
  exact ⟨rfl, rfl⟩

set_option maxHeartbeats 400000 in
theorem bytes_no (s : ByteArray) (n : Int) (w : World) (hs : 1048576 < s.size) :
    Calls Tryd.prog 14 #[.string s, .int .i64 n] w fun e w' => e = .returned (.bool false) ∧ w' = w := by
  go_enter Tryd.func14, Tryd.ntmps14
  go_wp2
  go_ret
  exact ⟨rfl, rfl⟩

set_option maxHeartbeats 400000 in
theorem isSp_any (n : Int) (w : World) :
    Calls Tryd.prog 16 #[.int .u8 n] w fun e w' => e = .returned (.bool (isSp n)) ∧ w' = w := by
  go_enter Tryd.func16, Tryd.ntmps16
  go_wp2
  all_goals
    go_ret
    exact ⟨ret_bool (by simp_all [isSp]), rfl⟩

set_option maxHeartbeats 400000 in
theorem isSy_any (n : Int) (w : World) :
    Calls Tryd.prog 17 #[.int .u8 n] w fun e w' => e = .returned (.bool (isSy n)) ∧ w' = w := by
  go_enter Tryd.func17, Tryd.ntmps17
  go_wp2
  all_goals
    go_ret
    exact ⟨ret_bool (by simp_all [isSy]), rfl⟩
end Go.Proofs.Qxb6600459aDoor
