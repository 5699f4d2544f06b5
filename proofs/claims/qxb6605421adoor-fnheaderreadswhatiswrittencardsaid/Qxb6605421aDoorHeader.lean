import Derived.Test.Qxb6605421aDoorSmall
import Derived.Test.Qxb6605421aDoorLower
import Derived.Test.Qxb6605421aDoorShelf
import Derived.Deep.DeepCutAuto
import Derived.Deep.RegionWith
import Derived.Deep.LoopGhost
import Derived.Laws.Strings3
import Derived.Laws.DeepStrings4
namespace Go.Proofs.Qxb6605421aDoor
open Go.RowKit

/-- isKeyChar(c) is v; isSpace(c) is v. -/
def KeyIs (c : Int) (v : Bool) : Prop := ∀ w : World, Calls Tryd.prog 23 #[.int .u8 c] w fun e w' => e = .returned (.bool v) ∧ w' = w
def SpIs (c : Int) (v : Bool) : Prop := ∀ w : World, Calls Tryd.prog 24 #[.int .u8 c] w fun e w' => e = .returned (.bool v) ∧ w' = w
theorem keyIs {c : Int} {v : Bool} (h : keyB c = v) : KeyIs c v := fun w => by have := key_any c w; rw [h] at this; exact this
theorem spIs {c : Int} {v : Bool} (h : spB c = v) : SpIs c v := fun w => by have := sp_any c w; rw [h] at this; exact this

/-- What loop 1 of header meets: from place 1 to place q the bytes of a name, at q none. -/
structure NameAt (T : ByteArray) (q : Nat) : Prop where
  lt : q < T.size
  pos : 1 ≤ q
  inn : ∀ i (h : i < T.size), 1 ≤ i → i < q → keyB (T[i]).toNat = true ∨ (keyB (T[i]).toNat = false ∧ (((T[i]).toNat : Int) == 46) = true)
  out : keyB (T[q]).toNat = false ∧ (((T[q]).toNat : Int) == 46) = false
/-- What loop 2 meets: from q to r white space, at r none. -/
structure SpAt (T : ByteArray) (q r : Nat) : Prop where
  lt : r < T.size
  le : q ≤ r
  inn : ∀ i (h : i < T.size), q ≤ i → i < r → spB (T[i]).toNat = true
  out : spB (T[r]).toNat = false

/-- strings.ToLower(T[1:q]) is nm. -/
def LowGives (T nm : ByteArray) (q : Nat) : Prop :=
  ∀ w : World, Calls Tryd.prog 20 #[.string (T.extract 1 q)] w fun e w' => e = .returned (.string nm) ∧ Below w.heap.size w w'
theorem slice_name (T : ByteArray) (q : Nat) (hq1 : 1 ≤ q) (hql : q < T.size) (w : World) : (Instr.slice 9 (.string T) (some (.int .i64 1)) (some (.int .i64 (q : Int))) none).run Tryd.prog w = .ok (.string (T.extract 1 q)) w := by
  rw [run_slice_string w 9 T .i64 .i64 1 q Tryd.underlying9 (by omega) (by omega) (by omega)]
  rfl

set_option maxHeartbeats 2000000 in
set_option maxRecDepth 100000 in
theorem header_plain (b : Nat) (T nm : ByteArray) (q r : Nat) (w : World) (h : Hid (At b T 1 w)) (hT : T.size ≤ 2000000) (hq : Hid (NameAt T q)) (hr : Hid (SpAt T q r)) (hql : q < T.size) (hq1 : 1 ≤ q) (hqr : q ≤ r) (hrl : r < T.size) (hL : Hid (LowGives T nm q))
    (hc : (((T[r]).toNat : Int) != 34) = true) :
    Calls Tryd.prog 18 #[.pointer (some ⟨b, 0, none⟩)] w fun e w' => e = .returned (.string nm) ∧ At b T (r + 1) w' ∧ Below b w w' := by
  have c1' : w.cell? ⟨b, 1, none⟩ = some (.int .i64 1) := h.out.off
  go_enter Tryd.func18, Tryd.ntmps18
  go_wp2
  clear c1'
  go_loopg [] (q - 1) (fun g wr => ∃ i : Nat, 1 ≤ i ∧ i + g = q ∧ Hid (At b T i wr) ∧ Hid (But b w wr))
  case atStart => exact ⟨1, by omega, by omega, h, But.refl _ _⟩
  case round =>
    obtain ⟨i, hi1, hig, HA, HB⟩ := hrel
    have c0 := HA.out.text; have c1 := HA.out.off; have f1 := HA.out.free
    have hiT : i < T.size := by omega
    have hiI : (i : Int) < (T.size : Int) := by omega
    cases gk with
    | succ g =>
      rcases hq.out.inn i hiT hi1 (by omega) with hk | ⟨hk, hd⟩
      · have HK : Hid (KeyIs (T[i]).toNat true) := keyIs hk
        clear hk
        go_wp2_with fail
        go_quiet ((go_at_call 23; exact Calls.quiet_of_same (HK.out _)))
        go_wp2
        go_roundg g
        case measure => omega
        case rel => exact ⟨i + 1, by omega, by omega, (HA.out.drewN _).step (i + 1), HB.out.trans ((But.drewN b _ _).trans (But.step b _ _))⟩
      · have HK : Hid (KeyIs (T[i]).toNat false) := keyIs hk
        clear hk
        go_wp2_with fail
        go_quiet ((go_at_call 23; exact Calls.quiet_of_same (HK.out _)))
        go_wp2
        go_roundg g
        case measure => omega
        case rel => exact ⟨i + 1, by omega, by omega, (HA.out.drewN _).step (i + 1), HB.out.trans ((But.drewN b _ _).trans (But.step b _ _))⟩
    | zero =>
      obtain rfl : i = q := by omega
      obtain ⟨hk, hd⟩ := hq.out.out
      have HK : Hid (KeyIs (T[i]).toNat false) := keyIs hk
      have hsl : ∀ w, (Instr.slice 9 (.string T) (some (.int .i64 1)) (some (.int .i64 (i : Int))) none).run Tryd.prog w = .ok (.string (T.extract 1 i)) w := slice_name T i hq1 hql
      clear hk
      go_wp2_with fail
      go_quiet ((go_at_call 23; exact Calls.quiet_of_same (HK.out _)))
      go_wp2
      have HA2 : Hid (At b T i (wr.drewN nq)) := HA.out.drewN nq
      have HB2 : Hid (Below b w (wr.drewN nq)) := (HB.out.trans (But.drewN b _ nq)).below
      generalize wr.drewN nq = W at HA2 HB2 ⊢
      clear HA HB c0 c1 f1 hd
      have c0 := HA2.out.text; have c1 := HA2.out.off; have f1 := HA2.out.free; have hbl := HA2.out.lt
      go_cut [4] (fun v wc => v = .string nm ∧ Hid (At b T i wc) ∧ Hid (Below b w wc))
      case first =>
        go_region_with (go_at_call 20; refine (hL.out _).mono ?_; rintro e w' ⟨rfl, hb⟩)
        all_goals
          go_wp2
          go_meet
          case rel => exact ⟨rfl, HA2.out.but (((Below.refl _ W).drew).trans hb) hbl, (HB2.out.drew).trans (hb.mono (Nat.le_of_lt hbl))⟩
      case rest =>
        obtain ⟨rfl, HA3, HB3⟩ := hcut
        clear c0 c1 f1 hbl HA2 HB2 hsl HK
        go_wp2_with fail
        go_loopg [] (r - i) (fun g wr => ∃ j : Nat, i ≤ j ∧ j + g = r ∧ Hid (At b T j wr) ∧ Hid (Below b w wr))
        case atStart => exact ⟨i, by omega, by omega, HA3, HB3⟩
        case round =>
          obtain ⟨j, hij, hjg, HA4, HB4⟩ := hrel
          have c0 := HA4.out.text; have c1 := HA4.out.off; have f1 := HA4.out.free
          have hjT : j < T.size := by omega
          have hjI : (j : Int) < (T.size : Int) := by omega
          cases gk with
          | succ g =>
            have HS : Hid (SpIs (T[j]).toNat true) := spIs (hr.out.inn j hjT hij (by omega))
            go_wp2_with fail
            go_quiet ((go_at_call 24; exact Calls.quiet_of_same (HS.out _)))
            go_wp2
            go_roundg g
            case measure => omega
            case rel => exact ⟨j + 1, by omega, by omega, (HA4.out.drewN _).step (j + 1), HB4.out.trans ((But.drewN b _ _).trans (But.step b _ _)).below⟩
          | zero =>
            obtain rfl : j = r := by omega
            have HS : Hid (SpIs (T[j]).toNat false) := spIs hr.out.out
            go_wp2_with fail
            go_quiet ((go_at_call 24; exact Calls.quiet_of_same (HS.out _)))
            have HA5 : Hid (At b T j (wr.drewN nq)) := HA4.out.drewN nq
            have HB5 : Hid (Below b w (wr.drewN nq)) := HB4.out.trans (But.drewN b _ nq).below
            generalize wr.drewN nq = W2 at HA5 HB5 ⊢
            clear HA4 HB4 c0 c1 f1
            go_wp2_with (go_at_call 25; refine (next_any b T j _ HA5.out hT hjT).mono ?_; rintro e w' ⟨rfl, hA, hB⟩)
            go_ret
            exact ⟨rfl, hA, HB5.out.trans hB.below⟩

end Go.Proofs.Qxb6605421aDoor
