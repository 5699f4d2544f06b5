import Derived.Test.Qxb6606039aDoorProg
import Derived.Test.Qxb6606039aDoorNum
import Derived.WalkKit
import Derived.Handy
import Derived.KernelRfl
import Derived.BigQuiet
import Derived.Deep.QuietTactic
import Derived.WalkSmall
import Derived.Lib.IndexBytes
import Derived.Laws.Strings3
import Derived.Laws.Runes
import Derived.Lib.TrimByte
namespace Go.Proofs.Qxb6606039aDoor
open Go.RowKit

theorem ret_bool {a b : Bool} (h : a = b) : Ending.returned (.bool a) = .returned (.bool b) := by rw [h]

set_option maxHeartbeats 400000 in
theorem bytes_any (q : Bool) (s : ByteArray) (n : Int) (w : World) (hs : s.size ≤ 1048576) :
    Calls Tryd.prog 6 #[.bool q, .string s, .int .i64 n] w fun e w' => e = .returned (.bool true) ∧ w' = w := by
  go_enter Tryd.func6, Tryd.ntmps6
  go_wp2
  go_ret
  exact ⟨rfl, rfl⟩
set_option maxHeartbeats 400000 in
theorem bytes_no (q : Bool) (s : ByteArray) (n : Int) (w : World) (hs : 1048576 < s.size) :
    Calls Tryd.prog 6 #[.bool q, .string s, .int .i64 n] w fun e w' => e = .returned (.bool false) ∧ w' = w := by
  go_enter Tryd.func6, Tryd.ntmps6
  go_wp2
  go_ret
  exact ⟨rfl, rfl⟩

def digB (c : Int) : Bool := decide (48 ≤ c) && decide (c ≤ 57)
theorem digB_iff (c : UInt8) : digB c.toNat = true ↔ isDig c := by unfold digB isDig; simp; omega
set_option maxHeartbeats 400000 in
theorem isDigit_any (c : Int) (w : World) : Calls Tryd.prog 18 #[.int .u8 c] w fun e w' => e = .returned (.bool (digB c)) ∧ w' = w := by
  go_enter Tryd.func18, Tryd.ntmps18
  go_wp2
  all_goals
    go_ret
    exact ⟨ret_bool (by unfold digB; rw [Bool.eq_iff_iff]; simp <;> omega), rfl⟩

set_option maxHeartbeats 400000 in
theorem all_yes (s : ByteArray) (w : World) (hs : s.size ≤ 1048576) (h : Hid (∀ j (h : j < s.size), digB (s[j]).toNat = true)) :
    Calls Tryd.prog 13 #[.string s] w fun e w' => e = .returned (.bool true) ∧ w' = w := by
  go_enter Tryd.func13, Tryd.ntmps13
  go_wp2
  go_loop [3] (fun v => ∃ j : Nat, j ≤ s.size ∧ v = .int .i64 j) (fun v => s.size - (intOf v).toNat)
  case atStart => exact ⟨0, Nat.zero_le _, rfl⟩
  case round =>
    obtain ⟨j, hj, rfl⟩ := hrel
    by_cases hlt : j < s.size
    · have e1 := h.out j hlt
      go_wp2_with (go_at_call 18; refine (isDigit_any _ _).mono ?_; rintro e w' ⟨rfl, rfl⟩)
      go_round
      case rel => exact ⟨j + 1, by omega, by go_num⟩
      case measure => simp [intOf]; omega
    · go_wp2
      go_ret
      exact ⟨rfl, rfl⟩

set_option maxHeartbeats 400000 in
theorem all_no (s : ByteArray) (K : Nat) (w : World) (hs : s.size ≤ 1048576) (hK : K < s.size) (h : Hid (∀ j (h : j < s.size), j < K → digB (s[j]).toNat = true)) (hb : digB (s[K]).toNat = false) :
    Calls Tryd.prog 13 #[.string s] w fun e w' => e = .returned (.bool false) ∧ w' = w := by
  go_enter Tryd.func13, Tryd.ntmps13
  go_wp2
  go_loop [3] (fun v => ∃ j : Nat, j ≤ K ∧ v = .int .i64 j) (fun v => K - (intOf v).toNat)
  case atStart => exact ⟨0, Nat.zero_le _, rfl⟩
  case round =>
    obtain ⟨j, hj, rfl⟩ := hrel
    have hjs : j < s.size := by omega
    by_cases hlt : j < K
    · have e1 := h.out j hjs hlt
      go_wp2_with (go_at_call 18; refine (isDigit_any _ _).mono ?_; rintro e w' ⟨rfl, rfl⟩)
      go_round
      case rel => exact ⟨j + 1, by omega, by go_num⟩
      case measure => simp [intOf]; omega
    · obtain rfl : j = K := by omega
      go_wp2_with (go_at_call 18; refine (isDigit_any _ _).mono ?_; rintro e w' ⟨rfl, rfl⟩)
      go_ret
      exact ⟨rfl, rfl⟩

/-- The first place from a on where p holds, or n. -/
theorem first_of (p : Nat → Bool) : ∀ (d a n : Nat), a + d = n → ∃ k, a ≤ k ∧ k ≤ n ∧ (∀ j, a ≤ j → j < k → p j = false) ∧ (k < n → p k = true)
  | 0, a, n, h => ⟨a, Nat.le_refl _, by omega, fun j h1 h2 => by omega, fun h1 => by omega⟩
  | d + 1, a, n, h => by
    cases hp : p a with
    | true => exact ⟨a, Nat.le_refl _, by omega, fun j h1 h2 => by omega, fun _ => hp⟩
    | false =>
      obtain ⟨k, h1, h2, h3, h4⟩ := first_of p d (a + 1) n (by omega)
      refine ⟨k, by omega, h2, fun j g1 g2 => ?_, h4⟩
      by_cases e : j = a
      · rw [e]; exact hp
      · exact h3 j (by omega) g2

theorem dig_all {s : ByteArray} (h : Dig s.data.toList) (j : Nat) (hj : j < s.size) : isDig s[j] := h _ (List.mem_of_getElem? (Lib.data_getElem? s j hj))

set_option maxHeartbeats 400000 in
theorem canon_yes0 (s : ByteArray) (w : World) (hA : Hid (∀ w, Calls Tryd.prog 13 #[.string s] w fun e w' => e = .returned (.bool true) ∧ w' = w)) (h0 : s.size = 0) :
    Calls Tryd.prog 7 #[.string s] w fun e w' => e = .returned (.bool true) ∧ w' = w := by
  have hz : ((s.size : Int) == 0) = true := beq_iff_eq.2 (by omega)
  go_enter Tryd.func7, Tryd.ntmps7
  go_wp2_with (go_at_call 13; refine (hA.out _).mono ?_; rintro e w' ⟨rfl, rfl⟩)
  go_ret
  exact ⟨rfl, rfl⟩
set_option maxHeartbeats 400000 in
theorem canon_at (s : ByteArray) (w : World) (hA : Hid (∀ w, Calls Tryd.prog 13 #[.string s] w fun e w' => e = .returned (.bool true) ∧ w' = w)) (h0 : 0 < s.size) (v : Bool) (hv : (((s[0]).toNat : Int) != 48) = v) :
    Calls Tryd.prog 7 #[.string s] w fun e w' => e = .returned (.bool v) ∧ w' = w := by
  have hz : ((s.size : Int) == 0) = false := beq_eq_false_iff_ne.2 (by omega)
  go_enter Tryd.func7, Tryd.ntmps7
  go_wp2_with (go_at_call 13; refine (hA.out _).mono ?_; rintro e w' ⟨rfl, rfl⟩)
  go_ret
  exact ⟨ret_bool (by simp), rfl⟩
set_option maxHeartbeats 400000 in
theorem canon_no0 (s : ByteArray) (w : World) (hA : Hid (∀ w, Calls Tryd.prog 13 #[.string s] w fun e w' => e = .returned (.bool false) ∧ w' = w)) :
    Calls Tryd.prog 7 #[.string s] w fun e w' => e = .returned (.bool false) ∧ w' = w := by
  go_enter Tryd.func7, Tryd.ntmps7
  go_wp2_with (go_at_call 13; refine (hA.out _).mono ?_; rintro e w' ⟨rfl, rfl⟩)
  go_ret
  exact ⟨rfl, rfl⟩

theorem head_at {s : ByteArray} (h : 0 < s.size) : s.data.toList.head? = some s[0] := by
  rw [List.head?_eq_getElem?]; exact Lib.data_getElem? s 0 h

/-- zzCanonical. -/
theorem canon_any (s : ByteArray) (hs : s.size ≤ 1048576) : (Can s.data.toList ∧ ∀ w, Calls Tryd.prog 7 #[.string s] w fun e w' => e = .returned (.bool true) ∧ w' = w) ∨ ∀ w, Calls Tryd.prog 7 #[.string s] w fun e w' => e = .returned (.bool false) ∧ w' = w := by
  obtain ⟨K, _, k2, k3, k4⟩ := first_of (fun j => if h : j < s.size then !digB (s[j]).toNat else true) s.size 0 s.size (by omega)
  have hin : ∀ j (h : j < s.size), j < K → digB (s[j]).toNat = true := fun j h hj => by
    have := k3 j (by omega) hj; rw [dif_pos h] at this; simpa using this
  by_cases hK : K < s.size
  · have hb : digB (s[K]).toNat = false := by have := k4 hK; rw [dif_pos hK] at this; simpa using this
    exact .inr (fun w => canon_no0 s w (fun w => all_no s K w hs hK hin hb))
  · have hall : ∀ j (h : j < s.size), digB (s[j]).toNat = true := fun j h => hin j h (by omega)
    have hD : Dig s.data.toList := fun c hc => by
      obtain ⟨j, hj, e⟩ := List.getElem_of_mem hc
      have hjs : j < s.size := by simpa using hj
      have e2 := Lib.data_getElem? s j hjs
      rw [List.getElem?_eq_getElem hj, e] at e2
      rw [Option.some.inj e2]
      exact (digB_iff _).1 (hall j hjs)
    have hA : ∀ w, Calls Tryd.prog 13 #[.string s] w fun e w' => e = .returned (.bool true) ∧ w' = w := fun w => all_yes s w hs hall
    by_cases h0 : s.size = 0
    · refine .inl ⟨⟨hD, ?_⟩, fun w => canon_yes0 s w hA h0⟩
      have : s.data.toList = [] := List.length_eq_zero_iff.1 (by rw [← Lib.size_eq]; exact h0)
      rw [this]; simp
    · have hp : 0 < s.size := by omega
      cases hv : (((s[0]).toNat : Int) != 48) with
      | true =>
        refine .inl ⟨⟨hD, ?_⟩, fun w => canon_at s w hA hp true hv⟩
        rw [head_at hp]
        intro e
        rw [Option.some.inj e] at hv
        simp at hv
      | false => exact .inr (fun w => canon_at s w hA hp false hv)

set_option maxHeartbeats 400000 in
theorem trimZ_at (s : ByteArray) (K : Nat) (w : World) (hs : s.size ≤ 2000000) (hK : K ≤ s.size) (h : Hid (∀ j (h : j < s.size), j < K → (((s[j]).toNat : Int) == 48) = true)) (hb : Hid (∀ h : K < s.size, (((s[K]).toNat : Int) == 48) = false)) :
    Calls Tryd.prog 24 #[.string s] w fun e w' => e = .returned (.string (s.extract K s.size)) ∧ w' = w := by
  go_enter Tryd.func24, Tryd.ntmps24
  go_wp2
  go_loop [3] (fun v => ∃ j : Nat, j ≤ K ∧ v = .int .i64 j) (fun v => K - (intOf v).toNat)
  case atStart => exact ⟨0, Nat.zero_le _, rfl⟩
  case round =>
    obtain ⟨j, hj, rfl⟩ := hrel
    by_cases hlt : j < K
    · have hjs : j < s.size := by omega
      have e1 := h.out j hjs hlt
      go_wp2
      go_round
      case rel => exact ⟨j + 1, by omega, by go_num⟩
      case measure => simp [intOf]; omega
    · obtain rfl : j = K := by omega
      by_cases hjs : j < s.size
      · have e1 := hb.out hjs
        go_wp2
        go_ret
        exact ⟨rfl, rfl⟩
      · go_wp2
        go_ret
        exact ⟨rfl, rfl⟩

/-- zzTrimLeftZeros. -/
theorem trimZ_any (s : ByteArray) (w : World) (hs : s.size ≤ 2000000) :
    Calls Tryd.prog 24 #[.string s] w fun e w' => e = .returned (.string ⟨(trim0 s.data.toList).toArray⟩) ∧ w' = w := by
  obtain ⟨K, _, k2, k3, k4⟩ := first_of (fun j => if h : j < s.size then !(((s[j]).toNat : Int) == 48) else true) s.size 0 s.size (by omega)
  have hin : ∀ j (h : j < s.size), j < K → (((s[j]).toNat : Int) == 48) = true := fun j h hj => by
    have := k3 j (by omega) hj; rw [dif_pos h] at this; simpa using this
  have hout : ∀ h : K < s.size, (((s[K]).toNat : Int) == 48) = false := fun h => by
    have := k4 h; rw [dif_pos h] at this; simpa using this
  have key : ∀ b : UInt8, ((b.toNat : Int) == 48) = (b == 48) := fun b => by
    rw [Bool.eq_iff_iff]; simp; constructor
    · intro h; apply UInt8.toNat_inj.1; simpa using (by omega : b.toNat = 48)
    · intro h; rw [h]; rfl
  have e : (⟨(trim0 s.data.toList).toArray⟩ : ByteArray) = s.extract K s.size := by
    unfold trim0
    rw [Lib.dropWhile_drop (· == 48) s.data.toList K (fun j b hj hb => by
      have hjs : j < s.size := by omega
      rw [Lib.data_getElem? s j hjs] at hb
      rw [← Option.some.inj hb, ← key]; exact hin j hjs hj) (fun b hb => by
      have hjs : K < s.size := by
        have := (List.getElem?_eq_some_iff.1 hb).1
        simpa using this
      rw [Lib.data_getElem? s K hjs] at hb
      rw [← Option.some.inj hb, ← key]; exact hout hjs) (by rw [← Lib.size_eq]; exact k2)]
    apply ByteArray.ext
    rw [ByteArray.data_extract]
    apply Array.ext'
    simp [Array.toList_extract]
    rw [List.take_of_length_le (by simp)]
  rw [e]
  exact trimZ_at s K w hs k2 hin hout

/-! ### zzCmpMag -/
theorem drew_refl (w : World) : ∃ n, w = w.drewN n := ⟨0, rfl⟩
set_option maxHeartbeats 400000 in
theorem cmp_short (a b : ByteArray) (w : World) (h : a.size < b.size) :
    Calls Tryd.prog 16 #[.string a, .string b] w fun e w' => e = .returned (.int .i64 (-1)) ∧ ∃ n, w' = w.drewN n := by
  have h1 : ((a.size : Int) != (b.size : Int)) = true := by simp; omega
  go_enter Tryd.func16, Tryd.ntmps16
  go_wp2
  go_ret
  exact ⟨rfl, 0, rfl⟩
set_option maxHeartbeats 400000 in
theorem cmp_long (a b : ByteArray) (w : World) (h : b.size < a.size) :
    Calls Tryd.prog 16 #[.string a, .string b] w fun e w' => e = .returned (.int .i64 1) ∧ ∃ n, w' = w.drewN n := by
  have h1 : ((a.size : Int) != (b.size : Int)) = true := by simp; omega
  go_enter Tryd.func16, Tryd.ntmps16
  go_wp2
  go_ret
  exact ⟨rfl, 0, rfl⟩
set_option maxHeartbeats 800000 in
theorem cmp_same (a b : ByteArray) (K : Nat) (r : Int) (w : World) (h : a.size = b.size) (hs : b.size ≤ 2000000) (hK : K ≤ a.size)
    (hin : Hid (∀ j (h1 : j < a.size) (h2 : j < b.size), j < K → (((a[j]).toNat : Int) != ((b[j]).toNat : Int)) = false))
    (hout : Hid (∀ (h1 : K < a.size) (h2 : K < b.size), (((a[K]).toNat : Int) != ((b[K]).toNat : Int)) = true ∧ (((a[K]).toNat < (b[K]).toNat ∧ r = -1) ∨ (¬ (a[K]).toNat < (b[K]).toNat ∧ r = 1))))
    (hend : Hid (K = a.size → r = 0)) :
    Calls Tryd.prog 16 #[.string a, .string b] w fun e w' => e = .returned (.int .i64 r) ∧ ∃ n, w' = w.drewN n := by
  have h1 : ((a.size : Int) != (b.size : Int)) = false := by simp; omega
  have hab : a.size ≤ b.size := by omega
  have hba : b.size ≤ a.size := by omega
  have HE : Hid (a.size = b.size) := h
  clear h
  go_enter Tryd.func16, Tryd.ntmps16
  go_wp2
  go_loopw [5] (fun v wr => ∃ j m : Nat, j ≤ K ∧ v = .int .i64 j ∧ wr = w.drewN m) (fun v _ => K - (intOf v).toNat)
  case atStart => exact ⟨0, 0, Nat.zero_le _, rfl, rfl⟩
  case round =>
    obtain ⟨j, m, hj, rfl, rfl⟩ := hrel
    by_cases hja : j < a.size
    · have hjb : j < b.size := by omega
      by_cases hlt : j < K
      · have e1 := hin.out j hja hjb hlt
        go_wp2_with fail
        go_quiet (fail)
        go_wp2
        go_roundw
        case rel => exact ⟨j + 1, _, by omega, by go_num, by first | rfl | rw [World.drewN_drewN]⟩
        case measure => simp [intOf]; omega
      · obtain rfl : j = K := by omega
        obtain ⟨e1, ⟨e2, e3⟩ | ⟨e2, e3⟩⟩ := hout.out hja hjb
        · go_wp2_with fail
          go_quiet (fail)
          go_wp2
          go_quiet (fail)
          go_wp2
          go_ret
          exact ⟨by rw [e3]; rfl, _, by first | rfl | rw [World.drewN_drewN, World.drewN_drewN] | rw [World.drewN_drewN]⟩
        · go_wp2_with fail
          go_quiet (fail)
          go_wp2
          go_quiet (fail)
          go_wp2
          go_ret
          exact ⟨by rw [e3]; rfl, _, by first | rfl | rw [World.drewN_drewN, World.drewN_drewN] | rw [World.drewN_drewN]⟩
    · have e3 : r = 0 := hend.out (by omega)
      go_wp2
      go_ret
      exact ⟨by rw [e3]; rfl, _, rfl⟩
end Go.Proofs.Qxb6606039aDoor
