import Derived.Test.Qxb6600459aDoorSmall
import Derived.PlainAid
namespace Go.Proofs.Qxb6600459aDoor
open Go.RowKit

def PeekGives (s tok : ByteArray) (a : Nat) : Prop :=
  ∀ w : World, Calls Tryd.prog 15 #[.string s, .int .i64 a] w fun e w' => e = .returned (.tuple #[.string tok, .int .i64 a]) ∧ Below w.heap.size w w'

theorem slice_tok (s tok : ByteArray) (K : Nat) (w : World) (hfit : K + tok.size ≤ s.size) (htok : tok = s.extract K (K + tok.size)) :
    (Instr.slice 9 (.string s) (some (.int .i64 (K : Int))) (some (.int .i64 ((K : Int) + (tok.size : Int)))) none).run Tryd.prog w = .ok (.string tok) w := by
  rw [run_slice_string w 9 s .i64 .i64 K (K + tok.size) Tryd.underlying9 (by omega) (by omega) (by omega)]
  rw [show ((K : Int) + (tok.size : Int)).toNat = K + tok.size by omega, show ((K : Int)).toNat = K by omega, ← htok]

set_option maxHeartbeats 800000 in
set_option maxRecDepth 100000 in
theorem main_a (s tok : ByteArray) (a K : Nat) (w : World) (hs : s.size ≤ 1048576) (haK : a ≤ K) (hKs : K ≤ s.size)
    (hP : Hid (PeekGives s tok a)) (hsp : Hid (∀ j (h : j < s.size), a ≤ j → j < K → isSp (s[j]).toNat = true))
    (hno : Hid (∀ h : K < s.size, isSp (s[K]).toNat = false)) (htn : tok.toList.isEmpty = true) (hend : K = s.size) :
    Calls Tryd.prog 5 #[.string s, .int .i64 a] w fun e w' => e = .returned (.bool true) ∧ Below w.heap.size w w' := by
  go_enter Tryd.func5, Tryd.ntmps5
  go_wp2_with (first
    | (go_at_call 14; refine (bytes_any _ _ _ (by omega)).mono ?_; rintro e w' ⟨rfl, rfl⟩)
    | (go_at_call 15; refine (hP.out _).mono ?_; rintro e w1 ⟨rfl, hb⟩))
  go_loop [7] (fun v => ∃ j : Nat, a ≤ j ∧ j ≤ K ∧ v = .int .i64 j) (fun v => K - (intOf v).toNat)
  case atStart => exact ⟨a, Nat.le_refl _, haK, rfl⟩
  case round =>
    obtain ⟨j, haj, hjK, rfl⟩ := hrel
    by_cases hlt : j < K
    · have hjs : j < s.size := by omega
      have h1 : isSp (s[j]).toNat = true := hsp.out j hjs haj hlt
      go_wp2_with (go_at_call 16; refine (isSp_any _ _).mono ?_; rintro e w' ⟨rfl, rfl⟩)
      go_round
      case rel => exact ⟨j + 1, by omega, by omega, by go_num⟩
      case measure => simp [intOf]; omega
    · obtain rfl : j = K := by omega
      by_cases hks : j < s.size
      · exfalso; omega
      · skip
        go_wp2_with (first
          | (go_at_call 16; refine (isSp_any _ _).mono ?_; rintro e w' ⟨rfl, rfl⟩)
          | (go_at_call 17; refine (isSy_any _ _).mono ?_; rintro e w' ⟨rfl, rfl⟩))
        all_goals
          go_ret
          exact ⟨ret_bool (by simp <;> omega), hb⟩

set_option maxHeartbeats 800000 in
set_option maxRecDepth 100000 in
theorem main_b (s tok : ByteArray) (a K : Nat) (w : World) (hs : s.size ≤ 1048576) (haK : a ≤ K) (hKs : K ≤ s.size)
    (hP : Hid (PeekGives s tok a)) (hsp : Hid (∀ j (h : j < s.size), a ≤ j → j < K → isSp (s[j]).toNat = true))
    (hno : Hid (∀ h : K < s.size, isSp (s[K]).toNat = false)) (h0 : 0 < tok.size) (htn : tok.toList.isEmpty = false) (hfit : K + tok.size ≤ s.size) (htok : Hid (tok = s.extract K (K + tok.size))) (heq : (tok.toList == [61, 61]) = true) :
    Calls Tryd.prog 5 #[.string s, .int .i64 a] w fun e w' => e = .returned (.bool true) ∧ Below w.heap.size w w' := by
  have hsl : ∀ w, (Instr.slice 9 (.string s) (some (.int .i64 (K : Int))) (some (.int .i64 ((K : Int) + (tok.size : Int)))) none).run Tryd.prog w = .ok (.string tok) w := fun w => slice_tok s tok K w hfit htok.out
  go_enter Tryd.func5, Tryd.ntmps5
  go_wp2_with (first
    | (go_at_call 14; refine (bytes_any _ _ _ (by omega)).mono ?_; rintro e w' ⟨rfl, rfl⟩)
    | (go_at_call 15; refine (hP.out _).mono ?_; rintro e w1 ⟨rfl, hb⟩))
  go_loop [7] (fun v => ∃ j : Nat, a ≤ j ∧ j ≤ K ∧ v = .int .i64 j) (fun v => K - (intOf v).toNat)
  case atStart => exact ⟨a, Nat.le_refl _, haK, rfl⟩
  case round =>
    obtain ⟨j, haj, hjK, rfl⟩ := hrel
    by_cases hlt : j < K
    · have hjs : j < s.size := by omega
      have h1 : isSp (s[j]).toNat = true := hsp.out j hjs haj hlt
      go_wp2_with (go_at_call 16; refine (isSp_any _ _).mono ?_; rintro e w' ⟨rfl, rfl⟩)
      go_round
      case rel => exact ⟨j + 1, by omega, by omega, by go_num⟩
      case measure => simp [intOf]; omega
    · obtain rfl : j = K := by omega
      by_cases hks : j < s.size
      · have h2 : isSp (s[j]).toNat = false := hno.out hks
        go_wp2_with (first
          | (go_at_call 16; refine (isSp_any _ _).mono ?_; rintro e w' ⟨rfl, rfl⟩)
          | (go_at_call 17; refine (isSy_any _ _).mono ?_; rintro e w' ⟨rfl, rfl⟩))
        all_goals
          go_ret
          exact ⟨rfl, hb⟩
      · exfalso; omega

set_option maxHeartbeats 800000 in
set_option maxRecDepth 100000 in
theorem main_b2 (s tok : ByteArray) (a K : Nat) (w : World) (hs : s.size ≤ 1048576) (haK : a ≤ K) (hKs : K ≤ s.size)
    (hP : Hid (PeekGives s tok a)) (hsp : Hid (∀ j (h : j < s.size), a ≤ j → j < K → isSp (s[j]).toNat = true))
    (hno : Hid (∀ h : K < s.size, isSp (s[K]).toNat = false)) (h0 : 0 < tok.size) (htn : tok.toList.isEmpty = false) (hfit : K + tok.size ≤ s.size) (htok : Hid (tok = s.extract K (K + tok.size))) (heq : (tok.toList == [61, 61]) = false) (heq2 : (tok.toList == [33, 61]) = true) :
    Calls Tryd.prog 5 #[.string s, .int .i64 a] w fun e w' => e = .returned (.bool true) ∧ Below w.heap.size w w' := by
  have hsl : ∀ w, (Instr.slice 9 (.string s) (some (.int .i64 (K : Int))) (some (.int .i64 ((K : Int) + (tok.size : Int)))) none).run Tryd.prog w = .ok (.string tok) w := fun w => slice_tok s tok K w hfit htok.out
  go_enter Tryd.func5, Tryd.ntmps5
  go_wp2_with (first
    | (go_at_call 14; refine (bytes_any _ _ _ (by omega)).mono ?_; rintro e w' ⟨rfl, rfl⟩)
    | (go_at_call 15; refine (hP.out _).mono ?_; rintro e w1 ⟨rfl, hb⟩))
  go_loop [7] (fun v => ∃ j : Nat, a ≤ j ∧ j ≤ K ∧ v = .int .i64 j) (fun v => K - (intOf v).toNat)
  case atStart => exact ⟨a, Nat.le_refl _, haK, rfl⟩
  case round =>
    obtain ⟨j, haj, hjK, rfl⟩ := hrel
    by_cases hlt : j < K
    · have hjs : j < s.size := by omega
      have h1 : isSp (s[j]).toNat = true := hsp.out j hjs haj hlt
      go_wp2_with (go_at_call 16; refine (isSp_any _ _).mono ?_; rintro e w' ⟨rfl, rfl⟩)
      go_round
      case rel => exact ⟨j + 1, by omega, by omega, by go_num⟩
      case measure => simp [intOf]; omega
    · obtain rfl : j = K := by omega
      by_cases hks : j < s.size
      · have h2 : isSp (s[j]).toNat = false := hno.out hks
        go_wp2_with (first
          | (go_at_call 16; refine (isSp_any _ _).mono ?_; rintro e w' ⟨rfl, rfl⟩)
          | (go_at_call 17; refine (isSy_any _ _).mono ?_; rintro e w' ⟨rfl, rfl⟩))
        all_goals
          go_ret
          exact ⟨rfl, hb⟩
      · exfalso; omega

set_option maxHeartbeats 800000 in
set_option maxRecDepth 100000 in
theorem main_c (s tok : ByteArray) (a K : Nat) (w : World) (hs : s.size ≤ 1048576) (haK : a ≤ K) (hKs : K ≤ s.size)
    (hP : Hid (PeekGives s tok a)) (hsp : Hid (∀ j (h : j < s.size), a ≤ j → j < K → isSp (s[j]).toNat = true))
    (hno : Hid (∀ h : K < s.size, isSp (s[K]).toNat = false)) (h0 : 0 < tok.size) (htn : tok.toList.isEmpty = false) (hfit : K + tok.size ≤ s.size) (htok : Hid (tok = s.extract K (K + tok.size))) (heq : (tok.toList == [61, 61]) = false) (heq2 : (tok.toList == [33, 61]) = false) (h1 : ((tok.size : Int) == 1) = true) (hsy : isSy (tok[0]).toNat = true) (hnx : Hid (((tok[0]).toNat = 61 ∨ (tok[0]).toNat = 33) → ∀ h : K + tok.size < s.size, (s[K + tok.size]).toNat ≠ 61)) :
    Calls Tryd.prog 5 #[.string s, .int .i64 a] w fun e w' => e = .returned (.bool true) ∧ Below w.heap.size w w' := by
  have hsl : ∀ w, (Instr.slice 9 (.string s) (some (.int .i64 (K : Int))) (some (.int .i64 ((K : Int) + (tok.size : Int)))) none).run Tryd.prog w = .ok (.string tok) w := fun w => slice_tok s tok K w hfit htok.out
  go_enter Tryd.func5, Tryd.ntmps5
  go_wp2_with (first
    | (go_at_call 14; refine (bytes_any _ _ _ (by omega)).mono ?_; rintro e w' ⟨rfl, rfl⟩)
    | (go_at_call 15; refine (hP.out _).mono ?_; rintro e w1 ⟨rfl, hb⟩))
  go_loop [7] (fun v => ∃ j : Nat, a ≤ j ∧ j ≤ K ∧ v = .int .i64 j) (fun v => K - (intOf v).toNat)
  case atStart => exact ⟨a, Nat.le_refl _, haK, rfl⟩
  case round =>
    obtain ⟨j, haj, hjK, rfl⟩ := hrel
    by_cases hlt : j < K
    · have hjs : j < s.size := by omega
      have h1 : isSp (s[j]).toNat = true := hsp.out j hjs haj hlt
      go_wp2_with (go_at_call 16; refine (isSp_any _ _).mono ?_; rintro e w' ⟨rfl, rfl⟩)
      go_round
      case rel => exact ⟨j + 1, by omega, by omega, by go_num⟩
      case measure => simp [intOf]; omega
    · obtain rfl : j = K := by omega
      by_cases hks : j < s.size
      · have h2 : isSp (s[j]).toNat = false := hno.out hks
        by_cases h6 : ((tok[0]).toNat : Int) = 61 ∨ ((tok[0]).toNat : Int) = 33
        · by_cases hlt3 : j + tok.size < s.size
          · have hb3 : (((s[j + tok.size]).toNat : Int) == 61) = false := by have := hnx.out (by omega) hlt3; simp; omega
            go_wp2_with (first
              | (go_at_call 16; refine (isSp_any _ _).mono ?_; rintro e w' ⟨rfl, rfl⟩)
              | (go_at_call 17; refine (isSy_any _ _).mono ?_; rintro e w' ⟨rfl, rfl⟩))
            all_goals
              go_ret
              exact ⟨rfl, hb⟩
          · go_wp2_with (first
              | (go_at_call 16; refine (isSp_any _ _).mono ?_; rintro e w' ⟨rfl, rfl⟩)
              | (go_at_call 17; refine (isSy_any _ _).mono ?_; rintro e w' ⟨rfl, rfl⟩))
            all_goals
              go_ret
              exact ⟨rfl, hb⟩
        · have h6a : ¬ ((tok[0]).toNat : Int) = 61 := fun h => h6 (.inl h)
          have h6b : ¬ ((tok[0]).toNat : Int) = 33 := fun h => h6 (.inr h)
          clear h6
          go_wp2_with (first
            | (go_at_call 16; refine (isSp_any _ _).mono ?_; rintro e w' ⟨rfl, rfl⟩)
            | (go_at_call 17; refine (isSy_any _ _).mono ?_; rintro e w' ⟨rfl, rfl⟩))
          all_goals
            go_ret
            exact ⟨rfl, hb⟩
      · exfalso; omega

set_option maxHeartbeats 800000 in
set_option maxRecDepth 100000 in
theorem main_d (s tok : ByteArray) (a K : Nat) (w : World) (hs : s.size ≤ 1048576) (haK : a ≤ K) (hKs : K ≤ s.size)
    (hP : Hid (PeekGives s tok a)) (hsp : Hid (∀ j (h : j < s.size), a ≤ j → j < K → isSp (s[j]).toNat = true))
    (hno : Hid (∀ h : K < s.size, isSp (s[K]).toNat = false)) (h0 : 0 < tok.size) (htn : tok.toList.isEmpty = false) (hfit : K + tok.size ≤ s.size) (htok : Hid (tok = s.extract K (K + tok.size))) (heq : (tok.toList == [61, 61]) = false) (heq2 : (tok.toList == [33, 61]) = false) (hsy : isSy (tok[0]).toNat = false) (hall : Hid (∀ i (h : i < tok.size), isSp (tok[i]).toNat = false ∧ isSy (tok[i]).toNat = false)) (hlast : Hid (∀ h : K + tok.size < s.size, isSp (s[K + tok.size]).toNat = true ∨ (isSp (s[K + tok.size]).toNat = false ∧ isSy (s[K + tok.size]).toNat = true))) (h1 : ((tok.size : Int) == 1) = true) :
    Calls Tryd.prog 5 #[.string s, .int .i64 a] w fun e w' => e = .returned (.bool true) ∧ Below w.heap.size w w' := by
  have hsl : ∀ w, (Instr.slice 9 (.string s) (some (.int .i64 (K : Int))) (some (.int .i64 ((K : Int) + (tok.size : Int)))) none).run Tryd.prog w = .ok (.string tok) w := fun w => slice_tok s tok K w hfit htok.out
  go_enter Tryd.func5, Tryd.ntmps5
  go_wp2_with (first
    | (go_at_call 14; refine (bytes_any _ _ _ (by omega)).mono ?_; rintro e w' ⟨rfl, rfl⟩)
    | (go_at_call 15; refine (hP.out _).mono ?_; rintro e w1 ⟨rfl, hb⟩))
  go_loop [7] (fun v => ∃ j : Nat, a ≤ j ∧ j ≤ K ∧ v = .int .i64 j) (fun v => K - (intOf v).toNat)
  case atStart => exact ⟨a, Nat.le_refl _, haK, rfl⟩
  case round =>
    obtain ⟨j, haj, hjK, rfl⟩ := hrel
    by_cases hlt : j < K
    · have hjs : j < s.size := by omega
      have h1 : isSp (s[j]).toNat = true := hsp.out j hjs haj hlt
      go_wp2_with (go_at_call 16; refine (isSp_any _ _).mono ?_; rintro e w' ⟨rfl, rfl⟩)
      go_round
      case rel => exact ⟨j + 1, by omega, by omega, by go_num⟩
      case measure => simp [intOf]; omega
    · obtain rfl : j = K := by omega
      by_cases hks : j < s.size
      · have h2 : isSp (s[j]).toNat = false := hno.out hks
        go_wp2_with (first
          | (go_at_call 16; refine (isSp_any _ _).mono ?_; rintro e w' ⟨rfl, rfl⟩)
          | (go_at_call 17; refine (isSy_any _ _).mono ?_; rintro e w' ⟨rfl, rfl⟩))
        go_loop [9] (fun v => ∃ i : Nat, i ≤ tok.size ∧ v = .int .i64 i) (fun v => tok.size - (intOf v).toNat)
        case atStart => exact ⟨0, Nat.zero_le _, rfl⟩
        case round =>
          obtain ⟨i, hi, rfl⟩ := hrel
          by_cases hlt2 : i < tok.size
          · have g1 : isSp (tok[i]).toNat = false := (hall.out i hlt2).1
            have g2 : isSy (tok[i]).toNat = false := (hall.out i hlt2).2
            go_wp2_with (first
              | (go_at_call 16; refine (isSp_any _ _).mono ?_; rintro e w' ⟨rfl, rfl⟩)
              | (go_at_call 17; refine (isSy_any _ _).mono ?_; rintro e w' ⟨rfl, rfl⟩))
            go_round
            case rel => exact ⟨i + 1, by omega, by go_num⟩
            case measure => simp [intOf]; omega
          · by_cases hne : j + tok.size = s.size
            · have hneI : ((j : Int) + (tok.size : Int) == (s.size : Int)) = true := by simp; omega
              go_wp2_with (first
                | (go_at_call 16; refine (isSp_any _ _).mono ?_; rintro e w' ⟨rfl, rfl⟩)
                | (go_at_call 17; refine (isSy_any _ _).mono ?_; rintro e w' ⟨rfl, rfl⟩))
              all_goals
                go_ret
                exact ⟨ret_bool (by simp_all), hb⟩
            · have hneI : ((j : Int) + (tok.size : Int) == (s.size : Int)) = false := by simp; omega
              have hlt3 : j + tok.size < s.size := by omega
              have g3 := hlast.out hlt3
              rcases g3 with g3 | ⟨g3, g4⟩
              · go_wp2_with (first
                  | (go_at_call 16; refine (isSp_any _ _).mono ?_; rintro e w' ⟨rfl, rfl⟩)
                  | (go_at_call 17; refine (isSy_any _ _).mono ?_; rintro e w' ⟨rfl, rfl⟩))
                all_goals
                  go_ret
                  exact ⟨ret_bool (by simp_all), hb⟩
              · go_wp2_with (first
                  | (go_at_call 16; refine (isSp_any _ _).mono ?_; rintro e w' ⟨rfl, rfl⟩)
                  | (go_at_call 17; refine (isSy_any _ _).mono ?_; rintro e w' ⟨rfl, rfl⟩))
                all_goals
                  go_ret
                  exact ⟨ret_bool (by simp_all), hb⟩
      · exfalso; omega

set_option maxHeartbeats 800000 in
set_option maxRecDepth 100000 in
theorem main_e (s tok : ByteArray) (a K : Nat) (w : World) (hs : s.size ≤ 1048576) (haK : a ≤ K) (hKs : K ≤ s.size)
    (hP : Hid (PeekGives s tok a)) (hsp : Hid (∀ j (h : j < s.size), a ≤ j → j < K → isSp (s[j]).toNat = true))
    (hno : Hid (∀ h : K < s.size, isSp (s[K]).toNat = false)) (h0 : 0 < tok.size) (htn : tok.toList.isEmpty = false) (hfit : K + tok.size ≤ s.size) (htok : Hid (tok = s.extract K (K + tok.size))) (heq : (tok.toList == [61, 61]) = false) (heq2 : (tok.toList == [33, 61]) = false) (_hsy : isSy (tok[0]).toNat = false) (hall : Hid (∀ i (h : i < tok.size), isSp (tok[i]).toNat = false ∧ isSy (tok[i]).toNat = false)) (hlast : Hid (∀ h : K + tok.size < s.size, isSp (s[K + tok.size]).toNat = true ∨ (isSp (s[K + tok.size]).toNat = false ∧ isSy (s[K + tok.size]).toNat = true))) (h1 : ((tok.size : Int) == 1) = false) :
    Calls Tryd.prog 5 #[.string s, .int .i64 a] w fun e w' => e = .returned (.bool true) ∧ Below w.heap.size w w' := by
  have hsl : ∀ w, (Instr.slice 9 (.string s) (some (.int .i64 (K : Int))) (some (.int .i64 ((K : Int) + (tok.size : Int)))) none).run Tryd.prog w = .ok (.string tok) w := fun w => slice_tok s tok K w hfit htok.out
  go_enter Tryd.func5, Tryd.ntmps5
  go_wp2_with (first
    | (go_at_call 14; refine (bytes_any _ _ _ (by omega)).mono ?_; rintro e w' ⟨rfl, rfl⟩)
    | (go_at_call 15; refine (hP.out _).mono ?_; rintro e w1 ⟨rfl, hb⟩))
  go_loop [7] (fun v => ∃ j : Nat, a ≤ j ∧ j ≤ K ∧ v = .int .i64 j) (fun v => K - (intOf v).toNat)
  case atStart => exact ⟨a, Nat.le_refl _, haK, rfl⟩
  case round =>
    obtain ⟨j, haj, hjK, rfl⟩ := hrel
    by_cases hlt : j < K
    · have hjs : j < s.size := by omega
      have h1 : isSp (s[j]).toNat = true := hsp.out j hjs haj hlt
      go_wp2_with (go_at_call 16; refine (isSp_any _ _).mono ?_; rintro e w' ⟨rfl, rfl⟩)
      go_round
      case rel => exact ⟨j + 1, by omega, by omega, by go_num⟩
      case measure => simp [intOf]; omega
    · obtain rfl : j = K := by omega
      by_cases hks : j < s.size
      · have h2 : isSp (s[j]).toNat = false := hno.out hks
        go_wp2_with (first
          | (go_at_call 16; refine (isSp_any _ _).mono ?_; rintro e w' ⟨rfl, rfl⟩)
          | (go_at_call 17; refine (isSy_any _ _).mono ?_; rintro e w' ⟨rfl, rfl⟩))
        go_loop [9] (fun v => ∃ i : Nat, i ≤ tok.size ∧ v = .int .i64 i) (fun v => tok.size - (intOf v).toNat)
        case atStart => exact ⟨0, Nat.zero_le _, rfl⟩
        case round =>
          obtain ⟨i, hi, rfl⟩ := hrel
          by_cases hlt2 : i < tok.size
          · have g1 : isSp (tok[i]).toNat = false := (hall.out i hlt2).1
            have g2 : isSy (tok[i]).toNat = false := (hall.out i hlt2).2
            go_wp2_with (first
              | (go_at_call 16; refine (isSp_any _ _).mono ?_; rintro e w' ⟨rfl, rfl⟩)
              | (go_at_call 17; refine (isSy_any _ _).mono ?_; rintro e w' ⟨rfl, rfl⟩))
            go_round
            case rel => exact ⟨i + 1, by omega, by go_num⟩
            case measure => simp [intOf]; omega
          · by_cases hne : j + tok.size = s.size
            · have hneI : ((j : Int) + (tok.size : Int) == (s.size : Int)) = true := by simp; omega
              go_wp2_with (first
                | (go_at_call 16; refine (isSp_any _ _).mono ?_; rintro e w' ⟨rfl, rfl⟩)
                | (go_at_call 17; refine (isSy_any _ _).mono ?_; rintro e w' ⟨rfl, rfl⟩))
              all_goals
                go_ret
                exact ⟨ret_bool (by simp_all), hb⟩
            · have hneI : ((j : Int) + (tok.size : Int) == (s.size : Int)) = false := by simp; omega
              have hlt3 : j + tok.size < s.size := by omega
              have g3 := hlast.out hlt3
              rcases g3 with g3 | ⟨g3, g4⟩
              · go_wp2_with (first
                  | (go_at_call 16; refine (isSp_any _ _).mono ?_; rintro e w' ⟨rfl, rfl⟩)
                  | (go_at_call 17; refine (isSy_any _ _).mono ?_; rintro e w' ⟨rfl, rfl⟩))
                all_goals
                  go_ret
                  exact ⟨ret_bool (by simp_all), hb⟩
              · go_wp2_with (first
                  | (go_at_call 16; refine (isSp_any _ _).mono ?_; rintro e w' ⟨rfl, rfl⟩)
                  | (go_at_call 17; refine (isSy_any _ _).mono ?_; rintro e w' ⟨rfl, rfl⟩))
                all_goals
                  go_ret
                  exact ⟨ret_bool (by simp_all), hb⟩
      · exfalso; omega

end Go.Proofs.Qxb6600459aDoor
