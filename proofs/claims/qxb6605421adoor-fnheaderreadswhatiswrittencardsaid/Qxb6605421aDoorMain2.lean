import Derived.Test.Qxb6605421aDoorSteps
namespace Go.Proofs.Qxb6605421aDoor
open Go.RowKit

theorem conv_plain {B n : Nat} {a : Option Addr} {c : Nat} {N R : List UInt8} {w : World} (S : List UInt8) (h : Own B ([] ++ [91] ++ N ++ [93] ++ R) (.slice a n c) w) : (convert 27 9 (.slice a n c)).run Tryd.prog w = .ok (.string (tx N S R false)) w := by
  have := conv_own h
  rw [this]
  simp [tx]
theorem conv_quoted {B n : Nat} {a : Option Addr} {c : Nat} {N S R : List UInt8} {w : World} (h : Own B ([] ++ [91] ++ N ++ [32, 34] ++ esc S ++ [34] ++ [93] ++ R) (.slice a n c) w) : (convert 27 9 (.slice a n c)).run Tryd.prog w = .ok (.string (tx N S R true)) w := by
  have := conv_own h
  rw [this]
  simp [tx]
theorem spec_yes {c : UInt8} (h : spec c = true) : ((c.toNat : Int) = 34) ∨ ((c.toNat : Int) = 92) ∨ ((c.toNat : Int) = 10) := by
  unfold spec at h
  simp only [Bool.or_eq_true, beq_iff_eq] at h
  rcases h with (h | h) | h <;> rw [h] <;> simp

set_option maxHeartbeats 2000000 in
set_option maxRecDepth 100000 in
theorem main_plain (name sub rest : ByteArray) (w : World) (h1 : name.size ≤ 262144) (h2 : sub.size ≤ 262144) (h3 : rest.size ≤ 262144)
    (hB : Hid (∀ w, Calls Tryd.prog 10 #[.string name, .string sub, .bool false, .string rest] w fun e w' => e = .returned (.bool true) ∧ w' = w))
    (hin : Hid (∀ j (h : j < name.size), nmB (name[j]).toNat = true))
    (hH : Hid (HdGives (tx name.data.toList sub.data.toList rest.data.toList false) (lowS name) (name.size + 2))) :
    Calls Tryd.prog 4 #[.string name, .string sub, .bool false, .string rest] w fun e w' => e = .returned (.bool true) ∧ Below w.heap.size w w' := by
  have nl := Lib.size_eq name
  have HN : Hid (name.data.toList.length = name.size) := nl.symm
  clear nl
  go_enter Tryd.func4, Tryd.ntmps4
  go_wp2_with (go_at_call 10; refine (hB.out _).mono ?_; rintro e w' ⟨rfl, rfl⟩)
  go_loop [9] (fun v => ∃ j : Nat, j ≤ name.size ∧ v = .int .i64 j) (fun v => name.size - (intOf v).toNat)
  case atStart => exact ⟨0, Nat.zero_le _, rfl⟩
  case round =>
    obtain ⟨j, hj, rfl⟩ := hrel
    by_cases hlt : j < name.size
    · have e1 := hin.out j hlt
      go_wp2_with (go_at_call 11; refine (nm_any _ _).mono ?_; rintro e w' ⟨rfl, rfl⟩)
      go_round
      case rel => exact ⟨j + 1, by omega, by go_num⟩
      case measure => simp [intOf]; omega
    · obtain rfl : j = name.size := by omega
      clear hj hlt
      go_wp2_with (first
        | (at_make; refine step_make rfl (.tmp 56) rfl _ (name.size + 2 * sub.size + rest.size + 8) rfl (by omega) (by omega) ?_; intro a1 c1 w1 HO1 HB1 hs1)
        | (at_builtin; refine step_one w' rfl (.tmp 58) (.tmp 59) rfl w'.heap.size [] _ rfl HO1.out 91 rfl rfl 1 rfl (by omega) HB1.out hs1 ?_; intro a2 c2 w2 HO2 HB2 hs2; clear HO1 HB1)
        | (at_builtin; refine step_str w' rfl (.tmp 61) (.tmp 62) rfl w'.heap.size ([] ++ [91]) _ rfl HO2.out name rfl (name.size + 1) (by simp; omega) (by omega) HB2.out hs2 ?_; intro a3 c3 w3 HO3 HB3 hs3; clear HO2 HB2)
        | (go_at_call 12; refine (lower_any name w3 h1).mono ?_; rintro e w4 ⟨rfl, hb4⟩; have HO4 : Hid (Own w'.heap.size ([] ++ [91] ++ name.data.toList) (.slice a3 (name.size + 1) c3) w4) := HO3.out.below hb4; have HB4 : Hid (Below w'.heap.size w' w4) := HB3.out.trans (hb4.mono hs3); have hs4 : w'.heap.size ≤ w4.heap.size := Nat.le_trans hs3 hb4.size; clear HO3 HB3 hb4)
        | (at_builtin; refine step_one w' rfl (.tmp 103) (.tmp 104) rfl w'.heap.size ([] ++ [91] ++ name.data.toList) _ rfl HO4.out 93 rfl rfl (name.size + 2) (by have := HN.out; simp) (by omega) HB4.out hs4 ?_; intro a5 c5 w5 HO5 HB5 hs5; clear HO4 HB4)
        | (at_builtin; refine step_str w' rfl (.tmp 108) (.tmp 109) rfl w'.heap.size ([] ++ [91] ++ name.data.toList ++ [93]) _ rfl HO5.out rest rfl (name.size + 2 + rest.size) (by have := HN.out; simp) (by omega) HB5.out hs5 ?_; intro a6 c6 w6 HO6 HB6 hs6; clear HO5 HB5; have hcv := conv_plain sub.data.toList HO6.out)
        | (go_at_call 13; refine (zz_any _ _ _ w6 hH).mono ?_; rintro e w7 ⟨rfl, hb7⟩)
      )
      go_ret
      exact ⟨rfl, HB6.out.trans (hb7.mono hs6)⟩

set_option maxHeartbeats 2000000 in
set_option maxRecDepth 100000 in
theorem main_quoted (name sub rest : ByteArray) (w : World) (h1 : name.size ≤ 262144) (h2 : sub.size ≤ 262144) (h3 : rest.size ≤ 262144)
    (hB : Hid (∀ w, Calls Tryd.prog 10 #[.string name, .string sub, .bool true, .string rest] w fun e w' => e = .returned (.bool true) ∧ w' = w))
    (hin : Hid (∀ j (h : j < name.size), nmB (name[j]).toNat = true))
    (hH : Hid (HdGives (tx name.data.toList sub.data.toList rest.data.toList true) (lowS name ++ ⟨#[46]⟩ ++ sub) (name.size + (esc sub.data.toList).length + 5))) (hls : (lowS name).size ≤ 262144) :
    Calls Tryd.prog 4 #[.string name, .string sub, .bool true, .string rest] w fun e w' => e = .returned (.bool true) ∧ Below w.heap.size w w' := by
  have nl := Lib.size_eq name
  have HN : Hid (name.data.toList.length = name.size) := nl.symm
  clear nl
  go_enter Tryd.func4, Tryd.ntmps4
  go_wp2_with (go_at_call 10; refine (hB.out _).mono ?_; rintro e w' ⟨rfl, rfl⟩)
  go_loop [9] (fun v => ∃ j : Nat, j ≤ name.size ∧ v = .int .i64 j) (fun v => name.size - (intOf v).toNat)
  case atStart => exact ⟨0, Nat.zero_le _, rfl⟩
  case round =>
    obtain ⟨j, hj, rfl⟩ := hrel
    by_cases hlt : j < name.size
    · have e1 := hin.out j hlt
      go_wp2_with (go_at_call 11; refine (nm_any _ _).mono ?_; rintro e w' ⟨rfl, rfl⟩)
      go_round
      case rel => exact ⟨j + 1, by omega, by go_num⟩
      case measure => simp [intOf]; omega
    · obtain rfl : j = name.size := by omega
      clear hj hlt
      go_wp2_with (first
        | (at_make; refine step_make rfl (.tmp 56) rfl _ (name.size + 2 * sub.size + rest.size + 8) rfl (by omega) (by omega) ?_; intro a1 c1 w1 HO1 HB1 hs1)
        | (at_builtin; refine step_one w' rfl (.tmp 58) (.tmp 59) rfl w'.heap.size [] _ rfl HO1.out 91 rfl rfl 1 rfl (by omega) HB1.out hs1 ?_; intro a2 c2 w2 HO2 HB2 hs2; clear HO1 HB1)
        | (at_builtin; refine step_str w' rfl (.tmp 61) (.tmp 62) rfl w'.heap.size ([] ++ [91]) _ rfl HO2.out name rfl (name.size + 1) (by simp; omega) (by omega) HB2.out hs2 ?_; intro a3 c3 w3 HO3 HB3 hs3; clear HO2 HB2)
        | (go_at_call 12; refine (lower_any name w3 h1).mono ?_; rintro e w4 ⟨rfl, hb4⟩; have HO4 : Hid (Own w'.heap.size ([] ++ [91] ++ name.data.toList) (.slice a3 (name.size + 1) c3) w4) := HO3.out.below hb4; have HB4 : Hid (Below w'.heap.size w' w4) := HB3.out.trans (hb4.mono hs3); have hs4 : w'.heap.size ≤ w4.heap.size := Nat.le_trans hs3 hb4.size; clear HO3 HB3 hb4)
        | (at_builtin; refine step_two w' rfl (.tmp 67) (.tmp 68) rfl w'.heap.size ([] ++ [91] ++ name.data.toList) _ rfl HO4.out rfl (name.size + 3) (by have := HN.out; simp) (by omega) HB4.out hs4 ?_; intro a5 c5 w5 HO5 HB5 hs5; clear HO4 HB4)
      )
      go_loopw [10, 12] (fun v p wr => ∃ (k : Nat) (a : Option Addr) (c : Nat), k ≤ sub.size ∧ p = .int .i64 k ∧ v = .slice a (name.size + 3 + (esc (sub.data.toList.take k)).length) c ∧ Hid (Own w'.heap.size ([] ++ [91] ++ name.data.toList ++ [32, 34] ++ esc (sub.data.toList.take k)) (.slice a (name.size + 3 + (esc (sub.data.toList.take k)).length) c) wr) ∧ Hid (Below w'.heap.size w' wr) ∧ w'.heap.size ≤ wr.heap.size) (fun _ p _ => sub.size - (intOf p).toNat)
      case atStart => exact ⟨0, a5, c5, Nat.zero_le _, rfl, by simp [esc], by simpa [esc] using HO5, HB5, hs5⟩
      case round =>
        obtain ⟨k, a, c, hk, rfl, rfl, HO, HB, hs⟩ := hrel
        have hel : (esc (sub.data.toList.take k)).length ≤ 524288 := by
          have := esc_len (sub.data.toList.take k)
          rw [List.length_take] at this
          omega
        have HPL : Hid (([] ++ [91] ++ name.data.toList ++ [32, 34] ++ esc (sub.data.toList.take k)).length = name.size + 3 + (esc (sub.data.toList.take k)).length) := by
          show _ = _
          have := HN.out
          simp
          omega
        by_cases hlt : k < sub.size
        · have hsl : k < sub.data.toList.length := by rw [← Lib.size_eq]; exact hlt
          have hsk : sub.data.toList[k]'hsl = sub[k]'hlt := by
            have := Lib.data_getElem? sub k hlt
            rw [List.getElem?_eq_getElem hsl] at this
            exact Option.some.inj this
          have HE : Hid (esc (sub.data.toList.take (k + 1)) = esc (sub.data.toList.take k) ++ (if spec (sub[k]'hlt) then [92, sub[k]'hlt] else [sub[k]'hlt])) := by
            have := esc_succ sub.data.toList k hsl
            rw [hsk] at this
            exact this
          clear hsl hsk
          cases hsp : spec sub[k] with
          | true =>
            rw [hsp] at HE
            have HE2 : Hid (esc (sub.data.toList.take (k + 1)) = esc (sub.data.toList.take k) ++ [92] ++ [sub[k]]) := by show _ = _; rw [HE.out]; simp
            clear HE
            generalize esc (sub.data.toList.take k) = E at hel HPL HO HE2 ⊢
            rcases spec_yes hsp with hc | hc | hc
            all_goals
              clear hsp
              go_wp2_with (first
                | (at_builtin; refine step_one w' rfl (.tmp 89) (.tmp 90) rfl w'.heap.size _ _ rfl HO.out 92 rfl rfl (name.size + 3 + E.length + 1) (by rw [HPL.out]) (by omega) HB.out hs ?_; intro a6 c6 w6 HO6 HB6 hs6; clear HO HB)
                | (at_builtin; refine step_one w' rfl (.tmp 92) (.tmp 94) rfl w'.heap.size _ _ rfl HO6.out sub[k] (by omega) rfl (name.size + 3 + E.length + 2) (by rw [List.length_append, HPL.out]; rfl) (by omega) HB6.out hs6 ?_; intro a7 c7 w7 HO7 HB7 hs7; clear HO6 HB6))
              go_roundw
              case rel =>
                refine ⟨k + 1, a7, c7, by omega, by go_num, ?_, ?_, HB7, hs7⟩
                · rw [HE2.out]; simp only [List.length_append, List.length_cons, List.length_nil]; rfl
                · rw [HE2.out]
                  have := HO7.out
                  simp only [List.append_assoc, List.length_append, List.length_cons, List.length_nil] at this ⊢
                  exact this
              case measure => simp [intOf]; omega
          | false =>
            rw [hsp] at HE
            have HE2 : Hid (esc (sub.data.toList.take (k + 1)) = esc (sub.data.toList.take k) ++ [sub[k]]) := by show _ = _; rw [HE.out]; simp
            clear HE
            obtain ⟨n1, n2, n3⟩ := spec_no hsp
            clear hsp
            generalize esc (sub.data.toList.take k) = E at hel HPL HO HE2 ⊢
            go_wp2_with (first
                | (at_builtin; refine step_one w' rfl (.tmp 92) (.tmp 94) rfl w'.heap.size _ _ rfl HO.out sub[k] rfl rfl (name.size + 3 + E.length + 1) (by rw [HPL.out]) (by omega) HB.out hs ?_; intro a7 c7 w7 HO7 HB7 hs7; clear HO HB))
            go_roundw
            case rel =>
                refine ⟨k + 1, a7, c7, by omega, by go_num, ?_, ?_, HB7, hs7⟩
                · rw [HE2.out]; simp only [List.length_append, List.length_cons, List.length_nil]; rfl
                · rw [HE2.out]
                  have := HO7.out
                  simp only [List.append_assoc, List.length_append, List.length_cons, List.length_nil] at this ⊢
                  exact this
            case measure => simp [intOf]; omega
        · obtain rfl : k = sub.size := by omega
          have htk : sub.data.toList.take sub.size = sub.data.toList := by rw [Lib.size_eq]; exact List.take_length
          rw [htk] at hel HPL HO ⊢
          clear htk hk hlt
          go_wp2_with (first
            | (at_builtin; refine step_one w' rfl (.tmp 96) (.tmp 97) rfl w'.heap.size _ _ rfl HO.out 34 rfl rfl (name.size + 3 + (esc sub.data.toList).length + 1) (by rw [HPL.out]) (by omega) HB.out hs ?_; intro a6 c6 w6 HO6 HB6 hs6; clear HO HB)
            | (at_builtin; refine step_one w' rfl (.tmp 103) (.tmp 104) rfl w'.heap.size _ _ rfl HO6.out 93 rfl rfl (name.size + 3 + (esc sub.data.toList).length + 2) (by rw [List.length_append, HPL.out]; rfl) (by omega) HB6.out hs6 ?_; intro a7 c7 w7 HO7 HB7 hs7; clear HO6 HB6)
            | (at_builtin; refine step_str w' rfl (.tmp 108) (.tmp 109) rfl w'.heap.size _ _ rfl HO7.out rest rfl (name.size + 3 + (esc sub.data.toList).length + 2 + rest.size) (by rw [List.length_append, List.length_append, HPL.out]; rfl) (by omega) HB7.out hs7 ?_; intro a8 c8 w8 HO8 HB8 hs8; clear HO7 HB7; have hcv := conv_quoted HO8.out)
            | (go_at_call 13; refine (zz_any _ _ _ w8 hH).mono ?_; rintro e w9 ⟨rfl, hb9⟩))
          go_ret
          exact ⟨ret_bool (by simp; omega), HB8.out.trans (hb9.mono hs8)⟩

end Go.Proofs.Qxb6605421aDoor
