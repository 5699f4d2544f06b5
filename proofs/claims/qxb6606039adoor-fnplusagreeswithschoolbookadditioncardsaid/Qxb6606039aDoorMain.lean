import Derived.Test.Qxb6606039aDoorZz
import Derived.Test.Qxb6606039aDoorLong2
namespace Go.Proofs.Qxb6606039aDoor
open Go.RowKit

theorem res_eq {x : Int} {m m' : Bool} {r r' : ByteArray} (h : Res x m r.data.toList) (k : Res x m' r'.data.toList) : m = m' ∧ r = r' := by
  obtain ⟨h1, h2⟩ := h.unique k
  refine ⟨h1, ?_⟩
  apply ByteArray.ext
  exact Array.ext' h2

set_option maxHeartbeats 400000 in
theorem main_bytes (q : Bool) (d : ByteArray) (n : Int) (w : World) (h : 1048576 < d.size) :
    Calls Tryd.prog 3 #[.bool q, .string d, .int .i64 n] w fun e w' => e = .returned (.bool true) ∧ Below w.heap.size w w' := by
  go_enter Tryd.func3, Tryd.ntmps3
  go_wp2_with (go_at_call 6; refine (bytes_no _ _ _ _ h).mono ?_; rintro e w' ⟨rfl, rfl⟩)
  go_ret
  exact ⟨rfl, Below.refl _ _⟩
set_option maxHeartbeats 400000 in
theorem main_low (q : Bool) (d : ByteArray) (n : Int) (w : World) (h : d.size ≤ 1048576) (hn : n ≤ -1000000000000000000) :
    Calls Tryd.prog 3 #[.bool q, .string d, .int .i64 n] w fun e w' => e = .returned (.bool true) ∧ Below w.heap.size w w' := by
  go_enter Tryd.func3, Tryd.ntmps3
  go_wp2_with (go_at_call 6; refine (bytes_any _ _ _ _ h).mono ?_; rintro e w' ⟨rfl, rfl⟩)
  go_ret
  exact ⟨rfl, Below.refl _ _⟩
set_option maxHeartbeats 400000 in
theorem main_high (q : Bool) (d : ByteArray) (n : Int) (w : World) (h : d.size ≤ 1048576) (hn : 1000000000000000000 ≤ n) :
    Calls Tryd.prog 3 #[.bool q, .string d, .int .i64 n] w fun e w' => e = .returned (.bool true) ∧ Below w.heap.size w w' := by
  go_enter Tryd.func3, Tryd.ntmps3
  go_wp2_with (go_at_call 6; refine (bytes_any _ _ _ _ h).mono ?_; rintro e w' ⟨rfl, rfl⟩)
  go_ret
  exact ⟨rfl, Below.refl _ _⟩
set_option maxHeartbeats 400000 in
theorem main_bad (q : Bool) (d : ByteArray) (n : Int) (w : World) (h : d.size ≤ 1048576) (hn1 : -1000000000000000000 < n) (hn2 : n < 1000000000000000000) (hc : Hid (∀ w, Calls Tryd.prog 7 #[.string d] w fun e w' => e = .returned (.bool false) ∧ w' = w)) :
    Calls Tryd.prog 3 #[.bool q, .string d, .int .i64 n] w fun e w' => e = .returned (.bool true) ∧ Below w.heap.size w w' := by
  go_enter Tryd.func3, Tryd.ntmps3
  go_wp2_with (first
    | (go_at_call 6; refine (bytes_any _ _ _ _ h).mono ?_; rintro e w' ⟨rfl, rfl⟩)
    | (go_at_call 7; refine (hc.out _).mono ?_; rintro e w' ⟨rfl, rfl⟩))
  go_ret
  exact ⟨rfl, Below.refl _ _⟩

/-- zzItoa of n is (b, ..). -/
def ItoaGives (n : Int) (b : Bool) : Prop := ∀ w : World, Calls Tryd.prog 9 #[.int .i64 n] w fun e w' => (∃ d : ByteArray, e = .returned (.tuple #[.bool b, .string d]) ∧ Can d.data.toList ∧ sgn b d.data.toList = n ∧ d.size ≤ 18) ∧ Below w.heap.size w w'

set_option maxHeartbeats 1000000 in
set_option maxRecDepth 100000 in
theorem main_good (q b : Bool) (d : ByteArray) (n : Int) (w : World) (h : d.size ≤ 1048576) (hn1 : -1000000000000000000 < n) (hn2 : n < 1000000000000000000) (hc : Hid (∀ w, Calls Tryd.prog 7 #[.string d] w fun e w' => e = .returned (.bool true) ∧ w' = w))
    (HC : Hid (Can d.data.toList)) (HT : Hid (Tab w)) (hP : Hid (PlusGives q d n (sgn q d.data.toList + n))) (hI : Hid (ItoaGives n b)) :
    Calls Tryd.prog 3 #[.bool q, .string d, .int .i64 n] w fun e w' => e = .returned (.bool true) ∧ Below w.heap.size w w' := by
  have HS : Hid (sgn (q && !d.toList.isEmpty) d.data.toList = sgn q d.data.toList) := by
    show _ = _
    cases q with
    | false => rfl
    | true =>
      cases hz : d.toList.isEmpty with
      | false => rfl
      | true => rw [(emp_iff d).1 hz]; rfl
  cases q with
  | false =>
    go_enter Tryd.func3, Tryd.ntmps3
    go_wp2_with (first
      | (go_at_call 6; refine (bytes_any _ _ _ _ h).mono ?_; rintro e w' ⟨rfl, rfl⟩)
      | (go_at_call 7; refine (hc.out _).mono ?_; rintro e w' ⟨rfl, rfl⟩)
      | (go_at_call 8; refine (zz_any _ _ _ _ _ hP HT).mono ?_; rintro e w1 ⟨⟨m, r, rfl, hr⟩, hb1⟩; have HR : Hid (Res (sgn false d.data.toList + n) m r.data.toList) := hr; clear hr)
      | (go_at_call 9; refine (hI.out _).mono ?_; rintro e w2 ⟨⟨x, rfl, hcx, hsx, hx18⟩, hb2⟩; have HX : Hid (Can x.data.toList ∧ sgn b x.data.toList = n) := ⟨hcx, hsx⟩; clear hcx hsx))
    refine (signed_any false b d x w2 (by omega) (by omega) HC.out HX.out.1).mono ?_
    rintro e w3 ⟨⟨m2, r2, rfl, hr2⟩, hb3⟩
    obtain ⟨rfl, rfl⟩ := res_eq HR.out (show Res (sgn false d.data.toList + n) m2 r2.data.toList by rw [← HS.out, ← HX.out.2]; exact hr2)
    clear hr2
    have HB : Hid (Below w'.heap.size w' w3) := (hb1.trans (hb2.mono hb1.size)).trans (hb3.mono (Nat.le_trans hb1.size hb2.size))
    clear hb1 hb2 hb3
    go_wp2
    all_goals
      go_ret
      exact ⟨ret_bool (by simp), HB.out⟩
  | true =>
    go_enter Tryd.func3, Tryd.ntmps3
    go_wp2_with (first
      | (go_at_call 6; refine (bytes_any _ _ _ _ h).mono ?_; rintro e w' ⟨rfl, rfl⟩)
      | (go_at_call 7; refine (hc.out _).mono ?_; rintro e w' ⟨rfl, rfl⟩)
      | (go_at_call 8; refine (zz_any _ _ _ _ _ hP HT).mono ?_; rintro e w1 ⟨⟨m, r, rfl, hr⟩, hb1⟩; have HR : Hid (Res (sgn true d.data.toList + n) m r.data.toList) := hr; clear hr)
      | (go_at_call 9; refine (hI.out _).mono ?_; rintro e w2 ⟨⟨x, rfl, hcx, hsx, hx18⟩, hb2⟩; have HX : Hid (Can x.data.toList ∧ sgn b x.data.toList = n) := ⟨hcx, hsx⟩; clear hcx hsx))
    refine (signed_any (!d.toList.isEmpty) b d x w2 (by omega) (by omega) HC.out HX.out.1).mono ?_
    rintro e w3 ⟨⟨m2, r2, rfl, hr2⟩, hb3⟩
    obtain ⟨rfl, rfl⟩ := res_eq HR.out (show Res (sgn true d.data.toList + n) m2 r2.data.toList by rw [← HS.out, ← HX.out.2]; exact hr2)
    clear hr2
    have HB : Hid (Below w'.heap.size w' w3) := (hb1.trans (hb2.mono hb1.size)).trans (hb3.mono (Nat.le_trans hb1.size hb2.size))
    clear hb1 hb2 hb3
    go_wp2
    all_goals
      go_ret
      exact ⟨ret_bool (by simp), HB.out⟩

theorem itoaGives (n : Int) (hn1 : -1000000000000000000 < n) (hn2 : n < 1000000000000000000) : ∃ b, ItoaGives n b := by
  have key : ∀ (b : Bool) (x : ByteArray), Can x.data.toList → (val x.data.toList : Int) < 1000000000000000000 → x.size ≤ 18 := fun b x hc hv => by
    rcases Nat.lt_or_ge 18 x.size with h | h
    · have := big_val hc (by rw [← Lib.size_eq]; exact h); omega
    · exact h
  by_cases h : n < 0
  · refine ⟨true, fun w => (itoa_neg n n.natAbs w hn1 hn2 h (by omega)).mono fun e w' ⟨⟨d, he, hc, hv⟩, hb⟩ => ⟨⟨d, he, hc, ?_, key true d hc (by omega)⟩, hb⟩⟩
    simp [sgn, hv]; omega
  · refine ⟨false, fun w => (itoa_pos n n.toNat w hn1 hn2 h (by omega)).mono fun e w' ⟨⟨d, he, hc, hv⟩, hb⟩ => ⟨⟨d, he, hc, ?_, key false d hc (by omega)⟩, hb⟩⟩
    simp [sgn, hv]; omega

theorem plusGives (q : Bool) (d : ByteArray) (n : Int) (hC : Can d.data.toList) (hd : d.size ≤ 1048576) (hn1 : -1000000000000000000 < n) (hn2 : n < 1000000000000000000) : PlusGives q d n (sgn q d.data.toList + n) := by
  intro w ht
  by_cases h18 : d.size ≤ 18
  · have hl : d.data.toList.length ≤ 18 := by rw [← Lib.size_eq]; exact h18
    have hlt := val_lt hC.1
    have hp : 10 ^ d.data.toList.length ≤ 10 ^ 18 := Nat.pow_le_pow_right (by decide) hl
    have hten : (10 : Nat) ^ 18 = 1000000000000000000 := by decide
    cases hz : d.toList.isEmpty with
    | true =>
      have he := (emp_iff d).1 hz
      have hs0 : sgn q d.data.toList = 0 := by rw [he]; cases q <;> rfl
      rw [hs0]
      refine plus_short q d ⟨#[48]⟩ 0 n w h18 (by omega) (by omega) hn1 hn2 ht (fun w => string_zero q d w hz) (fun w => pi_any ⟨#[48]⟩ 0 w (by decide) ?_)
      have := parse_pos (l := [48]) (fun x hx => by rw [List.mem_singleton.1 hx]; exact ⟨by decide, by decide⟩) (by simp) (by simp)
      exact this
    | false =>
      have hne : d.data.toList ≠ [] := fun e => by rw [(emp_iff d).2 e] at hz; cases hz
      cases q with
      | false =>
        have hs0 : sgn false d.data.toList = (val d.data.toList : Int) := rfl
        rw [hs0]
        exact plus_short false d d _ n w h18 (by omega) (by omega) hn1 hn2 ht (fun w => string_pos d w hz) (fun w => pi_any d _ w (by omega) (parse_pos hC.1 hne hl))
      | true =>
        have hs0 : sgn true d.data.toList = -(val d.data.toList : Int) := rfl
        rw [hs0]
        have hS : ((⟨#[45]⟩ : ByteArray) ++ d).data.toList = 45 :: d.data.toList := by rw [ByteArray.data_append, Array.toList_append]; rfl
        refine plus_short true d (⟨#[45]⟩ ++ d) _ n w h18 (by omega) (by omega) hn1 hn2 ht (fun w => string_neg d w hz (by omega)) (fun w => pi_any _ _ w ?_ ?_)
        · rw [Lib.size_eq, hS]; simp; omega
        · rw [hS]; exact parse_neg hC.1 hne hl
  · have hbig := big_val hC (by rw [← Lib.size_eq]; omega)
    refine (plus_long q d n _ w (by omega) hd hn1 hn2 rfl ht hC).mono fun e w' ⟨⟨r, he, hc, hv⟩, hb⟩ => ⟨⟨q, r, he, hc, ?_, fun _ e0 => ?_⟩, hb⟩
    · cases q <;> simp [sgn] at hv ⊢ <;> omega
    · rw [e0] at hv
      simp [val] at hv
      cases q <;> simp at hv <;> omega

theorem walk (q : Bool) (d : ByteArray) (n : Int) (w : World) (ht : Tab w) :
    Calls Tryd.prog 3 #[.bool q, .string d, .int .i64 n] w fun e w' => e = .returned (.bool true) ∧ Below w.heap.size w w' := by
  by_cases h : 1048576 < d.size
  · exact main_bytes q d n w h
  by_cases h1 : n ≤ -1000000000000000000
  · exact main_low q d n w (by omega) h1
  by_cases h2 : 1000000000000000000 ≤ n
  · exact main_high q d n w (by omega) h2
  rcases canon_any d (by omega) with ⟨hC, hc⟩ | hc
  · obtain ⟨b, hI⟩ := itoaGives n (by omega) (by omega)
    exact main_good q b d n w (by omega) (by omega) (by omega) hc hC ht (plusGives q d n hC (by omega) (by omega) (by omega)) hI
  · exact main_bad q d n w (by omega) (by omega) (by omega) hc
end Go.Proofs.Qxb6606039aDoor
