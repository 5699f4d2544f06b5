import Derived.Test.Qxb6600459aDoorPeek
import Derived.Test.Qxb6600459aDoorZz
import Derived.Test.Qxb6600459aDoorPlain
namespace Go.Proofs.Qxb6600459aDoor
open Go.RowKit Go.Shelf Go.Lib

theorem trim_any (s : ByteArray) (w : World) : Calls Tryd.prog 24 #[.string s, .string ⟨#[32, 9, 13, 10]⟩] w fun e w' => e = .returned (.string ⟨(Lib.trimLeftS s.data.toList [32, 9, 13, 10]).toArray⟩) ∧ Below w.heap.size w w' :=
  Any.strings_TrimLeft_laid Tryd.lays161 (by kernel_rfl) s ⟨#[32, 9, 13, 10]⟩ w (by decide) (ascii_of_all (by decide))
theorem pfx_any (R p : ByteArray) (v : Bool) (h : Lib.hasPrefix R.data.toList p.data.toList = v) : PfxGives R p v := fun w => by
  have := Any.strings_HasPrefix Tryd.lays99 R p w
  rw [h] at this
  exact this
theorem sym_any (R : ByteArray) (h : 0 < R.size) : SymGives R h (Lib.indexByte [33, 61, 60, 62, 40, 41, 44] R[0]) := fun w => by
  have := index_any ⟨#[33, 61, 60, 62, 40, 41, 44]⟩ ((R[0]).toNat : Int) w
  rw [show ((R[0]).toNat : Int).toNat.toUInt8 = R[0] by simp] at this
  exact this
theorem any_long (R : ByteArray) (w : World) (h8 : 8 < R.size) (hR : R.size ≤ 1048576) :
    Calls Tryd.prog 27 #[.string R, .string seps] w fun e w' => e = .returned (.int .i64 (Lib.indexAny R.data.toList seps.data.toList)) ∧ Below w.heap.size w w' := by
  have hz := zero_of_info (P := Tryd.prog) (t := 59) (v := .agg (Array.replicate 256 (.bool false))) (n := 256) (by kernel_rfl)
  refine (Any.strings_IndexAny_long Tryd.lays153 hz.1 hz.2 R seps w (by decide) h8 (by omega) (by decide) (ascii_of_all (by decide))).mono fun e w' ⟨h1, h2⟩ => ⟨h1, ?_⟩
  rw [h2]
  exact ((Below.refl _ _).alloc (Nat.le_refl _) _).alloc (by simp) _
theorem anyGives (R : ByteArray) (hR : R.size ≤ 1048576) : AnyGives R (Lib.indexAny R.data.toList seps.data.toList) := fun w => by
  by_cases h8 : R.size ≤ 8
  · exact any_short R w h8
  · exact any_long R w (by omega) hR

set_option maxHeartbeats 400000 in
theorem walk_big (s : ByteArray) (x : Int) (w : World) (hs : 1048576 < s.size) :
    Calls Tryd.prog 5 #[.string s, .int .i64 x] w fun e w' => e = .returned (.bool true) ∧ Below w.heap.size w w' := by
  go_enter Tryd.func5, Tryd.ntmps5
  go_wp2_with (go_at_call 14; refine (bytes_no _ _ _ hs).mono ?_; rintro e w' ⟨rfl, rfl⟩)
  go_ret
  exact ⟨rfl, Below.refl _ _⟩
set_option maxHeartbeats 400000 in
theorem walk_neg (s : ByteArray) (x : Int) (w : World) (hs : s.size ≤ 1048576) (hx : x < 0) :
    Calls Tryd.prog 5 #[.string s, .int .i64 x] w fun e w' => e = .returned (.bool true) ∧ Below w.heap.size w w' := by
  go_enter Tryd.func5, Tryd.ntmps5
  go_wp2_with (go_at_call 14; refine (bytes_any _ _ _ hs).mono ?_; rintro e w' ⟨rfl, rfl⟩)
  go_ret
  exact ⟨rfl, Below.refl _ _⟩
set_option maxHeartbeats 400000 in
theorem walk_past (s : ByteArray) (x : Int) (w : World) (hs : s.size ≤ 1048576) (hx : ¬ x < 0) (hx2 : (s.size : Int) < x) :
    Calls Tryd.prog 5 #[.string s, .int .i64 x] w fun e w' => e = .returned (.bool true) ∧ Below w.heap.size w w' := by
  go_enter Tryd.func5, Tryd.ntmps5
  go_wp2_with (go_at_call 14; refine (bytes_any _ _ _ hs).mono ?_; rintro e w' ⟨rfl, rfl⟩)
  go_ret
  exact ⟨rfl, Below.refl _ _⟩

theorem emp_true {R : ByteArray} (h : R.size = 0) : R.toList.isEmpty = true := by
  rw [Lib.toList_data, List.isEmpty_iff, ← List.length_eq_zero_iff, ← Lib.size_eq]; exact h
theorem emp_false {R : ByteArray} (h : 0 < R.size) : R.toList.isEmpty = false := by
  rw [Lib.toList_data, ← Bool.not_eq_true, List.isEmpty_iff, ← List.length_eq_zero_iff, ← Lib.size_eq]; omega
theorem toList_two {t : ByteArray} (h : t.size = 2) : t.toList = [t[0], t[1]] := by
  rw [Lib.toList_data]
  have e0 := Lib.data_getElem? t 0 (by omega)
  have e1 := Lib.data_getElem? t 1 (by omega)
  have hl : t.data.toList.length = 2 := by rw [← Lib.size_eq]; exact h
  match hd : t.data.toList with
  | [] => rw [hd] at hl; simp at hl
  | [_] => rw [hd] at hl; simp at hl
  | _ :: _ :: _ :: _ => rw [hd] at hl; simp at hl
  | [p, q] => rw [hd] at e0 e1; simp at e0 e1; rw [e0, e1]
theorem toList_ne {t : ByteArray} (x : UInt8) (h : ¬ (t.size = 2 ∧ ∀ (h0 : 0 < t.size) (h1 : 1 < t.size), t[0] = x ∧ t[1] = 61)) : (t.toList == [x, 61]) = false := by
  rw [beq_eq_false_iff_ne]
  intro e
  apply h
  rw [Lib.toList_data] at e
  have hl : t.size = 2 := by rw [Lib.size_eq, e]; rfl
  refine ⟨hl, fun h0 h1 => ?_⟩
  have e0 := Lib.data_getElem? t 0 (by omega)
  have e1 := Lib.data_getElem? t 1 (by omega)
  rw [e] at e0 e1
  simp at e0 e1
  exact ⟨e0.symm, e1.symm⟩

theorem walk_in (s : ByteArray) (a : Nat) (w : World) (hs : s.size ≤ 1048576) (ha : a ≤ s.size) :
    Calls Tryd.prog 5 #[.string s, .int .i64 a] w fun e w' => e = .returned (.bool true) ∧ Below w.heap.size w w' := by
  obtain ⟨K, h1, h2, h3, h4⟩ := white s a ha
  obtain ⟨R, hRd⟩ : ∃ R, s.extract K s.size = R := ⟨_, rfl⟩
  have hT : TrimGives s R a := fun w => by
    have := trim_any (s.extract a s.size) w
    rw [trim_eq s a K h1 h2 h3 h4, hRd] at this
    exact this
  have hRs : R.size = s.size - K := by rw [← hRd, ByteArray.size_extract]; omega
  have hR : ∀ i (h : i < R.size) (h' : K + i < s.size), R[i] = s[K + i] := fun i h h' => by
    subst hRd
    exact ByteArray.getElem_extract h
  have hex : ∀ k, k ≤ s.size - K → R.extract 0 k = s.extract K (K + k) := fun k hk => by
    rw [← hRd, ByteArray.extract_extract]
    congr 1
    omega
  clear hRd
  by_cases he : K = s.size
  · exact main_a s ⟨#[]⟩ a K w hs h1 h2 (zz_any s _ a (fun b w hc0 hc1 => peek_empty s R a b w ha hc0 hc1 hT (emp_true (by omega)))) h3 h4 (emp_true rfl) he
  have hK : K < s.size := by omega
  have h0 : 0 < R.size := by omega
  have hsp0 := h4 hK
  have hne := emp_false h0
  have hkt : ∀ k, k ≤ s.size - K → (R.extract 0 k).size = k := fun k hk => by rw [ByteArray.size_extract]; omega
  have htok : ∀ k, k ≤ s.size - K → R.extract 0 k = s.extract K (K + (R.extract 0 k).size) := fun k hk => by rw [hkt k hk, hex k hk]
  have hRt : ∀ k i (hk : k ≤ s.size - K) (hi : i < k), ∃ (g1 : i < (R.extract 0 k).size) (g2 : K + i < s.size), (R.extract 0 k)[i] = s[K + i] := fun k i hk hi => by
    have := hkt k hk
    refine ⟨by omega, by omega, ?_⟩
    rw [ByteArray.getElem_extract]
    simp only [Nat.zero_add]
    exact hR i (by omega) (by omega)
  cases p61 : Lib.hasPrefix R.data.toList [61, 61] with
  | true =>
    obtain ⟨hl, e0, e1⟩ := (pfx2 R 61 61).1 p61
    have hz := hkt 2 (by omega)
    refine main_b s (R.extract 0 2) a K w hs h1 h2 (zz_any s _ a (fun b w hc0 hc1 => peek_eq s R a b w ha hc0 hc1 hT hne hl (pfx_any R ⟨#[61, 61]⟩ true p61))) h3 h4 (by omega) (emp_false (by omega)) (by omega) (htok 2 (by omega)) ?_
    rw [toList_two hz, ByteArray.getElem_extract, ByteArray.getElem_extract]
    simp only [Nat.zero_add]
    rw [e0, e1]; rfl
  | false =>
  cases p33 : Lib.hasPrefix R.data.toList [33, 61] with
  | true =>
    obtain ⟨hl, e0, e1⟩ := (pfx2 R 33 61).1 p33
    have hz := hkt 2 (by omega)
    have e : (R.extract 0 2).toList = [33, 61] := by
      rw [toList_two hz, ByteArray.getElem_extract, ByteArray.getElem_extract]
      simp only [Nat.zero_add]
      rw [e0, e1]
    exact main_b2 s (R.extract 0 2) a K w hs h1 h2 (zz_any s _ a (fun b w hc0 hc1 => peek_ne s R a b w ha hc0 hc1 hT hne hl (pfx_any R ⟨#[61, 61]⟩ false p61) (pfx_any R ⟨#[33, 61]⟩ true p33))) h3 h4 (by omega) (emp_false (by omega)) (by omega) (htok 2 (by omega)) (by rw [e]; rfl) (by rw [e]; rfl)
  | false =>
  have n61 : ∀ hl : 2 ≤ R.size, ¬ (R[0] = 61 ∧ R[1] = 61) := fun hl h => by rw [(pfx2 R 61 61).2 ⟨hl, h⟩] at p61; cases p61
  have n33 : ∀ hl : 2 ≤ R.size, ¬ (R[0] = 33 ∧ R[1] = 61) := fun hl h => by rw [(pfx2 R 33 61).2 ⟨hl, h⟩] at p33; cases p33
  have hsym := Lib.contains_iff_indexByte [33, 61, 60, 62, 40, 41, 44] R[0]
  rw [sy_iff] at hsym
  cases hsy : isSy (R[0]).toNat with
  | true =>
    rw [hsy] at hsym
    have hz := hkt 1 (by omega)
    obtain ⟨g1, g2, g3⟩ := hRt 1 0 (by omega) (by omega)
    have hR0 : (R.extract 0 1)[0] = R[0] := by rw [g3, hR 0 h0 g2]
    refine main_c s (R.extract 0 1) a K w hs h1 h2 (zz_any s _ a (fun b w hc0 hc1 => peek_sym s R a b w ha hc0 hc1 hT hne h0 _ (of_decide_eq_true hsym.symm) (pfx_any R ⟨#[61, 61]⟩ false p61) (pfx_any R ⟨#[33, 61]⟩ false p33) (sym_any R h0))) h3 h4 (by omega) (emp_false (by omega)) (by omega) (htok 1 (by omega))
      (toList_ne 61 (fun h => by omega)) (toList_ne 33 (fun h => by omega)) (by simp; omega) (by rw [hR0]; exact hsy) ?_
    intro hq hlt hbad
    have hl : 2 ≤ R.size := by omega
    have eR1 : R[1] = s[K + 1]'(by omega) := hR 1 (by omega) (by omega)
    have e1 : R[1] = 61 := by
      rw [eR1]; apply UInt8.toNat_inj.1
      have : K + (R.extract 0 1).size = K + 1 := by omega
      simp only [this] at hbad
      exact hbad
    rw [hR0] at hq
    rcases hq with hq | hq
    · exact n61 hl ⟨UInt8.toNat_inj.1 hq, e1⟩
    · exact n33 hl ⟨UInt8.toNat_inj.1 hq, e1⟩
  | false =>
    rw [hsy] at hsym
    have hneg : Lib.indexByte [33, 61, 60, 62, 40, 41, 44] R[0] < 0 := by have := of_decide_eq_false hsym.symm; omega
    obtain ⟨k, k1, k2, k3, k4⟩ := any_facts R
    have hk0 : 0 < k := by
      rcases Nat.eq_zero_or_pos k with rfl | h
      · have := k3 h0
        rw [hsy, hR 0 h0 (by omega)] at this
        simp only [Nat.add_zero] at this
        rw [hsp0] at this
        cases this
      · exact h
    have hz := hkt k (by omega)
    have hpk : Peek21 s (R.extract 0 k) a := fun b w hc0 hc1 => by
      have hA := anyGives R (by omega)
      rw [k4] at hA
      by_cases hkR : k < R.size
      · rw [if_pos hkR] at hA
        exact peek_word s R a b w ha hc0 hc1 hT hne h0 _ k hneg k1 (pfx_any R ⟨#[61, 61]⟩ false p61) (pfx_any R ⟨#[33, 61]⟩ false p33) (sym_any R h0) hA
      · rw [if_neg hkR] at hA
        have ek : R.extract 0 k = R := by
          have : k = R.size := by omega
          rw [this]; simp
        rw [ek]
        exact peek_all s R a b w ha hc0 hc1 hT hne h0 _ (-1) hneg (by omega) (pfx_any R ⟨#[61, 61]⟩ false p61) (pfx_any R ⟨#[33, 61]⟩ false p33) (sym_any R h0) hA
    have hbyte : ∀ i (h : i < (R.extract 0 k).size), ∃ h' : i < R.size, (R.extract 0 k)[i] = R[i] := fun i h => by
      obtain ⟨g1, g2, g3⟩ := hRt k i (by omega) (by omega)
      exact ⟨by omega, by rw [g3, hR i (by omega) g2]⟩
    have hall : ∀ i (h : i < (R.extract 0 k).size), isSp ((R.extract 0 k)[i]).toNat = false ∧ isSy ((R.extract 0 k)[i]).toNat = false := fun i h => by
      obtain ⟨g, e⟩ := hbyte i h
      rw [e]; exact k2 i g (by omega)
    have hlast : ∀ h : K + (R.extract 0 k).size < s.size, isSp (s[K + (R.extract 0 k).size]).toNat = true ∨ (isSp (s[K + (R.extract 0 k).size]).toNat = false ∧ isSy (s[K + (R.extract 0 k).size]).toNat = true) := fun h => by
      have e : K + (R.extract 0 k).size = K + k := by omega
      simp only [e]
      have := k3 (by omega)
      rw [hR k (by omega) (by omega)] at this
      cases hq : isSp (s[K + k]'(by omega)).toNat with
      | true => exact .inl rfl
      | false => rw [hq] at this; exact .inr ⟨rfl, by simpa using this⟩
    have q61 : ((R.extract 0 k).toList == [61, 61]) = false := toList_ne 61 (fun ⟨e, h⟩ => by
      obtain ⟨g, e'⟩ := hbyte 0 (by omega)
      have := (h (by omega) (by omega)).1
      rw [e'] at this
      rw [this] at hsy; exact absurd hsy (by decide))
    have q33 : ((R.extract 0 k).toList == [33, 61]) = false := toList_ne 33 (fun ⟨e, h⟩ => by
      obtain ⟨g, e'⟩ := hbyte 0 (by omega)
      have := (h (by omega) (by omega)).1
      rw [e'] at this
      rw [this] at hsy; exact absurd hsy (by decide))
    have hsy' : isSy ((R.extract 0 k)[0]'(by omega)).toNat = false := (hall 0 (by omega)).2
    by_cases hk1 : k = 1
    · exact main_d s (R.extract 0 k) a K w hs h1 h2 (zz_any s _ a hpk) h3 h4 (by omega) (emp_false (by omega)) (by omega) (htok k (by omega)) q61 q33 hsy' hall hlast (by simp; omega)
    · exact main_e s (R.extract 0 k) a K w hs h1 h2 (zz_any s _ a hpk) h3 h4 (by omega) (emp_false (by omega)) (by omega) (htok k (by omega)) q61 q33 hsy' hall hlast (by simp; omega)

theorem walk (s : ByteArray) (x : Int) (w : World) :
    Calls Tryd.prog 5 #[.string s, .int .i64 x] w fun e w' => e = .returned (.bool true) ∧ Below w.heap.size w w' := by
  by_cases hb : 1048576 < s.size
  · exact walk_big s x w hb
  by_cases h0 : x < 0
  · exact walk_neg s x w (by omega) h0
  by_cases h1 : (s.size : Int) < x
  · exact walk_past s x w (by omega) h0 h1
  obtain ⟨a, rfl⟩ : ∃ a : Nat, x = a := ⟨x.toNat, by omega⟩
  exact walk_in s a w (by omega) (by omega)
end Go.Proofs.Qxb6600459aDoor
