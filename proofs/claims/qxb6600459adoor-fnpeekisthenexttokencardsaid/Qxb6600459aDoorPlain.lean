import Derived.Test.Qxb6600459aDoorAny
namespace Go.Proofs.Qxb6600459aDoor
open Go.Lib

theorem sp_fin : ∀ n : Fin 256, [32, 9, 13, 10].contains (UInt8.ofNat n.1) = isSp (n.1 : Int) := by decide +kernel
theorem sy_fin : ∀ n : Fin 256, [33, 61, 60, 62, 40, 41, 44].contains (UInt8.ofNat n.1) = isSy (n.1 : Int) := by decide +kernel
theorem se_fin : ∀ n : Fin 256, [33, 61, 60, 62, 40, 41, 44, 32, 9, 13, 10].contains (UInt8.ofNat n.1) = (isSp (n.1 : Int) || isSy (n.1 : Int)) := by decide +kernel
theorem sp_iff (b : UInt8) : [32, 9, 13, 10].contains b = isSp (b.toNat : Int) := by
  have := sp_fin ⟨b.toNat, b.toNat_lt⟩; simpa using this
theorem sy_iff (b : UInt8) : [33, 61, 60, 62, 40, 41, 44].contains b = isSy (b.toNat : Int) := by
  have := sy_fin ⟨b.toNat, b.toNat_lt⟩; simpa using this
theorem se_iff (b : UInt8) : [33, 61, 60, 62, 40, 41, 44, 32, 9, 13, 10].contains b = (isSp (b.toNat : Int) || isSy (b.toNat : Int)) := by
  have := se_fin ⟨b.toNat, b.toNat_lt⟩; simpa using this

/-- The first place from a on where p holds, or n. -/
theorem first_of (p : Nat → Bool) : ∀ (d a n : Nat), a + d = n → ∃ k, a ≤ k ∧ k ≤ n ∧ (∀ j, a ≤ j → j < k → p j = false) ∧ (k < n → p k = true)
  | 0, a, n, h => ⟨a, Nat.le_refl _, by omega, fun j h1 h2 => by omega, fun h1 => by omega⟩
  | d + 1, a, n, h => by
    cases hp : p a with
    | true => exact ⟨a, Nat.le_refl _, by omega, fun j h1 h2 => by omega, fun _ => hp⟩
    | false =>
      obtain ⟨k, h1, h2, h3, h4⟩ := first_of p d (a + 1) n (by omega)
      refine ⟨k, by omega, h2, fun j g1 g2 => ?_, h4⟩
      by_cases e : j = a
      · rw [e]; exact hp
      · exact h3 j (by omega) g2

theorem white (s : ByteArray) (a : Nat) (ha : a ≤ s.size) :
    ∃ K, a ≤ K ∧ K ≤ s.size ∧ (∀ j (h : j < s.size), a ≤ j → j < K → isSp (s[j]).toNat = true) ∧ (∀ h : K < s.size, isSp (s[K]).toNat = false) := by
  obtain ⟨k, h1, h2, h3, h4⟩ := first_of (fun j => if h : j < s.size then !isSp (s[j]).toNat else true) (s.size - a) a s.size (by omega)
  refine ⟨k, h1, h2, fun j h g1 g2 => ?_, fun h => ?_⟩
  · have := h3 j g1 g2; rw [dif_pos h] at this; simpa using this
  · have := h4 h; rw [dif_pos h] at this; simpa using this

theorem trim_eq (s : ByteArray) (a K : Nat) (h1 : a ≤ K) (h2 : K ≤ s.size) (h3 : ∀ j (h : j < s.size), a ≤ j → j < K → isSp (s[j]).toNat = true) (h4 : ∀ h : K < s.size, isSp (s[K]).toNat = false) :
    (⟨(Lib.trimLeftS (s.extract a s.size).data.toList [32, 9, 13, 10]).toArray⟩ : ByteArray) = s.extract K s.size := by
  have hsz : (s.extract a s.size).size = s.size - a := by rw [ByteArray.size_extract]; omega
  have hat : ∀ (j : Nat) b, (s.extract a s.size).data.toList[j]? = some b → ∃ h : a + j < s.size, b = s[a + j] := by
    intro j b hb
    have hj : j < (s.extract a s.size).size := by
      have := (List.getElem?_eq_some_iff.1 hb).1; rw [Lib.size_eq]; exact this
    rw [Lib.data_getElem? _ j hj] at hb
    refine ⟨by omega, ?_⟩
    rw [← Option.some.inj hb, ByteArray.getElem_extract]
  rw [Lib.trimLeftS_drop _ _ (K - a) (by rw [← Lib.size_eq]; omega)
    (fun j b hj hb => by obtain ⟨h, rfl⟩ := hat j b hb; rw [sp_iff]; exact h3 _ h (by omega) (by omega))
    (fun b hb => by
      obtain ⟨h, rfl⟩ := hat _ b hb
      rw [sp_iff]
      have e : a + (K - a) = K := by omega
      simp only [e]
      exact h4 (by omega))]
  apply ByteArray.ext
  rw [ByteArray.data_extract, ByteArray.data_extract]
  apply Array.ext'
  simp [Array.toList_extract, List.drop_take, List.drop_drop]
  have e1 : a + (K - a) = K := by omega
  have e2 : s.size - a - (K - a) = s.size - K := by omega
  rw [e1, e2]

theorem pfx2 (R : ByteArray) (x y : UInt8) : Lib.hasPrefix R.data.toList [x, y] = true ↔ ∃ h : 2 ≤ R.size, R[0] = x ∧ R[1] = y := by
  unfold Lib.hasPrefix
  constructor
  · intro h
    obtain ⟨t, ht⟩ := List.isPrefixOf_iff_prefix.1 h
    have hl : 2 ≤ R.size := by rw [Lib.size_eq, ← ht]; simp
    refine ⟨hl, ?_, ?_⟩
    · have := Lib.data_getElem? R 0 (by omega); rw [← ht] at this; simpa using this.symm
    · have := Lib.data_getElem? R 1 (by omega); rw [← ht] at this; simpa using this.symm
  · rintro ⟨h, h0, h1⟩
    have e0 := Lib.data_getElem? R 0 (by omega)
    have e1 := Lib.data_getElem? R 1 (by omega)
    match hd : R.data.toList with
    | [] => rw [hd] at e0; simp at e0
    | [_] => rw [hd] at e1; simp at e1
    | p :: q :: t =>
      rw [hd] at e0 e1
      simp at e0 e1
      simp [List.isPrefixOf, e0, e1, h0, h1]

theorem any_facts (R : ByteArray) : ∃ k : Nat, k ≤ R.size ∧ (∀ i (h : i < R.size), i < k → isSp (R[i]).toNat = false ∧ isSy (R[i]).toNat = false) ∧
    (∀ h : k < R.size, (isSp (R[k]).toNat || isSy (R[k]).toNat) = true) ∧
    Lib.indexAny R.data.toList seps.data.toList = if k < R.size then (k : Int) else -1 := by
  obtain ⟨k, _, h2, h3, h4⟩ := first_of (fun j => if h : j < R.size then (isSp (R[j]).toNat || isSy (R[j]).toNat) else true) R.size 0 R.size (by omega)
  have hno : Lib.NoAny R.data.toList seps.data.toList k := by
    intro j b hj hb
    have hjs : j < R.size := by omega
    rw [Lib.data_getElem? R j hjs] at hb
    have := h3 j (by omega) hj
    rw [dif_pos hjs] at this
    rw [← Option.some.inj hb]
    show [33, 61, 60, 62, 40, 41, 44, 32, 9, 13, 10].contains _ = false
    rw [se_iff]; exact this
  refine ⟨k, h2, fun i h hi => ?_, fun h => ?_, ?_⟩
  · have := h3 i (by omega) hi; rw [dif_pos h] at this; simpa using this
  · have := h4 h; rw [dif_pos h] at this; exact this
  · split
    · rename_i hk
      refine Lib.indexAny_hit hno (Lib.data_getElem? R k hk) ?_
      show [33, 61, 60, 62, 40, 41, 44, 32, 9, 13, 10].contains _ = true
      rw [se_iff]; have := h4 hk; rw [dif_pos hk] at this; exact this
    · exact Lib.indexAny_none (fun j b hj hb => hno j b (by rw [← Lib.size_eq] at hj; omega) hb)
end Go.Proofs.Qxb6600459aDoor
