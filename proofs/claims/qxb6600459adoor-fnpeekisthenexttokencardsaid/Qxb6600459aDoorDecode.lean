import Derived.Lib.DecodeN
namespace Go.Proofs.Qxb6600459aDoor
open Go.Lib

theorem get_bang (s : ByteArray) (j : Nat) (h : j < s.size) : s.get! j = s[j] := by
  simp [ByteArray.get!, getElem!_pos, h]; rfl

theorem decodeN_facts (n b0 b1 b2 b3 : Nat) (hn : 1 ≤ n) (h0 : 128 ≤ b0) (h1 : b0 < 256) :
    1 ≤ (decodeN n b0 b1 b2 b3).2 ∧ (decodeN n b0 b1 b2 b3).2 ≤ n ∧ (decodeN n b0 b1 b2 b3).2 ≤ 4 ∧
    (2 ≤ (decodeN n b0 b1 b2 b3).2 → 128 ≤ b1) ∧ (3 ≤ (decodeN n b0 b1 b2 b3).2 → 128 ≤ b2) ∧ (4 ≤ (decodeN n b0 b1 b2 b3).2 → 128 ≤ b3) ∧
    128 ≤ (decodeN n b0 b1 b2 b3).1 ∧ (decodeN n b0 b1 b2 b3).1 ≤ 1114111 ∧ ((decodeN n b0 b1 b2 b3).1 < 55296 ∨ 57344 ≤ (decodeN n b0 b1 b2 b3).1) := by
  unfold decodeN
  rw [if_neg (by omega)]
  split
  · split <;> simp only <;> omega
  · split
    · split <;> simp only <;> omega
    · split
      · split <;> simp only <;> omega
      · simp only; omega

/-- What one step of a range over a string sees. -/
theorem decode_facts (s : ByteArray) (pos : Nat) (h : pos < s.size) (h0 : 128 ≤ (s[pos]).toNat) :
    1 ≤ (Utf8.decode s pos).2 ∧ pos + (Utf8.decode s pos).2 ≤ s.size ∧ 128 ≤ (Utf8.decode s pos).1 ∧ (Utf8.decode s pos).1 ≤ 1114111 ∧ ((Utf8.decode s pos).1 < 55296 ∨ 57344 ≤ (Utf8.decode s pos).1) ∧
    ∀ j (hj : j < s.size), pos ≤ j → j < pos + (Utf8.decode s pos).2 → 128 ≤ (s[j]).toNat := by
  have e := decode_at s pos
  have hb : (s.get! pos).toNat = (s[pos]).toNat := by rw [get_bang s pos h]
  have f := decodeN_facts (s.size - pos) (s.get! pos).toNat (s.get! (pos + 1)).toNat (s.get! (pos + 2)).toNat (s.get! (pos + 3)).toNat (by omega) (by omega) (by have := (s[pos]).toNat_lt; omega)
  rw [← e] at f
  obtain ⟨f1, f2, f3, f4, f5, f6, f7, f8, f9⟩ := f
  refine ⟨f1, by omega, f7, f8, f9, fun j hj hpj hjp => ?_⟩
  rcases (show j = pos ∨ j = pos + 1 ∨ j = pos + 2 ∨ j = pos + 3 by omega) with rfl | rfl | rfl | rfl
  · exact h0
  · rw [← get_bang s _ hj]; exact f4 (by omega)
  · rw [← get_bang s _ hj]; exact f5 (by omega)
  · rw [← get_bang s _ hj]; exact f6 (by omega)
end Go.Proofs.Qxb6600459aDoor
