import Derived.Test.Qxb6606039aDoorNum
import Derived.Lib.ItoaNum
import Derived.Lib.ParseIntB
import Derived.Lib.Strings
namespace Go.Proofs.Qxb6606039aDoor
open Go.Lib

theorem val_snoc (l : List UInt8) (c : UInt8) : val (l ++ [c]) = val l * 10 + dv c := by
  rw [val_append]; simp [val]
theorem Dig.append {a b : List UInt8} (h : Dig a) (k : Dig b) : Dig (a ++ b) := fun x hx => by
  rcases List.mem_append.1 hx with hx | hx
  · exact h x hx
  · exact k x hx
theorem dec_ne (u : Nat) : decDigits u ≠ [] := by
  rw [decDigits]; split <;> simp
theorem dec_facts (u : Nat) : Dig (decDigits u) ∧ val (decDigits u) = u ∧ (0 < u → (decDigits u).head? ≠ some 48) := by
  induction u using Nat.strongRecOn with
  | _ u ih =>
    rw [decDigits]
    split
    · rename_i h
      have hd : isDig (UInt8.ofNat (48 + u)) := dig_is (d := u) (by omega)
      have hv : dv (UInt8.ofNat (48 + u)) = u := dig_dv (d := u) (by omega)
      refine ⟨fun x hx => by rw [List.mem_singleton.1 hx]; exact hd, by rw [val, hv]; simp [val], fun hp e => ?_⟩
      simp only [List.head?_cons, Option.some.injEq] at e
      rw [e] at hv
      have : dv 48 = 0 := rfl
      omega
    · rename_i h
      obtain ⟨h1, h2, h3⟩ := ih (u / 10) (by omega)
      have hd : isDig (UInt8.ofNat (48 + u % 10)) := dig_is (d := u % 10) (by omega)
      have hv : dv (UInt8.ofNat (48 + u % 10)) = u % 10 := dig_dv (d := u % 10) (by omega)
      refine ⟨h1.append (fun x hx => by rw [List.mem_singleton.1 hx]; exact hd), by rw [val_snoc, h2, hv]; omega, fun _ => ?_⟩
      have h4 := h3 (by omega)
      cases hq : decDigits (u / 10) with
      | nil => exact absurd hq (dec_ne _)
      | cons a l => rw [hq] at h4; simpa using h4
theorem dec_can {u : Nat} (h : 0 < u) : Can (decDigits u) := ⟨(dec_facts u).1, (dec_facts u).2.2 h⟩

theorem parseM {M : Nat} (hM : M ≤ 18446744073709551615) : ∀ (l : List UInt8) (acc : Nat), Dig l → acc * 10 ^ l.length + val l ≤ M → parseUintM M acc l = .ok (acc * 10 ^ l.length + val l)
  | [], acc, _, _ => by simp [parseUintM, val]
  | c :: l, acc, hd, h => by
    have hc := hd.head
    unfold isDig at hc
    have hp : 1 ≤ 10 ^ l.length := Nat.one_le_pow _ _ (by decide)
    have e : acc * 10 ^ (l.length + 1) + (dv c * 10 ^ l.length + val l) = (acc * 10 + (c.toNat - 48)) * 10 ^ l.length + val l := by
      rw [Nat.pow_succ, Nat.add_mul, Nat.mul_comm (10 ^ l.length) 10, ← Nat.mul_assoc]
      unfold dv
      omega
    rw [val, List.length_cons, e] at h ⊢
    have h1 : (acc * 10 + (c.toNat - 48)) * 1 ≤ (acc * 10 + (c.toNat - 48)) * 10 ^ l.length := Nat.mul_le_mul_left _ hp
    rw [parseUintM, if_pos hc, if_neg (by omega), if_neg (by omega)]
    exact parseM hM l _ hd.tail h

/-- strconv.ParseInt of up to 18 digits. -/
theorem parse_pos {l : List UInt8} (hd : Dig l) (hne : l ≠ []) (hl : l.length ≤ 18) : parseIntB 64 l = .ok (val l : Int) := by
  have hlt := val_lt hd
  have h18 : 10 ^ l.length ≤ 10 ^ 18 := Nat.pow_le_pow_right (by decide) hl
  have hM : (2 : Nat) ^ 64 - 1 = 18446744073709551615 := by decide
  have h63 : (2 : Nat) ^ (64 - 1) = 9223372036854775808 := by decide
  have h1018 : (10 : Nat) ^ 18 = 1000000000000000000 := by decide
  cases l with
  | nil => exact absurd rfl hne
  | cons c r =>
    have hc := hd.head
    unfold isDig at hc
    have hp : parseUintB 64 (c :: r) = .ok (val (c :: r)) := by
      unfold parseUintB
      rw [if_neg hne, hM, parseM (Nat.le_refl _) _ _ hd (by omega)]
      simp
    have h43 : ¬ (c.toNat = 43 ∨ c.toNat = 45) := by omega
    have h45 : ¬ c.toNat = 45 := by omega
    simp only [parseIntB, h43, if_false, hp]
    rw [if_neg (by rw [h63]; omega), if_neg (fun h => h45 h.1), if_neg h45]
theorem parse_neg {l : List UInt8} (hd : Dig l) (hne : l ≠ []) (hl : l.length ≤ 18) : parseIntB 64 (45 :: l) = .ok (-(val l : Int)) := by
  have hlt := val_lt hd
  have h18 : 10 ^ l.length ≤ 10 ^ 18 := Nat.pow_le_pow_right (by decide) hl
  have hM : (2 : Nat) ^ 64 - 1 = 18446744073709551615 := by decide
  have h63 : (2 : Nat) ^ (64 - 1) = 9223372036854775808 := by decide
  have h1018 : (10 : Nat) ^ 18 = 1000000000000000000 := by decide
  have hp : parseUintB 64 l = .ok (val l) := by
    unfold parseUintB
    rw [if_neg hne, hM, parseM (Nat.le_refl _) _ _ hd (by omega)]
    simp
  have h45 : (45 : UInt8).toNat = 45 := rfl
  have h43 : ((45 : UInt8).toNat = 43 ∨ (45 : UInt8).toNat = 45) := .inr rfl
  simp only [parseIntB, h43, if_true, hp]
  rw [if_neg (fun h => h.1 h45), if_neg (by rw [h63]; omega), if_pos h45]

/-- What parseInteger makes of a number that strconv wrote. -/
theorem itoa_neg_eq {x : Int} (h : x < 0) : itoa x = 45 :: decDigits x.natAbs := by unfold itoa; rw [if_pos h]
theorem itoa_pos_eq {x : Int} (h : ¬ x < 0) : itoa x = decDigits x.toNat := by unfold itoa; rw [if_neg h]
theorem hasPrefix_one (c : UInt8) (l : List UInt8) : hasPrefix l [c] = (match l with | [] => false | d :: _ => d == c) := by
  unfold hasPrefix
  cases l with
  | nil => rfl
  | cons d r => simp [List.isPrefixOf, BEq.comm]
end Go.Proofs.Qxb6606039aDoor
