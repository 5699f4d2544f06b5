import Derived.Test.Qxb6606039aDoorNum
namespace Go.Proofs.Qxb6606039aDoor

/-- The digit that stands k places from the right, 0 beyond the left end. -/
def digAt (l : List UInt8) (k : Nat) : Nat := if h : k < l.length then dv (l[l.length - 1 - k]) else 0
theorem digAt_le {l : List UInt8} (h : Dig l) (k : Nat) : digAt l k ≤ 9 := by
  unfold digAt; split
  · exact dv_le (h _ (List.getElem_mem _))
  · omega
theorem lastv_next (l : List UInt8) (k : Nat) : lastv l (k + 1) = digAt l k * 10 ^ k + lastv l k := by
  unfold digAt; split
  · rename_i h; exact lastv_succ l k h
  · rename_i h; rw [lastv_all l (k + 1) (by omega), lastv_all l k (by omega)]; simp

/-- What zzAddMag's loop holds behind k rounds. -/
structure AddInv (A B : List UInt8) (n k c : Nat) (cur : List UInt8) : Prop where
  len : cur.length = n + 1
  le : k ≤ n
  small : c ≤ 1
  digs : Dig (cur.drop (n + 1 - k))
  sum : val (cur.drop (n + 1 - k)) + c * 10 ^ k = lastv A k + lastv B k

theorem AddInv.start (A B : List UInt8) (n : Nat) : AddInv A B n 0 0 (List.replicate (n + 1) 0) :=
  ⟨by simp, by omega, by omega, by simp [Dig], by simp [val, lastv_zero]⟩
theorem AddInv.step {A B : List UInt8} {n k c : Nat} {cur : List UInt8} (hA : Dig A) (hB : Dig B) (h : AddInv A B n k c cur) (hk : k < n) (s : Nat) (hs : s = c + digAt A k + digAt B k) :
    AddInv A B n (k + 1) (s / 10) (cur.set (n - k) (dig (s % 10))) := by
  have h1 := digAt_le hA k
  have h2 := digAt_le hB k
  have h3 := h.small
  have e1 : (cur.set (n - k) (dig (s % 10))).drop (n + 1 - (k + 1)) = dig (s % 10) :: cur.drop (n + 1 - k) := by
    rw [show n + 1 - (k + 1) = n - k by omega, drop_set _ _ _ (by rw [h.len]; omega), show n - k + 1 = n + 1 - k by omega]
  have e2 : (cur.drop (n + 1 - k)).length = k := by rw [List.length_drop, h.len]; omega
  refine ⟨by simpa using h.len, by omega, by omega, ?_, ?_⟩
  · rw [e1]; exact Dig.cons (dig_is (by omega)) h.digs
  · rw [e1, val, e2, dig_dv (by omega), lastv_next, lastv_next, Nat.pow_succ]
    have h4 := h.sum
    have h5 : s = 10 * (s / 10) + s % 10 := by omega
    generalize s / 10 = q at *
    generalize s % 10 = r at *
    generalize 10 ^ k = P at *
    have e3 : q * (P * 10) + r * P = s * P := by rw [h5, Nat.add_mul, Nat.mul_comm P 10, ← Nat.mul_assoc, Nat.mul_comm q 10]
    have e4 : s * P = c * P + digAt A k * P + digAt B k * P := by rw [hs, Nat.add_mul, Nat.add_mul]
    omega
theorem AddInv.done {A B : List UInt8} {n c : Nat} {cur : List UInt8} (h : AddInv A B n n c cur) (hA : A.length ≤ n) (hB : B.length ≤ n) :
    Dig (cur.set 0 (dig c)) ∧ val (cur.set 0 (dig c)) = val A + val B := by
  have h3 := h.small
  have e1 : cur.set 0 (dig c) = dig c :: cur.drop 1 := by
    have := drop_set cur 0 (dig c) (by rw [h.len]; omega)
    simpa using this
  have e0 : n + 1 - n = 1 := by omega
  have h4 := h.sum
  have h5 := h.digs
  rw [e0] at h4 h5
  have e2 : (cur.drop 1).length = n := by rw [List.length_drop, h.len]; omega
  rw [e1]
  refine ⟨Dig.cons (dig_is (by omega)) h5, ?_⟩
  rw [val, e2, dig_dv (by omega)]
  rw [lastv_all A n hA, lastv_all B n hB] at h4
  omega

/-- What zzSubMag's loop holds behind k rounds. -/
structure SubInv (A B : List UInt8) (k c : Nat) (cur : List UInt8) : Prop where
  len : cur.length = A.length
  le : k ≤ A.length
  small : c ≤ 1
  digs : Dig (cur.drop (A.length - k))
  sum : val (cur.drop (A.length - k)) + lastv B k = lastv A k + c * 10 ^ k
theorem SubInv.start (A B : List UInt8) : SubInv A B 0 0 (List.replicate A.length 0) :=
  ⟨by simp, by omega, by omega, by simp [Dig], by simp [val, lastv_zero]⟩
/-- s + 10·borrow' = the difference of the two digits and the borrow. -/
theorem SubInv.step {A B : List UInt8} {k c : Nat} {cur : List UInt8} (h : SubInv A B k c cur) (hk : k < A.length) (d q : Nat) (hd : d ≤ 9) (hq : q ≤ 1) (hs : d + digAt B k + c = digAt A k + 10 * q) :
    SubInv A B (k + 1) q (cur.set (A.length - 1 - k) (dig d)) := by
  have e1 : (cur.set (A.length - 1 - k) (dig d)).drop (A.length - (k + 1)) = dig d :: cur.drop (A.length - k) := by
    rw [show A.length - (k + 1) = A.length - 1 - k by omega, drop_set _ _ _ (by rw [h.len]; omega), show A.length - 1 - k + 1 = A.length - k by omega]
  have e2 : (cur.drop (A.length - k)).length = k := by rw [List.length_drop, h.len]; omega
  refine ⟨by simpa using h.len, by omega, hq, ?_, ?_⟩
  · rw [e1]; exact Dig.cons (dig_is hd) h.digs
  · rw [e1, val, e2, dig_dv hd, lastv_next, lastv_next, Nat.pow_succ]
    have h4 := h.sum
    generalize 10 ^ k = P at *
    have e3 : d * P + digAt B k * P + c * P = digAt A k * P + q * (P * 10) := by
      rw [Nat.mul_comm P 10, ← Nat.mul_assoc, Nat.mul_comm q 10, ← Nat.add_mul, ← Nat.add_mul, ← Nat.add_mul, hs]
    omega
theorem SubInv.done {A B : List UInt8} {c : Nat} {cur : List UInt8} (h : SubInv A B A.length c cur) (hl : B.length ≤ A.length) (hv : val B ≤ val A) :
    Dig cur ∧ val cur = val A - val B := by
  have h4 := h.sum
  have h5 := h.digs
  rw [Nat.sub_self] at h4 h5
  simp only [List.drop_zero] at h4 h5
  rw [lastv_all A _ (Nat.le_refl _), lastv_all B _ hl] at h4
  have h6 := val_lt h5
  rw [h.len] at h6
  have h7 := h.small
  refine ⟨h5, ?_⟩
  rcases Nat.eq_zero_or_pos c with rfl | hc
  · omega
  · obtain rfl : c = 1 := by omega
    omega
end Go.Proofs.Qxb6606039aDoor
