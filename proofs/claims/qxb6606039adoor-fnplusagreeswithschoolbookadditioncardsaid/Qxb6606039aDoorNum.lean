namespace Go.Proofs.Qxb6606039aDoor

/-- A digit's number. -/
def dv (c : UInt8) : Nat := c.toNat - 48
/-- What a row of digits is worth. -/
def val : List UInt8 → Nat
  | [] => 0
  | c :: l => dv c * 10 ^ l.length + val l
def isDig (c : UInt8) : Prop := 48 ≤ c.toNat ∧ c.toNat ≤ 57
def Dig (l : List UInt8) : Prop := ∀ c ∈ l, isDig c
/-- Canonical: digits, no leading zero. -/
def Can (l : List UInt8) : Prop := Dig l ∧ l.head? ≠ some 48

theorem dv_le {c : UInt8} (h : isDig c) : dv c ≤ 9 := by unfold dv; unfold isDig at h; omega
theorem dv_inj {c d : UInt8} (h : isDig c) (k : isDig d) (e : dv c = dv d) : c = d := by
  apply UInt8.toNat_inj.1
  unfold dv at e; unfold isDig at h k; omega
theorem dv_zero : dv 48 = 0 := rfl
theorem Dig.tail {c : UInt8} {l : List UInt8} (h : Dig (c :: l)) : Dig l := fun x hx => h x (List.mem_cons_of_mem _ hx)
theorem Dig.head {c : UInt8} {l : List UInt8} (h : Dig (c :: l)) : isDig c := h c List.mem_cons_self
theorem Dig.drop {l : List UInt8} (h : Dig l) (k : Nat) : Dig (l.drop k) := fun x hx => h x (List.mem_of_mem_drop hx)
theorem Dig.cons {c : UInt8} {l : List UInt8} (h : isDig c) (k : Dig l) : Dig (c :: l) := fun x hx => by
  rcases List.mem_cons.1 hx with rfl | hx
  · exact h
  · exact k x hx

theorem val_append (a b : List UInt8) : val (a ++ b) = val a * 10 ^ b.length + val b := by
  induction a with
  | nil => simp [val]
  | cons c a ih =>
    rw [List.cons_append, val, ih, val, List.length_append, Nat.pow_add, Nat.add_mul, ← Nat.mul_assoc, Nat.add_assoc]
theorem val_lt {l : List UInt8} (h : Dig l) : val l < 10 ^ l.length := by
  induction l with
  | nil => simp [val]
  | cons c l ih =>
    have h1 := ih h.tail
    have h2 := dv_le h.head
    have h3 : dv c * 10 ^ l.length ≤ 9 * 10 ^ l.length := Nat.mul_le_mul_right _ h2
    rw [val, List.length_cons, Nat.pow_succ]
    omega
theorem val_ge {c : UInt8} {l : List UInt8} (h : Can (c :: l)) : 10 ^ l.length ≤ val (c :: l) := by
  have h1 : dv c ≠ 0 := fun e => h.2 (by
    have := dv_inj h.1.head (d := 48) ⟨by decide, by decide⟩ (by rw [e]; rfl)
    rw [this]; rfl)
  have h2 : 1 * 10 ^ l.length ≤ dv c * 10 ^ l.length := Nat.mul_le_mul_right _ (by omega)
  rw [val]
  omega
theorem val_eq_len : ∀ {l m : List UInt8}, Dig l → Dig m → l.length = m.length → val l = val m → l = m
  | [], [], _, _, _, _ => rfl
  | [], _ :: _, _, _, h, _ => by simp at h
  | _ :: _, [], _, _, h, _ => by simp at h
  | c :: l, d :: m, hl, hm, h, e => by
    have hlen : l.length = m.length := by simpa using h
    have h1 := val_lt hl.tail
    have h2 := val_lt hm.tail
    rw [val, val, hlen] at e
    rw [hlen] at h1
    have hp : 0 < 10 ^ m.length := Nat.pow_pos (by decide)
    have e1 : (dv c * 10 ^ m.length + val l) / 10 ^ m.length = dv c := by
      rw [Nat.add_comm, Nat.add_mul_div_right _ _ hp, Nat.div_eq_of_lt h1, Nat.zero_add]
    have e2 : (dv d * 10 ^ m.length + val m) / 10 ^ m.length = dv d := by
      rw [Nat.add_comm, Nat.add_mul_div_right _ _ hp, Nat.div_eq_of_lt h2, Nat.zero_add]
    have e3 : dv c = dv d := by rw [← e1, ← e2, e]
    rw [e3] at e
    rw [dv_inj hl.head hm.head e3, val_eq_len hl.tail hm.tail hlen (by omega)]
theorem Can.len_le {l m : List UInt8} (hl : Can l) (hm : Can m) (e : val l ≤ val m) : l.length ≤ m.length := by
  cases l with
  | nil => simp
  | cons c l =>
    have h1 := val_ge hl
    have h2 := val_lt hm.1
    rcases Nat.lt_or_ge l.length m.length with h | h
    · exact h
    · exfalso
      have : 10 ^ m.length ≤ 10 ^ l.length := Nat.pow_le_pow_right (by decide) h
      omega
theorem val_inj {l m : List UInt8} (hl : Can l) (hm : Can m) (e : val l = val m) : l = m :=
  val_eq_len hl.1 hm.1 (Nat.le_antisymm (hl.len_le hm (by omega)) (hm.len_le hl (by omega))) e
theorem can_nil : Can [] := ⟨fun _ h => (by cases h), by simp⟩
theorem can_zero {l : List UInt8} (h : Can l) (e : val l = 0) : l = [] := val_inj h can_nil e

/-- Leading zeros struck. -/
def trim0 (l : List UInt8) : List UInt8 := l.dropWhile (· == 48)
theorem trim0_val (l : List UInt8) : val (trim0 l) = val l := by
  induction l with
  | nil => rfl
  | cons c l ih =>
    unfold trim0 at *
    rw [List.dropWhile_cons]
    split
    · rename_i h
      have : c = 48 := by simpa using h
      rw [ih, val, this, dv_zero]; simp
    · rfl
theorem trim0_can {l : List UInt8} (h : Dig l) : Can (trim0 l) := by
  induction l with
  | nil => exact can_nil
  | cons c l ih =>
    unfold trim0 at *
    rw [List.dropWhile_cons]
    split
    · exact ih h.tail
    · rename_i hc
      exact ⟨h, by simpa using hc⟩
theorem trim0_id {l : List UInt8} (h : Can l) : trim0 l = l := val_inj (trim0_can h.1) h (trim0_val l)

/-- The worth of the last k digits. -/
def lastv (l : List UInt8) (k : Nat) : Nat := val (l.drop (l.length - k))
theorem lastv_zero (l : List UInt8) : lastv l 0 = 0 := by unfold lastv; simp [val]
theorem lastv_all (l : List UInt8) (k : Nat) (h : l.length ≤ k) : lastv l k = val l := by
  unfold lastv; rw [show l.length - k = 0 by omega]; rfl
theorem lastv_succ (l : List UInt8) (k : Nat) (h : k < l.length) : lastv l (k + 1) = dv (l[l.length - 1 - k]) * 10 ^ k + lastv l k := by
  unfold lastv
  rw [show l.length - (k + 1) = l.length - 1 - k by omega, List.drop_eq_getElem_cons (by omega), val, List.length_drop]
  rw [show l.length - (l.length - 1 - k + 1) = k by omega, show l.length - 1 - k + 1 = l.length - k by omega]
theorem lastv_lt {l : List UInt8} (h : Dig l) (k : Nat) : lastv l k < 10 ^ k := by
  unfold lastv
  have h1 := val_lt (h.drop (l.length - k))
  rw [List.length_drop] at h1
  exact Nat.lt_of_lt_of_le h1 (Nat.pow_le_pow_right (by decide) (by omega))

/-- The byte of a digit. -/
def dig (d : Nat) : UInt8 := UInt8.ofNat (48 + d)
theorem dig_toNat {d : Nat} (h : d ≤ 9) : (dig d).toNat = 48 + d := by unfold dig; simp; omega
theorem dig_dv {d : Nat} (h : d ≤ 9) : dv (dig d) = d := by unfold dv; rw [dig_toNat h]; omega
theorem dig_is {d : Nat} (h : d ≤ 9) : isDig (dig d) := by unfold isDig; rw [dig_toNat h]; omega

theorem drop_set (l : List UInt8) (p : Nat) (d : UInt8) (h : p < l.length) : (l.set p d).drop p = d :: l.drop (p + 1) := by
  rw [List.drop_eq_getElem_cons (by simpa using h), List.getElem_set_self, List.drop_set_of_lt (by omega)]
/-- One digit turned. -/
theorem val_set (l : List UInt8) (p : Nat) (d : UInt8) (h : p < l.length) : (val (l.set p d) : Int) = val l + ((dv d : Int) - dv l[p]) * 10 ^ (l.length - 1 - p) := by
  have e1 : l = l.take p ++ (l[p] :: l.drop (p + 1)) := by rw [List.getElem_cons_drop, List.take_append_drop]
  have e2 : l.set p d = l.take p ++ (d :: l.drop (p + 1)) := by rw [List.set_eq_take_append_cons_drop, if_pos h]
  have hl : (l.drop (p + 1)).length = l.length - 1 - p := by rw [List.length_drop]; omega
  have v1 : val l = val (l.take p) * 10 ^ (l.length - 1 - p + 1) + (dv l[p] * 10 ^ (l.length - 1 - p) + val (l.drop (p + 1))) := by
    conv => lhs; rw [e1]
    rw [val_append, val, List.length_cons, hl]
  have v2 : val (l.set p d) = val (l.take p) * 10 ^ (l.length - 1 - p + 1) + (dv d * 10 ^ (l.length - 1 - p) + val (l.drop (p + 1))) := by
    rw [e2, val_append, val, List.length_cons, hl]
  rw [v1, v2]
  push_cast
  rw [Int.sub_mul]
  omega

/-- A signed canonical number: no negative zero. -/
def Res (x : Int) (neg : Bool) (d : List UInt8) : Prop := Can d ∧ (if neg then -(val d : Int) else (val d : Int)) = x ∧ (neg = true → d ≠ [])
theorem Res.unique {x : Int} {n n' : Bool} {d d' : List UInt8} (h : Res x n d) (k : Res x n' d') : n = n' ∧ d = d' := by
  obtain ⟨c1, e1, z1⟩ := h
  obtain ⟨c2, e2, z2⟩ := k
  cases n <;> cases n' <;> simp at e1 e2
  · exact ⟨rfl, val_inj c1 c2 (by omega)⟩
  · exfalso; exact z2 rfl (can_zero c2 (by omega))
  · exfalso; exact z1 rfl (can_zero c1 (by omega))
  · exact ⟨rfl, val_inj c1 c2 (by omega)⟩
end Go.Proofs.Qxb6606039aDoor
