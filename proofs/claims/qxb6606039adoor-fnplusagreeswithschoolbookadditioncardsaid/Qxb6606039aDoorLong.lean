import Derived.Test.Qxb6606039aDoorPlus
import Derived.Deep.RegionWith
import Derived.Deep.DeepCutAuto
namespace Go.Proofs.Qxb6606039aDoor
open Go.RowKit

/-- What plus's loop holds with p digits to go and carry c. -/
structure PlInv (D : List UInt8) (M : Int) (p : Nat) (c : Int) (cur : List UInt8) : Prop where
  len : cur.length = D.length
  le : p ≤ D.length
  digs : Dig cur
  sum : (val cur : Int) + c * 10 ^ (D.length - p) = (val D : Int) + M
theorem PlInv.start {D : List UInt8} (h : Dig D) (M : Int) : PlInv D M D.length M D := ⟨rfl, Nat.le_refl _, h, by simp⟩
theorem PlInv.step {D : List UInt8} {M : Int} {p : Nat} {c : Int} {cur : List UInt8} (h : PlInv D M (p + 1) c cur) (hp : p < cur.length) (g : Nat) (c' : Int) (hg : g ≤ 9) (hx : (dv (cur[p]) : Int) + c = g + 10 * c') :
    PlInv D M p c' (cur.set p (dig g)) := by
  have hl := h.len
  have hle := h.le
  refine ⟨by simpa using hl, by omega, fun x hx => ?_, ?_⟩
  · rcases List.mem_or_eq_of_mem_set hx with hx | rfl
    · exact h.digs x hx
    · exact dig_is hg
  · have hs := h.sum
    rw [val_set cur p (dig g) hp, dig_dv hg, hl, show D.length - p = D.length - 1 - p + 1 by omega, Int.pow_succ]
    rw [show D.length - (p + 1) = D.length - 1 - p by omega] at hs
    generalize (10 : Int) ^ (D.length - 1 - p) = P at *
    have e : ((g : Int) - (dv cur[p] : Int)) * P + c' * (P * 10) = c * P := by
      have : c = (g : Int) + 10 * c' - (dv cur[p] : Int) := by omega
      rw [this, Int.mul_comm P 10, ← Int.mul_assoc, Int.mul_comm c' 10, ← Int.add_mul]
      congr 1
      omega
    rw [Int.add_assoc, e]
    exact hs
/-- The digits behind the loop, the carry laid ahead of them. -/
theorem PlInv.done {D : List UInt8} {M : Int} {p : Nat} {c : Int} {cur : List UInt8} (h : PlInv D M p c cur) (hpos : 0 < (val D : Int) + M) (he : p = 0 ∨ c = 0) :
    (0 < c → (val (Lib.itoa c ++ cur) : Int) = (val D : Int) + M ∧ Dig (Lib.itoa c ++ cur)) ∧ (¬ 0 < c → (val cur : Int) = (val D : Int) + M) := by
  have hs := h.sum
  have hv := val_lt h.digs
  rw [h.len] at hv
  refine ⟨fun hc => ?_, fun hc => ?_⟩
  · obtain rfl : p = 0 := by omega
    obtain ⟨d1, d2, _⟩ := dec_facts c.toNat
    rw [itoa_pos_eq (by omega), val_append, d2, h.len]
    refine ⟨?_, d1.append h.digs⟩
    rw [Nat.sub_zero] at hs
    push_cast
    rw [Int.toNat_of_nonneg (by omega)]
    omega
  · rcases Int.lt_trichotomy c 0 with h0 | h0 | h0
    · exfalso
      obtain rfl : p = 0 := by omega
      rw [Nat.sub_zero] at hs
      have h1 : c * 10 ^ D.length ≤ (-1) * 10 ^ D.length := Int.mul_le_mul_of_nonneg_right (by omega) (Int.le_of_lt (Int.pow_pos (by decide)))
      have h2 : (val cur : Int) < 10 ^ D.length := by exact_mod_cast hv
      omega
    · rw [h0] at hs; simpa using hs
    · exact absurd h0 hc

theorem row_bytes (w : World) (d : ByteArray) : RowC 5 w.heap.size d.data.toList (Lib.bytesWorld w 5 d) := by
  refine ⟨⟨_, _, Lib.bytesWorld_at_new w 5 d, ?_⟩, fun j hj => ?_⟩
  · simp [Lib.bytesCells, Lib.byteCells]
  · simp [World.frozen?, Lib.bytesWorld_at_new w 5 d]
    intro h
    have : d.size ≤ (Lib.bytesCells w 5 d).size := by simp [Lib.bytesCells]
    rw [← Lib.size_eq] at hj
    omega
theorem big_val {D : List UInt8} (h : Can D) (hl : 18 < D.length) : (1000000000000000000 : Int) ≤ (val D : Int) := by
  cases D with
  | nil => simp at hl
  | cons c l =>
    have h1 := val_ge h
    have h2 : 10 ^ 18 ≤ 10 ^ l.length := Nat.pow_le_pow_right (by decide) (by simp at hl; omega)
    have h3 : (10 : Nat) ^ 18 = 1000000000000000000 := by decide
    omega
end Go.Proofs.Qxb6606039aDoor
