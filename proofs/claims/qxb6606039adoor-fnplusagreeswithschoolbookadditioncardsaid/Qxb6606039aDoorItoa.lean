import Derived.Test.Qxb6606039aDoorSub
namespace Go.Proofs.Qxb6606039aDoor
open Go.RowKit

structure ItInv (N k m : Nat) (cur : List UInt8) : Prop where
  len : cur.length = 20
  le : k ≤ 20
  digs : Dig (cur.drop k)
  sum : val (cur.drop k) + m * 10 ^ (20 - k) = N
  head : m = 0 → (cur.drop k).head? ≠ some 48
theorem ItInv.start (N : Nat) : ItInv N 20 N (List.replicate 20 0) := ⟨rfl, Nat.le_refl _, fun _ h => (by cases h), by simp [val], by simp⟩
theorem ItInv.pos {N k m : Nat} {cur : List UInt8} (h : ItInv N k m cur) (hN : N < 10 ^ 18) (hm : 0 < m) : 3 ≤ k := by
  rcases Nat.lt_or_ge k 3 with hk | hk
  · exfalso
    have h1 := h.sum
    have h2 : 10 ^ 18 ≤ 10 ^ (20 - k) := Nat.pow_le_pow_right (by decide) (by omega)
    have h3 : 1 * 10 ^ (20 - k) ≤ m * 10 ^ (20 - k) := Nat.mul_le_mul_right _ hm
    omega
  · exact hk
theorem ItInv.step {N k m : Nat} {cur : List UInt8} (h : ItInv N k m cur) (hk : 1 ≤ k) (hm : 0 < m) : ItInv N (k - 1) (m / 10) (cur.set (k - 1) (dig (m % 10))) := by
  have hle := h.le
  have e1 : (cur.set (k - 1) (dig (m % 10))).drop (k - 1) = dig (m % 10) :: cur.drop k := by
    rw [drop_set _ _ _ (by rw [h.len]; omega), show k - 1 + 1 = k by omega]
  have e2 : (cur.drop k).length = 20 - k := by rw [List.length_drop, h.len]
  refine ⟨by simpa using h.len, by omega, ?_, ?_, ?_⟩
  · rw [e1]; exact Dig.cons (dig_is (by omega)) h.digs
  · rw [e1, val, e2, dig_dv (by omega), show 20 - (k - 1) = 20 - k + 1 by omega, Nat.pow_succ]
    have h1 := h.sum
    generalize 10 ^ (20 - k) = P at *
    have h2 : m = 10 * (m / 10) + m % 10 := by omega
    have h3 : m * P = m / 10 * (P * 10) + m % 10 * P := by
      conv => lhs; rw [h2]
      rw [Nat.add_mul, Nat.mul_comm P 10, ← Nat.mul_assoc, Nat.mul_comm (m / 10) 10]
    omega
  · intro h0
    rw [e1]
    simp only [List.head?_cons]
    intro e
    have h1 : dig (m % 10) = 48 := Option.some.inj e
    have h2 := dig_toNat (d := m % 10) (by omega)
    rw [h1] at h2
    have h3 : (48 : UInt8).toNat = 48 := rfl
    omega
theorem ItInv.done {N k : Nat} {cur : List UInt8} (h : ItInv N k 0 cur) : Can (cur.drop k) ∧ val (cur.drop k) = N := by
  have := h.sum
  exact ⟨⟨h.digs, h.head rfl⟩, by omega⟩

theorem zeros_row (w : World) : RowC 33 w.heap.size (List.replicate 20 0) (w.alloc (.cells #[.int .u8 0, .int .u8 0, .int .u8 0, .int .u8 0, .int .u8 0, .int .u8 0, .int .u8 0, .int .u8 0, .int .u8 0, .int .u8 0, .int .u8 0, .int .u8 0, .int .u8 0, .int .u8 0, .int .u8 0, .int .u8 0, .int .u8 0, .int .u8 0, .int .u8 0, .int .u8 0] 33)) :=
  ⟨⟨_, (0, 0), by simp [World.alloc, -World.alloc_eq]; rfl, rfl⟩, fun j _ => by simp⟩

theorem slice_buf (w : World) (B k : Nat) (hk : k ≤ 20) : (Instr.sliceAt 33 (.pointer (some ⟨B, 0, none⟩)) (some (.int .i64 (k : Int))) none none).run Tryd.prog w = .ok (.slice (some ⟨B, if k = 20 then 0 else k, none⟩) (20 - k) (20 - k)) w := by
  have e1 : Tryd.prog.arrayLen 33 = 20 := by kernel_rfl
  have e2 : Tryd.prog.elem 33 = 5 := by kernel_rfl
  rw [run_sliceAt_array_l w 33 ⟨B, 0, none⟩ (by rw [e1, e2]; exact Tryd.underlying33) .i64 k (by omega) (by rw [e1]; omega), e1, e2, Tryd.sizeOf5]
  simp only [Result.andThen, slicedAt, Nat.mul_one, Int.toNat_natCast]
  by_cases h : k = 20
  · subst h; rfl
  · rw [if_neg (by omega), if_neg h]
    rw [show (⟨B, 0, none⟩ : Addr).add k = ⟨B, k, none⟩ by unfold Addr.add; split <;> simp_all]
theorem conv_buf {B k : Nat} {cur : List UInt8} {w : World} (h : RowC 33 B cur w) (hl : cur.length = 20) (hk : k ≤ 20) : (convert 34 9 (.slice (some ⟨B, if k = 20 then 0 else k, none⟩) (20 - k) (20 - k))).run Tryd.prog w = .ok (.string ⟨(cur.drop k).toArray⟩) w := by
  by_cases e : k = 20
  · subst e
    have : cur.drop 20 = [] := List.drop_eq_nil_iff.2 (by omega)
    rw [this]
    exact run_convert_bytes_back w 34 9 5 ⟨B, 0, none⟩ 0 [] Tryd.underlying34 Tryd.underlying5 Tryd.underlying9 (fun j hj => by simp at hj)
  · rw [if_neg e]
    exact h.conv k (by omega) _ _ (by rw [hl])

set_option maxHeartbeats 1000000 in
set_option maxRecDepth 100000 in
theorem itoa_neg (n : Int) (N : Nat) (w : World) (h1 : -1000000000000000000 < n) (h2 : n < 1000000000000000000) (hn : n < 0) (hN : (N : Int) = -n) :
    Calls Tryd.prog 9 #[.int .i64 n] w fun e w' => (∃ d : ByteArray, e = .returned (.tuple #[.bool true, .string d]) ∧ Can d.data.toList ∧ val d.data.toList = N) ∧ Below w.heap.size w w' := by
  have HN18 : Hid (N < 10 ^ 18) := by show _ < _; omega
  have HNE : Hid ((N : Int) = -n) := hN
  clear hN
  go_enter Tryd.func9, Tryd.ntmps9
  go_wp2
  go_loopw [5, 7] (fun vm vk wr => ∃ (m k : Nat) (cur : List UInt8), m < 1000000000000000000 ∧ k ≤ 20 ∧ vm = .int .u64 m ∧ vk = .int .i64 k ∧ Hid (ItInv N k m cur) ∧ Hid (RowC 33 w.heap.size cur wr) ∧ Hid (Below w.heap.size w wr)) (fun vm _ _ => (intOf vm).toNat)
  case atStart => exact ⟨N, 20, _, by have := HNE.out; omega, by omega, congrArg (Value.int .u64) (by have := HNE.out; omega), rfl, ItInv.start N, zeros_row w, (Below.refl _ w).alloc (Nat.le_refl _) _⟩
  case round =>
    obtain ⟨m, k, cur, hm18, hk20, rfl, rfl, HI, HR, HB⟩ := hrel
    have HL : Hid (cur.length = 20) := HI.out.len
    by_cases hm : 0 < m
    · have hk3 := HI.out.pos HN18.out hm
      have hpl : k - 1 < cur.length := by rw [HL.out]; omega
      obtain ⟨p, hp⟩ : ∃ p, k - 1 = p := ⟨_, rfl⟩
      have hpos : ((k : Int) - 1) = (p : Int) := by omega
      rw [hp] at hpl
      obtain ⟨u, HC⟩ : ∃ u, wr.cell? ⟨w.heap.size, p, none⟩ = some (.int .u8 u) := ⟨_, HR.out.cell p hpl⟩
      have HF := HR.out.free p hpl
      have hp20 : p < 20 := by omega
      have HP : Hid (k - 1 = p) := hp
      clear hp hpl
      go_wp2
      go_roundw
      case rel =>
        refine ⟨m / 10, p, cur.set p (dig (m % 10)), by omega, by omega, by first | rfl | go_num, by first | rfl | go_num, ?_, ?_, HB.out.setCell (Nat.le_refl _) _⟩
        · rw [← HP.out]; exact HI.out.step (by omega) hm
        · exact HR.out.step _ _ _ (by rw [dig_toNat (by omega)]; omega)
      case measure => simp [intOf]; omega
    · obtain rfl : m = 0 := by omega
      have HD := HI.out.done
      have HDD : Hid (Can (cur.drop k) ∧ val (cur.drop k) = N) := HD
      clear HD
      obtain ⟨q, hsl, hcv⟩ : ∃ q, (∀ nq, (Instr.sliceAt 33 (.pointer (some ⟨w.heap.size, 0, none⟩)) (some (.int .i64 (k : Int))) none none).run Tryd.prog (wr.drewN nq) = .ok (.slice (some ⟨w.heap.size, q, none⟩) (20 - k) (20 - k)) (wr.drewN nq)) ∧ ∀ nq, (convert 34 9 (.slice (some ⟨w.heap.size, q, none⟩) (20 - k) (20 - k))).run Tryd.prog (wr.drewN nq) = .ok (.string ⟨(cur.drop k).toArray⟩) (wr.drewN nq) :=
        ⟨_, fun nq => slice_buf _ _ k hk20, fun nq => conv_buf (HR.out.drewN nq) HL.out hk20⟩
      go_wp2_with fail
      go_quiet (fail)
      go_wp2
      go_ret2
      exact ⟨⟨_, rfl, HDD.out.1, HDD.out.2⟩, below_drewN HB.out _⟩

set_option maxHeartbeats 1000000 in
set_option maxRecDepth 100000 in
theorem itoa_pos (n : Int) (N : Nat) (w : World) (h1 : -1000000000000000000 < n) (h2 : n < 1000000000000000000) (hn : ¬ n < 0) (hN : (N : Int) = n) :
    Calls Tryd.prog 9 #[.int .i64 n] w fun e w' => (∃ d : ByteArray, e = .returned (.tuple #[.bool false, .string d]) ∧ Can d.data.toList ∧ val d.data.toList = N) ∧ Below w.heap.size w w' := by
  have HN18 : Hid (N < 10 ^ 18) := by show _ < _; omega
  have HNE : Hid ((N : Int) = n) := hN
  clear hN
  go_enter Tryd.func9, Tryd.ntmps9
  go_wp2
  go_loopw [5, 7] (fun vm vk wr => ∃ (m k : Nat) (cur : List UInt8), m < 1000000000000000000 ∧ k ≤ 20 ∧ vm = .int .u64 m ∧ vk = .int .i64 k ∧ Hid (ItInv N k m cur) ∧ Hid (RowC 33 w.heap.size cur wr) ∧ Hid (Below w.heap.size w wr)) (fun vm _ _ => (intOf vm).toNat)
  case atStart => exact ⟨N, 20, _, by have := HNE.out; omega, by omega, congrArg (Value.int .u64) (by have := HNE.out; omega), rfl, ItInv.start N, zeros_row w, (Below.refl _ w).alloc (Nat.le_refl _) _⟩
  case round =>
    obtain ⟨m, k, cur, hm18, hk20, rfl, rfl, HI, HR, HB⟩ := hrel
    have HL : Hid (cur.length = 20) := HI.out.len
    by_cases hm : 0 < m
    · have hk3 := HI.out.pos HN18.out hm
      have hpl : k - 1 < cur.length := by rw [HL.out]; omega
      obtain ⟨p, hp⟩ : ∃ p, k - 1 = p := ⟨_, rfl⟩
      have hpos : ((k : Int) - 1) = (p : Int) := by omega
      rw [hp] at hpl
      obtain ⟨u, HC⟩ : ∃ u, wr.cell? ⟨w.heap.size, p, none⟩ = some (.int .u8 u) := ⟨_, HR.out.cell p hpl⟩
      have HF := HR.out.free p hpl
      have hp20 : p < 20 := by omega
      have HP : Hid (k - 1 = p) := hp
      clear hp hpl
      go_wp2
      go_roundw
      case rel =>
        refine ⟨m / 10, p, cur.set p (dig (m % 10)), by omega, by omega, by first | rfl | go_num, by first | rfl | go_num, ?_, ?_, HB.out.setCell (Nat.le_refl _) _⟩
        · rw [← HP.out]; exact HI.out.step (by omega) hm
        · exact HR.out.step _ _ _ (by rw [dig_toNat (by omega)]; omega)
      case measure => simp [intOf]; omega
    · obtain rfl : m = 0 := by omega
      have HD := HI.out.done
      have HDD : Hid (Can (cur.drop k) ∧ val (cur.drop k) = N) := HD
      clear HD
      obtain ⟨q, hsl, hcv⟩ : ∃ q, (∀ nq, (Instr.sliceAt 33 (.pointer (some ⟨w.heap.size, 0, none⟩)) (some (.int .i64 (k : Int))) none none).run Tryd.prog (wr.drewN nq) = .ok (.slice (some ⟨w.heap.size, q, none⟩) (20 - k) (20 - k)) (wr.drewN nq)) ∧ ∀ nq, (convert 34 9 (.slice (some ⟨w.heap.size, q, none⟩) (20 - k) (20 - k))).run Tryd.prog (wr.drewN nq) = .ok (.string ⟨(cur.drop k).toArray⟩) (wr.drewN nq) :=
        ⟨_, fun nq => slice_buf _ _ k hk20, fun nq => conv_buf (HR.out.drewN nq) HL.out hk20⟩
      go_wp2_with fail
      go_quiet (fail)
      go_wp2
      go_ret2
      exact ⟨⟨_, rfl, HDD.out.1, HDD.out.2⟩, below_drewN HB.out _⟩

end Go.Proofs.Qxb6606039aDoor
