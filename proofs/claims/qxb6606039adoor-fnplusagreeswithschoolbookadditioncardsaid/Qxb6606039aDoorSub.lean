import Derived.Test.Qxb6606039aDoorAdd
namespace Go.Proofs.Qxb6606039aDoor
open Go.RowKit

set_option maxHeartbeats 2000000 in
set_option maxRecDepth 100000 in
/-- zzSubMag. -/
theorem sub_any (a b : ByteArray) (w : World) (ha : a.size ≤ 1048600) (DA : Hid (Dig a.data.toList)) (DB : Hid (Dig b.data.toList)) (hl : b.size ≤ a.size) (hv : Hid (val b.data.toList ≤ val a.data.toList)) :
    Calls Tryd.prog 17 #[.string a, .string b] w fun e w' => (∃ d : ByteArray, e = .returned (.string d) ∧ Can d.data.toList ∧ val d.data.toList = val a.data.toList - val b.data.toList) ∧ Below w.heap.size w w' := by
  go_enter Tryd.func17, Tryd.ntmps17
  go_wp2_with (at_make; refine step_make rfl (.tmp 15) rfl _ a.size rfl (by omega) (by omega) ?_; intro w1 HR1 HB1)
  go_loopw [8, 9] (fun vc vk wr => ∃ (k c : Nat) (cur : List UInt8), k ≤ a.size ∧ vk = .int .i64 k ∧ vc = .int .i64 c ∧ Hid (SubInv a.data.toList b.data.toList k c cur) ∧ Hid (RowC 5 w.heap.size cur wr) ∧ Hid (Below w.heap.size w wr)) (fun _ vk _ => a.size - (intOf vk).toNat)
  case atStart => exact ⟨0, 0, _, Nat.zero_le _, rfl, rfl, SubInv.start _ _, by have := HR1.out; rw [Lib.size_eq] at this; exact this, HB1⟩
  case round =>
    obtain ⟨k, c, cur, hkn, rfl, rfl, HI, HR, HB⟩ := hrel
    have hc1 := HI.out.small
    have HL : Hid (cur.length = a.size) := by rw [Lib.size_eq]; exact HI.out.len
    by_cases hlt : k < a.size
    · obtain ⟨i, hi, ei, l1, l2, l3⟩ := dig_here DA.out k hlt
      have hpl : i < cur.length := by rw [HL.out]; omega
      obtain ⟨u, HC⟩ : ∃ u, wr.cell? ⟨w.heap.size, i, none⟩ = some (.int .u8 u) := ⟨_, HR.out.cell i hpl⟩
      have HF := HR.out.free i hpl
      have HP : Hid (a.data.toList.length - 1 - k = i) := by show _ = _; rw [← Lib.size_eq]; omega
      have HLT : Hid (k < a.data.toList.length) := by show _ < _; rw [← Lib.size_eq]; exact hlt
      have HX := digAt_le DA.out k
      obtain ⟨X, hX⟩ : ∃ X, digAt a.data.toList k = X := ⟨_, rfl⟩
      have HXE : Hid (digAt a.data.toList k = X) := hX
      rw [hX] at l3 HX
      clear hpl hX l1 l2
      by_cases h2 : k < b.size
      · obtain ⟨j, hj, ej, m1, m2, m3⟩ := dig_here DB.out k h2
        have HY := digAt_le DB.out k
        obtain ⟨Y, hY⟩ : ∃ Y, digAt b.data.toList k = Y := ⟨_, rfl⟩
        have HYE : Hid (digAt b.data.toList k = Y) := hY
        rw [hY] at m3 HY
        clear hY m1 m2
        by_cases hneg : X < Y + c
        · go_wp2
          go_roundw
          case rel =>
            refine ⟨k + 1, 1, cur.set i (dig (X + 10 - Y - c)), by omega, by go_num, rfl, ?_, ?_, HB.out.setCell (Nat.le_refl _) _⟩
            · rw [← HP.out]; exact HI.out.step HLT.out _ 1 (by omega) (by omega) (by rw [HXE.out, HYE.out]; omega)
            · exact HR.out.step _ _ _ (by rw [dig_toNat (by omega)]; omega)
          case measure => simp [intOf]; omega
        · go_wp2
          go_roundw
          case rel =>
            refine ⟨k + 1, 0, cur.set i (dig (X - Y - c)), by omega, by go_num, rfl, ?_, ?_, HB.out.setCell (Nat.le_refl _) _⟩
            · rw [← HP.out]; exact HI.out.step HLT.out _ 0 (by omega) (by omega) (by rw [HXE.out, HYE.out]; omega)
            · exact HR.out.step _ _ _ (by rw [dig_toNat (by omega)]; omega)
          case measure => simp [intOf]; omega
      · have HYE : Hid (digAt b.data.toList k = 0) := dif_neg (by rw [← Lib.size_eq]; exact h2)
        by_cases hneg : X < c
        · go_wp2
          go_roundw
          case rel =>
            refine ⟨k + 1, 1, cur.set i (dig (X + 10 - c)), by omega, by go_num, rfl, ?_, ?_, HB.out.setCell (Nat.le_refl _) _⟩
            · rw [← HP.out]; exact HI.out.step HLT.out _ 1 (by omega) (by omega) (by rw [HXE.out, HYE.out]; omega)
            · exact HR.out.step _ _ _ (by rw [dig_toNat (by omega)]; omega)
          case measure => simp [intOf]; omega
        · go_wp2
          go_roundw
          case rel =>
            refine ⟨k + 1, 0, cur.set i (dig (X - c)), by omega, by go_num, rfl, ?_, ?_, HB.out.setCell (Nat.le_refl _) _⟩
            · rw [← HP.out]; exact HI.out.step HLT.out _ 0 (by omega) (by omega) (by rw [HXE.out, HYE.out]; omega)
            · exact HR.out.step _ _ _ (by rw [dig_toNat (by omega)]; omega)
          case measure => simp [intOf]; omega
    · obtain rfl : k = a.size := by omega
      have HD : Hid (Dig cur ∧ val cur = val a.data.toList - val b.data.toList) := by
        have := HI.out
        rw [Lib.size_eq] at this
        exact this.done (by rw [← Lib.size_eq, ← Lib.size_eq]; exact hl) hv.out
      have hcv : (convert 34 9 (.slice (some ⟨w.heap.size, 0, none⟩) a.size a.size)).run Tryd.prog wr = .ok (.string ⟨cur.toArray⟩) wr := HR.out.conv 0 (Nat.zero_le _) _ _ (by rw [HL.out]; rfl)
      have hsz : Hid ((⟨cur.toArray⟩ : ByteArray).size ≤ 2000000) := by show _ ≤ _; have := HL.out; rw [Lib.size_eq]; simp; omega
      go_wp2_with (go_at_call 24; refine (trimZ_any _ _ hsz.out).mono ?_; rintro e w' ⟨rfl, rfl⟩)
      go_ret
      exact ⟨⟨_, rfl, trim0_can HD.out.1, by rw [trim0_val]; exact HD.out.2⟩, HB.out⟩
end Go.Proofs.Qxb6606039aDoor
