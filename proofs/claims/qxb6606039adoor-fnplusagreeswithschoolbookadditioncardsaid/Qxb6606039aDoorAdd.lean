import Derived.Test.Qxb6606039aDoorRow
import Derived.Test.Qxb6606039aDoorAddPlain
namespace Go.Proofs.Qxb6606039aDoor
open Go.RowKit

/-- The byte at the place that the loop reads. -/
theorem dig_here {s : ByteArray} (hD : Dig s.data.toList) (k : Nat) (hk : k < s.size) :
    ∃ i, ∃ hi : i < s.size, ((s.size : Int) - 1 - (k : Int)) = (i : Int) ∧ 48 ≤ ((s[i]).toNat : Int) ∧ ((s[i]).toNat : Int) ≤ 57 ∧ ((s[i]).toNat : Int) = (digAt s.data.toList k : Int) + 48 := by
  refine ⟨s.size - 1 - k, by omega, by omega, ?_⟩
  have hd := dig_all hD (s.size - 1 - k) (by omega)
  have hl := Lib.size_eq s
  have e : digAt s.data.toList k = dv (s[s.size - 1 - k]'(by omega)) := by
    unfold digAt
    rw [dif_pos (by omega)]
    congr 1
  rw [e]
  unfold isDig at hd
  unfold dv
  omega

set_option maxHeartbeats 2000000 in
set_option maxRecDepth 100000 in
theorem add_l (a b : ByteArray) (w : World) (ha : a.size ≤ 1048600) (hb : b.size ≤ 1048600) (DA : Hid (Dig a.data.toList)) (DB : Hid (Dig b.data.toList)) (hlt0 : a.size < b.size) :
    Calls Tryd.prog 15 #[.string a, .string b] w fun e w' => (∃ d : ByteArray, e = .returned (.string d) ∧ Can d.data.toList ∧ val d.data.toList = val a.data.toList + val b.data.toList) ∧ Below w.heap.size w w' := by
  have hna : a.size ≤ b.size := by omega
  have hnb : b.size ≤ b.size := by omega
  go_enter Tryd.func15, Tryd.ntmps15
  go_wp2_with (at_make; refine step_make rfl (.tmp 22) rfl _ (b.size + 1) rfl (by omega) (by omega) ?_; intro w1 HR1 HB1)
  go_loopw [9, 10] (fun vc vk wr => ∃ (k c : Nat) (cur : List UInt8), vk = .int .i64 k ∧ vc = .int .i64 c ∧ Hid (AddInv a.data.toList b.data.toList b.size k c cur) ∧ Hid (RowC 5 w.heap.size cur wr) ∧ Hid (Below w.heap.size w wr)) (fun _ vk _ => b.size - (intOf vk).toNat)
  case atStart => exact ⟨0, 0, _, rfl, rfl, AddInv.start _ _ _, HR1, HB1⟩
  case round =>
    obtain ⟨k, c, cur, rfl, rfl, HI, HR, HB⟩ := hrel
    have hkn := HI.out.le
    have hc1 := HI.out.small
    have HL : Hid (cur.length = b.size + 1) := HI.out.len
    by_cases hlt : k < b.size
    · obtain ⟨p, hp⟩ : ∃ p, b.size - k = p := ⟨_, rfl⟩
      have hpl : p < cur.length := by rw [HL.out]; omega
      obtain ⟨u, HC⟩ : ∃ u, wr.cell? ⟨w.heap.size, p, none⟩ = some (.int .u8 u) := ⟨_, HR.out.cell p hpl⟩
      have HF := HR.out.free p hpl
      have hpos : ((b.size : Int) - (k : Int)) = (p : Int) := by omega
      have hposlt : p < b.size + 1 := by omega
      have HP : Hid (b.size - k = p) := hp
      clear hp hpl
      by_cases h1 : k < a.size
      · obtain ⟨i, hi, ei, l1, l2, l3⟩ := dig_here DA.out k h1
        have HX : Hid (((a[i]).toNat : Int) = (digAt a.data.toList k : Int) + 48) := l3
        clear l3
        by_cases h2 : k < b.size
        · obtain ⟨j, hj, ej, m1, m2, m3⟩ := dig_here DB.out k h2
          have HY : Hid (((b[j]).toNat : Int) = (digAt b.data.toList k : Int) + 48) := m3
          clear m3
          go_wp2
          go_roundw
          case rel =>
            have x1 := HX.out; have y1 := HY.out; have p1 := HP.out
            have q1 := digAt_le DA.out k; have q2 := digAt_le DB.out k
            refine ⟨k + 1, (c + digAt a.data.toList k + digAt b.data.toList k) / 10, cur.set p (dig ((c + digAt a.data.toList k + digAt b.data.toList k) % 10)), by go_num, ?_, ?_, ?_, HB.out.setCell (Nat.le_refl _) _⟩
            · exact congrArg (Value.int .i64) (by omega)
            · rw [← p1]; exact HI.out.step DA.out DB.out hlt _ rfl
            · exact HR.out.step _ _ _ (by rw [dig_toNat (by omega)]; omega)
          case measure => simp [intOf]; omega
        · exfalso; omega
      · have HX : Hid (digAt a.data.toList k = 0) := dif_neg (by rw [← Lib.size_eq]; exact h1)
        have h2 : k < b.size := by omega
        obtain ⟨j, hj, ej, m1, m2, m3⟩ := dig_here DB.out k h2
        have HY : Hid (((b[j]).toNat : Int) = (digAt b.data.toList k : Int) + 48) := m3
        clear m3
        go_wp2
        go_roundw
        case rel =>
          have x1 := HX.out; have y1 := HY.out; have p1 := HP.out
          have q1 := digAt_le DA.out k; have q2 := digAt_le DB.out k
          refine ⟨k + 1, (c + digAt a.data.toList k + digAt b.data.toList k) / 10, cur.set p (dig ((c + digAt a.data.toList k + digAt b.data.toList k) % 10)), by go_num, ?_, ?_, ?_, HB.out.setCell (Nat.le_refl _) _⟩
          · exact congrArg (Value.int .i64) (by omega)
          · rw [← p1]; exact HI.out.step DA.out DB.out hlt _ rfl
          · exact HR.out.step _ _ _ (by rw [dig_toNat (by omega)]; omega)
        case measure => simp [intOf]; omega
    · obtain rfl : k = b.size := by omega
      have hpl : 0 < cur.length := by rw [HL.out]; omega
      obtain ⟨u, HC⟩ : ∃ u, wr.cell? ⟨w.heap.size, 0, none⟩ = some (.int .u8 u) := ⟨_, HR.out.cell 0 hpl⟩
      have HF := HR.out.free 0 hpl
      have HD : Hid (Dig (cur.set 0 (dig c)) ∧ val (cur.set 0 (dig c)) = val a.data.toList + val b.data.toList) := HI.out.done (by rw [← Lib.size_eq]; exact hna) (by rw [← Lib.size_eq]; exact hnb)
      have HR2 : RowC 5 w.heap.size (cur.set 0 (dig c)) (wr.setCell ⟨w.heap.size, 0, none⟩ (.int .u8 (48 + (c : Int)))) := HR.out.step 0 _ _ (by rw [dig_toNat (by omega)]; omega)
      have hcv : (convert 34 9 (.slice (some ⟨w.heap.size, 0, none⟩) (b.size + 1) (b.size + 1))).run Tryd.prog (wr.setCell ⟨w.heap.size, 0, none⟩ (.int .u8 (48 + (c : Int)))) = .ok (.string ⟨(cur.set 0 (dig c)).toArray⟩) (wr.setCell ⟨w.heap.size, 0, none⟩ (.int .u8 (48 + (c : Int)))) := HR2.conv 0 (Nat.zero_le _) _ _ (by rw [List.length_set, HL.out]; rfl)
      have hsz : Hid ((⟨(cur.set 0 (dig c)).toArray⟩ : ByteArray).size ≤ 2000000) := by show _ ≤ _; have := HL.out; rw [Lib.size_eq]; simp; omega
      clear hpl HR2
      go_wp2_with (go_at_call 24; refine (trimZ_any _ _ hsz.out).mono ?_; rintro e w' ⟨rfl, rfl⟩)
      go_ret
      exact ⟨⟨_, rfl, trim0_can HD.out.1, by rw [trim0_val]; exact HD.out.2⟩, HB.out.setCell (Nat.le_refl _) _⟩

set_option maxHeartbeats 2000000 in
set_option maxRecDepth 100000 in
theorem add_r (a b : ByteArray) (w : World) (ha : a.size ≤ 1048600) (hb : b.size ≤ 1048600) (DA : Hid (Dig a.data.toList)) (DB : Hid (Dig b.data.toList)) (hlt0 : ¬ a.size < b.size) :
    Calls Tryd.prog 15 #[.string a, .string b] w fun e w' => (∃ d : ByteArray, e = .returned (.string d) ∧ Can d.data.toList ∧ val d.data.toList = val a.data.toList + val b.data.toList) ∧ Below w.heap.size w w' := by
  have hna : a.size ≤ a.size := by omega
  have hnb : b.size ≤ a.size := by omega
  go_enter Tryd.func15, Tryd.ntmps15
  go_wp2_with (at_make; refine step_make rfl (.tmp 22) rfl _ (a.size + 1) rfl (by omega) (by omega) ?_; intro w1 HR1 HB1)
  go_loopw [9, 10] (fun vc vk wr => ∃ (k c : Nat) (cur : List UInt8), vk = .int .i64 k ∧ vc = .int .i64 c ∧ Hid (AddInv a.data.toList b.data.toList a.size k c cur) ∧ Hid (RowC 5 w.heap.size cur wr) ∧ Hid (Below w.heap.size w wr)) (fun _ vk _ => a.size - (intOf vk).toNat)
  case atStart => exact ⟨0, 0, _, rfl, rfl, AddInv.start _ _ _, HR1, HB1⟩
  case round =>
    obtain ⟨k, c, cur, rfl, rfl, HI, HR, HB⟩ := hrel
    have hkn := HI.out.le
    have hc1 := HI.out.small
    have HL : Hid (cur.length = a.size + 1) := HI.out.len
    by_cases hlt : k < a.size
    · obtain ⟨p, hp⟩ : ∃ p, a.size - k = p := ⟨_, rfl⟩
      have hpl : p < cur.length := by rw [HL.out]; omega
      obtain ⟨u, HC⟩ : ∃ u, wr.cell? ⟨w.heap.size, p, none⟩ = some (.int .u8 u) := ⟨_, HR.out.cell p hpl⟩
      have HF := HR.out.free p hpl
      have hpos : ((a.size : Int) - (k : Int)) = (p : Int) := by omega
      have hposlt : p < a.size + 1 := by omega
      have HP : Hid (a.size - k = p) := hp
      clear hp hpl
      by_cases h1 : k < a.size
      · obtain ⟨i, hi, ei, l1, l2, l3⟩ := dig_here DA.out k h1
        have HX : Hid (((a[i]).toNat : Int) = (digAt a.data.toList k : Int) + 48) := l3
        clear l3
        by_cases h2 : k < b.size
        · obtain ⟨j, hj, ej, m1, m2, m3⟩ := dig_here DB.out k h2
          have HY : Hid (((b[j]).toNat : Int) = (digAt b.data.toList k : Int) + 48) := m3
          clear m3
          go_wp2
          go_roundw
          case rel =>
            have x1 := HX.out; have y1 := HY.out; have p1 := HP.out
            have q1 := digAt_le DA.out k; have q2 := digAt_le DB.out k
            refine ⟨k + 1, (c + digAt a.data.toList k + digAt b.data.toList k) / 10, cur.set p (dig ((c + digAt a.data.toList k + digAt b.data.toList k) % 10)), by go_num, ?_, ?_, ?_, HB.out.setCell (Nat.le_refl _) _⟩
            · exact congrArg (Value.int .i64) (by omega)
            · rw [← p1]; exact HI.out.step DA.out DB.out hlt _ rfl
            · exact HR.out.step _ _ _ (by rw [dig_toNat (by omega)]; omega)
          case measure => simp [intOf]; omega
        · have HY : Hid (digAt b.data.toList k = 0) := dif_neg (by rw [← Lib.size_eq]; exact h2)
          go_wp2
          go_roundw
          case rel =>
            have x1 := HX.out; have y1 := HY.out; have p1 := HP.out
            have q1 := digAt_le DA.out k; have q2 := digAt_le DB.out k
            refine ⟨k + 1, (c + digAt a.data.toList k + digAt b.data.toList k) / 10, cur.set p (dig ((c + digAt a.data.toList k + digAt b.data.toList k) % 10)), by go_num, ?_, ?_, ?_, HB.out.setCell (Nat.le_refl _) _⟩
            · exact congrArg (Value.int .i64) (by omega)
            · rw [← p1]; exact HI.out.step DA.out DB.out hlt _ rfl
            · exact HR.out.step _ _ _ (by rw [dig_toNat (by omega)]; omega)
          case measure => simp [intOf]; omega
      · exfalso; omega
    · obtain rfl : k = a.size := by omega
      have hpl : 0 < cur.length := by rw [HL.out]; omega
      obtain ⟨u, HC⟩ : ∃ u, wr.cell? ⟨w.heap.size, 0, none⟩ = some (.int .u8 u) := ⟨_, HR.out.cell 0 hpl⟩
      have HF := HR.out.free 0 hpl
      have HD : Hid (Dig (cur.set 0 (dig c)) ∧ val (cur.set 0 (dig c)) = val a.data.toList + val b.data.toList) := HI.out.done (by rw [← Lib.size_eq]; exact hna) (by rw [← Lib.size_eq]; exact hnb)
      have HR2 : RowC 5 w.heap.size (cur.set 0 (dig c)) (wr.setCell ⟨w.heap.size, 0, none⟩ (.int .u8 (48 + (c : Int)))) := HR.out.step 0 _ _ (by rw [dig_toNat (by omega)]; omega)
      have hcv : (convert 34 9 (.slice (some ⟨w.heap.size, 0, none⟩) (a.size + 1) (a.size + 1))).run Tryd.prog (wr.setCell ⟨w.heap.size, 0, none⟩ (.int .u8 (48 + (c : Int)))) = .ok (.string ⟨(cur.set 0 (dig c)).toArray⟩) (wr.setCell ⟨w.heap.size, 0, none⟩ (.int .u8 (48 + (c : Int)))) := HR2.conv 0 (Nat.zero_le _) _ _ (by rw [List.length_set, HL.out]; rfl)
      have hsz : Hid ((⟨(cur.set 0 (dig c)).toArray⟩ : ByteArray).size ≤ 2000000) := by show _ ≤ _; have := HL.out; rw [Lib.size_eq]; simp; omega
      clear hpl HR2
      go_wp2_with (go_at_call 24; refine (trimZ_any _ _ hsz.out).mono ?_; rintro e w' ⟨rfl, rfl⟩)
      go_ret
      exact ⟨⟨_, rfl, trim0_can HD.out.1, by rw [trim0_val]; exact HD.out.2⟩, HB.out.setCell (Nat.le_refl _) _⟩

/-- zzAddMag. -/
theorem add_any (a b : ByteArray) (w : World) (ha : a.size ≤ 1048600) (hb : b.size ≤ 1048600) (hA : Dig a.data.toList) (hB : Dig b.data.toList) :
    Calls Tryd.prog 15 #[.string a, .string b] w fun e w' => (∃ d : ByteArray, e = .returned (.string d) ∧ Can d.data.toList ∧ val d.data.toList = val a.data.toList + val b.data.toList) ∧ Below w.heap.size w w' := by
  by_cases h : a.size < b.size
  · exact add_l a b w ha hb hA hB h
  · exact add_r a b w ha hb hA hB h
end Go.Proofs.Qxb6606039aDoor
