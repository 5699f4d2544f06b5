import Derived.Test.Qxb6606039aDoorLong
import Derived.Lib.ItoaLen
namespace Go.Proofs.Qxb6606039aDoor
open Go.RowKit

theorem fmt_some (x : Int) (h0 : -9223372036854775808 ≤ x) (h1 : x ≤ 9223372036854775807) : ∃ I : ByteArray, I.data.toList = Lib.itoa x ∧ I.size ≤ 21 ∧ ∀ w, Tab w → Calls Tryd.prog 22 #[.int .i64 x, .int .i64 10] w fun e w' => e = .returned (.string I) ∧ Below w.heap.size w w' :=
  ⟨⟨(Lib.itoa x).toArray⟩, ofList_data _, by rw [Lib.size_eq, ofList_data]; exact Lib.itoa_length_le x h0 h1, fun w ht => fmt_any x w h0 h1 ht⟩
theorem trimL_any (s : ByteArray) (w : World) : Calls Tryd.prog 23 #[.string s, .string ⟨#[48]⟩] w fun e w' => e = .returned (.string ⟨(trim0 s.data.toList).toArray⟩) ∧ w' = w := Tryd.strings_TrimLeft_one s 48 (by decide) w
theorem tm10 (x : Int) : x.tmod 10 = if 0 ≤ x then x % 10 else -((-x) % 10) := by
  split
  · rename_i h; exact Int.tmod_eq_emod_of_nonneg h
  · rename_i h
    have : x.tmod 10 = -((-x).tmod 10) := by rw [Int.neg_tmod]; simp
    rw [this, Int.tmod_eq_emod_of_nonneg (by omega)]
theorem td10 (x : Int) (h : x % 10 = 0) : x.tdiv 10 = x / 10 := by
  rw [Int.tdiv_eq_ediv_of_dvd (Int.dvd_of_emod_eq_zero h)]
theorem dg_eq (x : Int) : (wrap64 (x.tmod 10 + 10)).tmod 10 = x % 10 := by
  have e : wrap64 (x.tmod 10 + 10) = x.tmod 10 + 10 := by
    rw [tm10]; unfold wrap64; split <;> omega
  rw [e, tm10 x]
  split
  · rw [tm10, if_pos (by omega)]; omega
  · rw [tm10, if_pos (by omega)]; omega
theorem cy_eq (x : Int) (h1 : -2000000000000000000 < x) (h2 : x < 2000000000000000000) : wrap64 ((wrap64 (x - (wrap64 (x.tmod 10 + 10)).tmod 10)).tdiv 10) = x / 10 := by
  rw [dg_eq x]
  have e : wrap64 (x - x % 10) = x - x % 10 := by unfold wrap64; omega
  rw [e, td10 _ (by omega)]
  unfold wrap64; omega

set_option maxHeartbeats 1000000 in
set_option maxRecDepth 100000 in
theorem plus_long (q : Bool) (d : ByteArray) (n M : Int) (w : World) (hd : 18 < d.size) (hd2 : d.size ≤ 1048576) (hn1 : -1000000000000000000 < n) (hn2 : n < 1000000000000000000) (hM : M = if q then -n else n)
    (HT : Hid (Tab w)) (HC : Hid (Can d.data.toList)) :
    Calls Tryd.prog 14 #[.agg #[.bool q, .string d], .int .i64 n] w fun e w' => (∃ (r : ByteArray), e = .returned (.agg #[.bool q, .string r]) ∧ Can r.data.toList ∧ (val r.data.toList : Int) = (val d.data.toList : Int) + M) ∧ Below w.heap.size w w' := by
  have h2 := HT.out.lt
  have HM : Hid (M = if q then -n else n) := hM
  clear hM
  have hcv : (convert 9 34 (.string d)).run Tryd.prog ((w.alloc (.cells #[.bool q, .string d] 30)).alloc (.cells #[.bool false, .string ⟨#[]⟩] 30)) = _ := Lib.run_convert_string_bytes _ 9 34 5 d Tryd.underlying9 Tryd.underlying34 Tryd.underlying5
  have HR0 := row_bytes ((w.alloc (.cells #[.bool q, .string d] 30)).alloc (.cells #[.bool false, .string ⟨#[]⟩] 30)) d
  have HB0 := bytes_below ((w.alloc (.cells #[.bool q, .string d] 30)).alloc (.cells #[.bool false, .string ⟨#[]⟩] 30)) d
  generalize grownCap ((w.alloc (.cells #[.bool q, .string d] 30)).alloc (.cells #[.bool false, .string ⟨#[]⟩] 30)) d.size 0 5 = cp at hcv
  generalize Lib.bytesWorld ((w.alloc (.cells #[.bool q, .string d] 30)).alloc (.cells #[.bool false, .string ⟨#[]⟩] 30)) 5 d = W1 at hcv HR0 HB0
  simp only [World.size_alloc] at hcv HR0 HB0
  have HR1 : Hid (RowC 5 (w.heap.size + 1 + 1) d.data.toList W1) := HR0
  have HB1 : Hid (Below (w.heap.size + 1 + 1) ((w.alloc (.cells #[.bool q, .string d] 30)).alloc (.cells #[.bool false, .string ⟨#[]⟩] 30)) W1) := HB0
  clear HR0 HB0
  go_enter Tryd.func14, Tryd.ntmps14
  cases q
  · go_wp2
    clear hcv
    go_loopw [8, 9] (fun vc vk wr => ∃ (p : Nat) (c : Int) (cur : List UInt8), vc = .int .i64 c ∧ vk = .int .i64 ((p : Int) - 1) ∧ -1000000000000000000 < c ∧ c < 1000000000000000000 ∧ p ≤ d.size ∧ Hid (PlInv d.data.toList M p c cur) ∧ Hid (RowC 5 (w.heap.size + 1 + 1) cur wr) ∧ Hid (Below (w.heap.size + 1 + 1) ((w.alloc (.cells #[.bool false, .string d] 30)).alloc (.cells #[.bool false, .string ⟨#[]⟩] 30)) wr)) (fun _ vk _ => (intOf vk + 1).toNat)
    case atStart => exact ⟨d.size, M, _, congrArg (Value.int .i64) (by have := HM.out; simp at this; omega), rfl, by have := HM.out; simp at this; omega, by have := HM.out; simp at this; omega, Nat.le_refl _, by have := PlInv.start HC.out.1 M; rw [← Lib.size_eq] at this; exact this, HR1, HB1⟩
    case round =>
      obtain ⟨p0, c, cur, rfl, rfl, hc1, hc2, hp0, HI, HR, HB⟩ := hrel
      have HL : Hid (cur.length = d.size) := by show _ = _; rw [Lib.size_eq]; exact HI.out.len
      by_cases hgo : p0 = 0 ∨ c = 0
      · have HZ : Hid ((0 < c → (val (Lib.itoa c ++ cur) : Int) = (val d.data.toList : Int) + M ∧ Dig (Lib.itoa c ++ cur)) ∧ (¬ 0 < c → (val cur : Int) = (val d.data.toList : Int) + M)) := HI.out.done (by have := big_val HC.out (by rw [← Lib.size_eq]; exact hd); have h5 := HM.out; simp at h5; omega) hgo
        obtain ⟨Cb, HCb, hcs, hcv⟩ : ∃ Cb : ByteArray, Hid (Cb.data.toList = cur) ∧ Cb.size ≤ 1048576 ∧ (convert 34 9 (.slice (some ⟨w.heap.size + 1 + 1, 0, none⟩) d.size cp)).run Tryd.prog wr = .ok (.string Cb) wr :=
          ⟨⟨cur.toArray⟩, ofList_data cur, by rw [Lib.size_eq, ofList_data, HL.out]; exact hd2, HR.out.conv 0 (Nat.zero_le _) _ _ (by rw [HL.out]; rfl)⟩
        have hgB : (decide (0 ≤ (p0 : Int) - 1) && (c != 0)) = false := by
          rcases hgo with rfl | rfl
          · rfl
          · simp
        have hszr : w.heap.size + 1 + 1 ≤ wr.heap.size := by have := HR.out.lt; omega
        have HTr : Hid (Tab wr) := (((HT.out.below ((Below.refl _ w).alloc (Nat.le_refl _) _) h2).below ((Below.refl (w.heap.size) _).alloc (by simp) _) h2).below (HB.out.mono (by omega)) h2)
        by_cases hc : 0 < c
        · obtain rfl : p0 = 0 := by omega
          clear hgo hgB
          obtain ⟨I, HI2, hit, hfm⟩ := fmt_some c (by omega) (by omega)
          have HFM : Hid (∀ w, Tab w → Calls Tryd.prog 22 #[.int .i64 c, .int .i64 10] w fun e w' => e = .returned (.string I) ∧ Below w.heap.size w w') := hfm
          have HZV : Hid ((val (I ++ Cb).data.toList : Int) = (val d.data.toList : Int) + M ∧ Dig (I ++ Cb).data.toList) := by
            have := HZ.out.1 hc
            rw [show (I ++ Cb).data.toList = Lib.itoa c ++ cur by rw [ByteArray.data_append, Array.toList_append, HI2, HCb.out]]
            exact this
          clear hfm HI2
          go_wp2_with (go_at_call 22; refine (HFM.out wr HTr.out).mono ?_; rintro e w5 ⟨rfl, hb5⟩)
          have HB5 : Hid (Below (w.heap.size + 1 + 1) ((w.alloc (.cells #[.bool false, .string d] 30)).alloc (.cells #[.bool false, .string ⟨#[]⟩] 30)) w5) := HB.out.trans (hb5.mono hszr)
          clear hb5
          have c0 : w5.cell? ⟨w.heap.size + 1, 0, none⟩ = some (.bool false) := by rw [HB5.out.cell (p := ⟨w.heap.size + 1, 0, none⟩) (by simp)]; simp
          have c1 : w5.cell? ⟨w.heap.size + 1, 1, none⟩ = some (.string ⟨#[]⟩) := by rw [HB5.out.cell (p := ⟨w.heap.size + 1, 1, none⟩) (by simp)]; simp
          have f0 : w5.frozen? ⟨w.heap.size + 1, 0, none⟩ = false := by rw [HB5.out.frozen (p := ⟨w.heap.size + 1, 0, none⟩) (by simp)]; simp
          have f1 : w5.frozen? ⟨w.heap.size + 1, 1, none⟩ = false := by rw [HB5.out.frozen (p := ⟨w.heap.size + 1, 1, none⟩) (by simp)]; simp
          have cq : w5.cell? ⟨w.heap.size, 0, none⟩ = some (.bool false) := by rw [HB5.out.cell (p := ⟨w.heap.size, 0, none⟩) (by simp; omega)]; simp
          go_region_with (go_at_call 23; refine (trimL_any _ _).mono ?_; rintro e w6 ⟨rfl, rfl⟩)
          all_goals
            go_wp2
            refine bodyPost_ret (v := .agg #[.bool false, .string ⟨(trim0 (I ++ Cb).data.toList).toArray⟩]) (by simp [results, Tryd.results14, go_sem, c0, c1]) rfl ⟨⟨_, rfl, ?_, ?_⟩, ?_⟩
            · rw [ofList_data]; exact trim0_can HZV.out.2
            · rw [ofList_data, trim0_val]; exact HZV.out.1
            · have HBx : Below w.heap.size w w5 := (((Below.refl _ w).alloc (Nat.le_refl _) _).alloc (by simp) _).trans (HB5.out.mono (by omega))
              repeat (first | exact HBx | refine Below.drew ?_ | refine Below.setCell ?_ (by simp) _)
        · have HZV : Hid ((val cur : Int) = (val d.data.toList : Int) + M) := HZ.out.2 hc
          have HDG : Hid (Dig cur) := HI.out.digs
          have HB5 : Hid (Below (w.heap.size + 1 + 1) ((w.alloc (.cells #[.bool false, .string d] 30)).alloc (.cells #[.bool false, .string ⟨#[]⟩] 30)) wr) := HB.out
          have c0 : wr.cell? ⟨w.heap.size + 1, 0, none⟩ = some (.bool false) := by rw [HB5.out.cell (p := ⟨w.heap.size + 1, 0, none⟩) (by simp)]; simp
          have c1 : wr.cell? ⟨w.heap.size + 1, 1, none⟩ = some (.string ⟨#[]⟩) := by rw [HB5.out.cell (p := ⟨w.heap.size + 1, 1, none⟩) (by simp)]; simp
          have f0 : wr.frozen? ⟨w.heap.size + 1, 0, none⟩ = false := by rw [HB5.out.frozen (p := ⟨w.heap.size + 1, 0, none⟩) (by simp)]; simp
          have f1 : wr.frozen? ⟨w.heap.size + 1, 1, none⟩ = false := by rw [HB5.out.frozen (p := ⟨w.heap.size + 1, 1, none⟩) (by simp)]; simp
          have cq : wr.cell? ⟨w.heap.size, 0, none⟩ = some (.bool false) := by rw [HB5.out.cell (p := ⟨w.heap.size, 0, none⟩) (by simp; omega)]; simp
          by_cases hpz : p0 = 0
          · subst hpz
            clear hgo hgB
            go_wp2_with (go_at_call 22; fail)
            go_region_with (go_at_call 23; refine (trimL_any _ _).mono ?_; rintro e w6 ⟨rfl, rfl⟩)
            all_goals
              go_wp2
              refine bodyPost_ret (v := .agg #[.bool false, .string ⟨(trim0 Cb.data.toList).toArray⟩]) (by simp [results, Tryd.results14, go_sem, c0, c1]) rfl ⟨⟨_, rfl, ?_, ?_⟩, ?_⟩
              · rw [ofList_data]; exact trim0_can (by rw [HCb.out]; exact HDG.out)
              · rw [ofList_data, trim0_val, HCb.out]; exact HZV.out
              · have HBx : Below w.heap.size w wr := (((Below.refl _ w).alloc (Nat.le_refl _) _).alloc (by simp) _).trans (HB5.out.mono (by omega))
                repeat (first | exact HBx | refine Below.drew ?_ | refine Below.setCell ?_ (by simp) _)
          · obtain rfl : c = 0 := by omega
            clear hgo hgB
            go_wp2_with (go_at_call 22; fail)
            go_region_with (go_at_call 23; refine (trimL_any _ _).mono ?_; rintro e w6 ⟨rfl, rfl⟩)
            all_goals
              go_wp2
              refine bodyPost_ret (v := .agg #[.bool false, .string ⟨(trim0 Cb.data.toList).toArray⟩]) (by simp [results, Tryd.results14, go_sem, c0, c1]) rfl ⟨⟨_, rfl, ?_, ?_⟩, ?_⟩
              · rw [ofList_data]; exact trim0_can (by rw [HCb.out]; exact HDG.out)
              · rw [ofList_data, trim0_val, HCb.out]; exact HZV.out
              · have HBx : Below w.heap.size w wr := (((Below.refl _ w).alloc (Nat.le_refl _) _).alloc (by simp) _).trans (HB5.out.mono (by omega))
                repeat (first | exact HBx | refine Below.drew ?_ | refine Below.setCell ?_ (by simp) _)
      · obtain ⟨p, rfl⟩ : ∃ p, p0 = p + 1 := ⟨p0 - 1, by omega⟩
        have hc0 : c ≠ 0 := fun h => hgo (.inr h)
        have hcb : (c != 0) = true := by simpa using hc0
        clear hgo
        have hpl : p < cur.length := by rw [HL.out]; omega
        have HCE := HR.out.cell p hpl
        have HF := HR.out.free p hpl
        have hdg := HI.out.digs _ (List.getElem_mem hpl)
        unfold isDig at hdg
        obtain ⟨y, hy⟩ : ∃ y : Int, ((cur[p]).toNat : Int) = y := ⟨_, rfl⟩
        have HD : Hid ((dv cur[p] : Int) = y - 48) := by show _ = _; unfold dv; omega
        have hy1 : 48 ≤ y := by omega
        have hy2 : y ≤ 57 := by omega
        rw [hy] at HCE
        clear hy hdg
        have hk : ((p + 1 : Nat) : Int) - 1 = (p : Int) := by omega
        rw [hk]
        have hpd : p < d.size := by omega
        go_wp2
        go_roundw
        case rel =>
          have hx1 : -2000000000000000000 < y - 48 + c := by omega
          have hx2 : y - 48 + c < 2000000000000000000 := by omega
          refine ⟨p, (y - 48 + c) / 10, cur.set p (dig ((y - 48 + c) % 10).toNat), congrArg (Value.int .i64) (cy_eq _ hx1 hx2), rfl, by omega, by omega, by omega, ?_, ?_, HB.out.setCell (Nat.le_refl _) _⟩
          · exact HI.out.step hpl ((y - 48 + c) % 10).toNat _ (by omega) (by rw [HD.out]; omega)
          · refine HR.out.step p _ _ ?_
            rw [dig_toNat (by omega)]
            rw [dg_eq]
            unfold wrap64
            omega
        case measure => simp [intOf] <;> omega
  · go_wp2
    clear hcv
    go_loopw [8, 9] (fun vc vk wr => ∃ (p : Nat) (c : Int) (cur : List UInt8), vc = .int .i64 c ∧ vk = .int .i64 ((p : Int) - 1) ∧ -1000000000000000000 < c ∧ c < 1000000000000000000 ∧ p ≤ d.size ∧ Hid (PlInv d.data.toList M p c cur) ∧ Hid (RowC 5 (w.heap.size + 1 + 1) cur wr) ∧ Hid (Below (w.heap.size + 1 + 1) ((w.alloc (.cells #[.bool true, .string d] 30)).alloc (.cells #[.bool false, .string ⟨#[]⟩] 30)) wr)) (fun _ vk _ => (intOf vk + 1).toNat)
    case atStart => exact ⟨d.size, M, _, congrArg (Value.int .i64) (by have := HM.out; simp at this; omega), rfl, by have := HM.out; simp at this; omega, by have := HM.out; simp at this; omega, Nat.le_refl _, by have := PlInv.start HC.out.1 M; rw [← Lib.size_eq] at this; exact this, HR1, HB1⟩
    case round =>
      obtain ⟨p0, c, cur, rfl, rfl, hc1, hc2, hp0, HI, HR, HB⟩ := hrel
      have HL : Hid (cur.length = d.size) := by show _ = _; rw [Lib.size_eq]; exact HI.out.len
      by_cases hgo : p0 = 0 ∨ c = 0
      · have HZ : Hid ((0 < c → (val (Lib.itoa c ++ cur) : Int) = (val d.data.toList : Int) + M ∧ Dig (Lib.itoa c ++ cur)) ∧ (¬ 0 < c → (val cur : Int) = (val d.data.toList : Int) + M)) := HI.out.done (by have := big_val HC.out (by rw [← Lib.size_eq]; exact hd); have h5 := HM.out; simp at h5; omega) hgo
        obtain ⟨Cb, HCb, hcs, hcv⟩ : ∃ Cb : ByteArray, Hid (Cb.data.toList = cur) ∧ Cb.size ≤ 1048576 ∧ (convert 34 9 (.slice (some ⟨w.heap.size + 1 + 1, 0, none⟩) d.size cp)).run Tryd.prog wr = .ok (.string Cb) wr :=
          ⟨⟨cur.toArray⟩, ofList_data cur, by rw [Lib.size_eq, ofList_data, HL.out]; exact hd2, HR.out.conv 0 (Nat.zero_le _) _ _ (by rw [HL.out]; rfl)⟩
        have hgB : (decide (0 ≤ (p0 : Int) - 1) && (c != 0)) = false := by
          rcases hgo with rfl | rfl
          · rfl
          · simp
        have hszr : w.heap.size + 1 + 1 ≤ wr.heap.size := by have := HR.out.lt; omega
        have HTr : Hid (Tab wr) := (((HT.out.below ((Below.refl _ w).alloc (Nat.le_refl _) _) h2).below ((Below.refl (w.heap.size) _).alloc (by simp) _) h2).below (HB.out.mono (by omega)) h2)
        by_cases hc : 0 < c
        · obtain rfl : p0 = 0 := by omega
          clear hgo hgB
          obtain ⟨I, HI2, hit, hfm⟩ := fmt_some c (by omega) (by omega)
          have HFM : Hid (∀ w, Tab w → Calls Tryd.prog 22 #[.int .i64 c, .int .i64 10] w fun e w' => e = .returned (.string I) ∧ Below w.heap.size w w') := hfm
          have HZV : Hid ((val (I ++ Cb).data.toList : Int) = (val d.data.toList : Int) + M ∧ Dig (I ++ Cb).data.toList) := by
            have := HZ.out.1 hc
            rw [show (I ++ Cb).data.toList = Lib.itoa c ++ cur by rw [ByteArray.data_append, Array.toList_append, HI2, HCb.out]]
            exact this
          clear hfm HI2
          go_wp2_with (go_at_call 22; refine (HFM.out wr HTr.out).mono ?_; rintro e w5 ⟨rfl, hb5⟩)
          have HB5 : Hid (Below (w.heap.size + 1 + 1) ((w.alloc (.cells #[.bool true, .string d] 30)).alloc (.cells #[.bool false, .string ⟨#[]⟩] 30)) w5) := HB.out.trans (hb5.mono hszr)
          clear hb5
          have c0 : w5.cell? ⟨w.heap.size + 1, 0, none⟩ = some (.bool false) := by rw [HB5.out.cell (p := ⟨w.heap.size + 1, 0, none⟩) (by simp)]; simp
          have c1 : w5.cell? ⟨w.heap.size + 1, 1, none⟩ = some (.string ⟨#[]⟩) := by rw [HB5.out.cell (p := ⟨w.heap.size + 1, 1, none⟩) (by simp)]; simp
          have f0 : w5.frozen? ⟨w.heap.size + 1, 0, none⟩ = false := by rw [HB5.out.frozen (p := ⟨w.heap.size + 1, 0, none⟩) (by simp)]; simp
          have f1 : w5.frozen? ⟨w.heap.size + 1, 1, none⟩ = false := by rw [HB5.out.frozen (p := ⟨w.heap.size + 1, 1, none⟩) (by simp)]; simp
          have cq : w5.cell? ⟨w.heap.size, 0, none⟩ = some (.bool true) := by rw [HB5.out.cell (p := ⟨w.heap.size, 0, none⟩) (by simp; omega)]; simp
          go_region_with (go_at_call 23; refine (trimL_any _ _).mono ?_; rintro e w6 ⟨rfl, rfl⟩)
          all_goals
            go_wp2
            refine bodyPost_ret (v := .agg #[.bool true, .string ⟨(trim0 (I ++ Cb).data.toList).toArray⟩]) (by simp [results, Tryd.results14, go_sem, c0, c1]) rfl ⟨⟨_, rfl, ?_, ?_⟩, ?_⟩
            · rw [ofList_data]; exact trim0_can HZV.out.2
            · rw [ofList_data, trim0_val]; exact HZV.out.1
            · have HBx : Below w.heap.size w w5 := (((Below.refl _ w).alloc (Nat.le_refl _) _).alloc (by simp) _).trans (HB5.out.mono (by omega))
              repeat (first | exact HBx | refine Below.drew ?_ | refine Below.setCell ?_ (by simp) _)
        · have HZV : Hid ((val cur : Int) = (val d.data.toList : Int) + M) := HZ.out.2 hc
          have HDG : Hid (Dig cur) := HI.out.digs
          have HB5 : Hid (Below (w.heap.size + 1 + 1) ((w.alloc (.cells #[.bool true, .string d] 30)).alloc (.cells #[.bool false, .string ⟨#[]⟩] 30)) wr) := HB.out
          have c0 : wr.cell? ⟨w.heap.size + 1, 0, none⟩ = some (.bool false) := by rw [HB5.out.cell (p := ⟨w.heap.size + 1, 0, none⟩) (by simp)]; simp
          have c1 : wr.cell? ⟨w.heap.size + 1, 1, none⟩ = some (.string ⟨#[]⟩) := by rw [HB5.out.cell (p := ⟨w.heap.size + 1, 1, none⟩) (by simp)]; simp
          have f0 : wr.frozen? ⟨w.heap.size + 1, 0, none⟩ = false := by rw [HB5.out.frozen (p := ⟨w.heap.size + 1, 0, none⟩) (by simp)]; simp
          have f1 : wr.frozen? ⟨w.heap.size + 1, 1, none⟩ = false := by rw [HB5.out.frozen (p := ⟨w.heap.size + 1, 1, none⟩) (by simp)]; simp
          have cq : wr.cell? ⟨w.heap.size, 0, none⟩ = some (.bool true) := by rw [HB5.out.cell (p := ⟨w.heap.size, 0, none⟩) (by simp; omega)]; simp
          by_cases hpz : p0 = 0
          · subst hpz
            clear hgo hgB
            go_wp2_with (go_at_call 22; fail)
            go_region_with (go_at_call 23; refine (trimL_any _ _).mono ?_; rintro e w6 ⟨rfl, rfl⟩)
            all_goals
              go_wp2
              refine bodyPost_ret (v := .agg #[.bool true, .string ⟨(trim0 Cb.data.toList).toArray⟩]) (by simp [results, Tryd.results14, go_sem, c0, c1]) rfl ⟨⟨_, rfl, ?_, ?_⟩, ?_⟩
              · rw [ofList_data]; exact trim0_can (by rw [HCb.out]; exact HDG.out)
              · rw [ofList_data, trim0_val, HCb.out]; exact HZV.out
              · have HBx : Below w.heap.size w wr := (((Below.refl _ w).alloc (Nat.le_refl _) _).alloc (by simp) _).trans (HB5.out.mono (by omega))
                repeat (first | exact HBx | refine Below.drew ?_ | refine Below.setCell ?_ (by simp) _)
          · obtain rfl : c = 0 := by omega
            clear hgo hgB
            go_wp2_with (go_at_call 22; fail)
            go_region_with (go_at_call 23; refine (trimL_any _ _).mono ?_; rintro e w6 ⟨rfl, rfl⟩)
            all_goals
              go_wp2
              refine bodyPost_ret (v := .agg #[.bool true, .string ⟨(trim0 Cb.data.toList).toArray⟩]) (by simp [results, Tryd.results14, go_sem, c0, c1]) rfl ⟨⟨_, rfl, ?_, ?_⟩, ?_⟩
              · rw [ofList_data]; exact trim0_can (by rw [HCb.out]; exact HDG.out)
              · rw [ofList_data, trim0_val, HCb.out]; exact HZV.out
              · have HBx : Below w.heap.size w wr := (((Below.refl _ w).alloc (Nat.le_refl _) _).alloc (by simp) _).trans (HB5.out.mono (by omega))
                repeat (first | exact HBx | refine Below.drew ?_ | refine Below.setCell ?_ (by simp) _)
      · obtain ⟨p, rfl⟩ : ∃ p, p0 = p + 1 := ⟨p0 - 1, by omega⟩
        have hc0 : c ≠ 0 := fun h => hgo (.inr h)
        have hcb : (c != 0) = true := by simpa using hc0
        clear hgo
        have hpl : p < cur.length := by rw [HL.out]; omega
        have HCE := HR.out.cell p hpl
        have HF := HR.out.free p hpl
        have hdg := HI.out.digs _ (List.getElem_mem hpl)
        unfold isDig at hdg
        obtain ⟨y, hy⟩ : ∃ y : Int, ((cur[p]).toNat : Int) = y := ⟨_, rfl⟩
        have HD : Hid ((dv cur[p] : Int) = y - 48) := by show _ = _; unfold dv; omega
        have hy1 : 48 ≤ y := by omega
        have hy2 : y ≤ 57 := by omega
        rw [hy] at HCE
        clear hy hdg
        have hk : ((p + 1 : Nat) : Int) - 1 = (p : Int) := by omega
        rw [hk]
        have hpd : p < d.size := by omega
        go_wp2
        go_roundw
        case rel =>
          have hx1 : -2000000000000000000 < y - 48 + c := by omega
          have hx2 : y - 48 + c < 2000000000000000000 := by omega
          refine ⟨p, (y - 48 + c) / 10, cur.set p (dig ((y - 48 + c) % 10).toNat), congrArg (Value.int .i64) (cy_eq _ hx1 hx2), rfl, by omega, by omega, by omega, ?_, ?_, HB.out.setCell (Nat.le_refl _) _⟩
          · exact HI.out.step hpl ((y - 48 + c) % 10).toNat _ (by omega) (by rw [HD.out]; omega)
          · refine HR.out.step p _ _ ?_
            rw [dig_toNat (by omega)]
            rw [dg_eq]
            unfold wrap64
            omega
        case measure => simp [intOf] <;> omega
end Go.Proofs.Qxb6606039aDoor
