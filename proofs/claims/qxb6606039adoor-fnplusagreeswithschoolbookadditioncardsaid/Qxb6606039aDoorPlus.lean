import Derived.Test.Qxb6606039aDoorParse
namespace Go.Proofs.Qxb6606039aDoor
open Go.RowKit

theorem tab_global : Tryd.prog.globalNamed tabName = some 2 := by kernel_rfl
theorem Tab.lt {w : World} (h : Tab w) : 2 < w.heap.size := by
  unfold Tab Lib.TabIs World.var? at h
  simp only [tab_global, Option.bind_some] at h
  rcases Nat.lt_or_ge 2 w.heap.size with hl | hl
  · exact hl
  · rw [Array.getElem?_eq_none hl] at h
    simp at h
theorem Tab.below {w w' : World} {B : Nat} (h : Tab w) (k : Below B w w') (hB : 2 < B) : Tab w' := var?_below k tab_global hB h

theorem bytes_below (w : World) (t : ByteArray) : Below w.heap.size w (Lib.bytesWorld w 5 t) :=
  ⟨rfl, rfl, rfl, by rw [Lib.bytesWorld_size]; omega, fun k hk => Lib.bytesWorld_at_old w 5 t k hk⟩
/-- strconv.ParseInt(s, 10, 64). -/
theorem pi_any (s : ByteArray) (v : Int) (w : World) (hs : s.size ≤ 2000000) (h : Lib.parseIntB 64 s.data.toList = .ok v) :
    Calls Tryd.prog 19 #[.string s, .int .i64 10, .int .i64 64] w fun e w' => e = .returned (.tuple #[.int .i64 v, .nilIface]) ∧ Below w.heap.size w w' :=
  (Tryd.strconv_ParseInt_10_at64_ok s (by omega) v h w).mono fun _ w' ⟨he, hw⟩ => ⟨he, by
    rcases hw with rfl | ⟨t, rfl⟩
    · exact Below.refl _ _
    · exact bytes_below w t⟩

theorem bcell {W w1 : World} (hb : Below W.heap.size W w1) : (∀ b o, b < W.heap.size → w1.cell? ⟨b, o, none⟩ = W.cell? ⟨b, o, none⟩) ∧ (∀ b o, b < W.heap.size → w1.frozen? ⟨b, o, none⟩ = W.frozen? ⟨b, o, none⟩) :=
  ⟨fun b o h => hb.cell (p := ⟨b, o, none⟩) h, fun b o h => hb.frozen (p := ⟨b, o, none⟩) h⟩

set_option maxHeartbeats 1000000 in
set_option maxRecDepth 100000 in
theorem plus_short (q : Bool) (d S : ByteArray) (v n : Int) (w : World) (hd : d.size ≤ 18) (hv1 : -1000000000000000000 < v) (hv2 : v < 1000000000000000000) (hn1 : -1000000000000000000 < n) (hn2 : n < 1000000000000000000)
    (HT : Hid (Tab w)) (hS : Hid (∀ w, Calls Tryd.prog 20 #[.agg #[.bool q, .string d]] w fun e w' => e = .returned (.string S) ∧ Below w.heap.size w w'))
    (hP : Hid (∀ w, Calls Tryd.prog 19 #[.string S, .int .i64 10, .int .i64 64] w fun e w' => e = .returned (.tuple #[.int .i64 v, .nilIface]) ∧ Below w.heap.size w w')) :
    Calls Tryd.prog 14 #[.agg #[.bool q, .string d], .int .i64 n] w fun e w' => (∃ (m : Bool) (r : ByteArray), e = .returned (.agg #[.bool m, .string r]) ∧ Res (v + n) m r.data.toList) ∧ Below w.heap.size w w' := by
  have h2 := HT.out.lt
  go_enter Tryd.func14, Tryd.ntmps14
  go_wp2_with (first
    | (go_at_call 20; refine (hS.out _).mono ?_; rintro e w1 ⟨rfl, hb1⟩)
    | (go_at_call 19; refine (hP.out _).mono ?_; rintro e w2 ⟨rfl, hb2⟩))
  have HB2 : Hid (Below (w.heap.size + 2) ((w.alloc (.cells #[.bool q, .string d] 30)).alloc (.cells #[.bool false, .string ⟨#[]⟩] 30)) w2) := by
    have s1 := hb1.size
    simp at s1
    have k1 := hb1.mono (B' := w.heap.size + 2) (by simp)
    exact k1.trans (hb2.mono s1)
  have hs2 : w.heap.size + 2 ≤ w2.heap.size := by have := HB2.out.size; simpa using this
  have HT2 : Hid (Tab w2) := (((HT.out.below ((Below.refl _ w).alloc (Nat.le_refl _) _) h2).below ((Below.refl (w.heap.size) _).alloc (by simp) _) h2).below (HB2.out.mono (by omega)) h2)
  clear hb1 hb2
  refine (fmt_any (v + n) w2 (by omega) (by omega) HT2.out).mono ?_
  rintro e w3 ⟨rfl, hb3⟩
  go_wp2_with fail
  obtain ⟨m, r, hres, hcall⟩ := parse_itoa (v + n) w3
  refine hcall.mono ?_
  rintro e w4 ⟨rfl, hb4⟩
  have HRES : Hid (Res (v + n) m r.data.toList) := hres
  have s3 := hb3.size
  have HB4 : Hid (Below (w.heap.size + 2) ((w.alloc (.cells #[.bool q, .string d] 30)).alloc (.cells #[.bool false, .string ⟨#[]⟩] 30)) w4) := (HB2.out.trans (hb3.mono hs2)).trans (hb4.mono (by omega))
  clear hcall hres hb3 hb4 s3
  have c0 : w4.cell? ⟨w.heap.size + 1, 0, none⟩ = some (.bool false) := by rw [HB4.out.cell (p := ⟨w.heap.size + 1, 0, none⟩) (by simp)]; simp
  have c1 : w4.cell? ⟨w.heap.size + 1, 1, none⟩ = some (.string ⟨#[]⟩) := by rw [HB4.out.cell (p := ⟨w.heap.size + 1, 1, none⟩) (by simp)]; simp
  have f0 : w4.frozen? ⟨w.heap.size + 1, 0, none⟩ = false := by rw [HB4.out.frozen (p := ⟨w.heap.size + 1, 0, none⟩) (by simp)]; simp
  have f1 : w4.frozen? ⟨w.heap.size + 1, 1, none⟩ = false := by rw [HB4.out.frozen (p := ⟨w.heap.size + 1, 1, none⟩) (by simp)]; simp
  go_wp2
  refine bodyPost_ret (v := .agg #[.bool m, .string r]) (by simp [results, Tryd.results14, go_sem, c0, c1]) rfl ⟨⟨m, r, rfl, HRES.out⟩, ?_⟩
  refine ((((Below.refl _ w).alloc (Nat.le_refl _) _).alloc (by simp) _).trans (HB4.out.mono (by omega))) |>.setCell ?_ _ |>.setCell ?_ _
  · simp
  · simp
end Go.Proofs.Qxb6606039aDoor
