import Derived.Test.Qxb6600459aDoorRune
import Derived.Test.Qxb6600459aDoorDecode
import Derived.Lib.OthersKept
namespace Go.Proofs.Qxb6600459aDoor
open Go.RowKit Go.Shelf Go.Lib

set_option maxHeartbeats 800000 in
set_option maxRecDepth 100000 in
theorem rune_err (w : World) :
    Calls Tryd.prog 37 #[.string seps, .int .i32 65533] w fun e w' => e = .returned (.int .i64 (-1)) ∧ Below w.heap.size w w' := by
  have hs11 : seps.size = 11 := rfl
  go_enter Tryd.func37, Tryd.ntmps37
  go_wp2
  go_loopg [5, 6] 11 (fun g _ _ wx => ∃ i : Nat, i + g = 11 ∧ wx = w.iter seps i)
  case atStart => exact ⟨0, by omega, rfl⟩
  case round =>
    obtain ⟨i, hig, rfl⟩ := hrel
    cases gk with
    | zero =>
      obtain rfl : i = 11 := by omega
      have hnx := run_next_end (P := Tryd.prog) w seps 11
      go_wp2
      go_ret
      exact ⟨rfl, (Below.refl _ _).alloc (Nat.le_refl _) _⟩
    | succ g =>
      have hi : i < seps.size := by omega
      have hx128 : (seps[i]).toNat < 128 := sep_low ⟨i, by omega⟩
      have hnx := fun ty => run_next_ascii (P := Tryd.prog) w seps i ty hi hx128
      have hne : (((seps[i]).toNat : Int) == 65533) = false := by simp; omega
      go_wp2
      go_roundg g
      case measure => omega
      case rel => exact ⟨i + 1, by omega, rfl⟩

/-- strings.IndexRune over the eleven separators at a rune beyond ASCII: none. -/
theorem rune_high (r : Nat) (w : World) (h0 : 128 ≤ r) (h1 : r ≤ 1114111) (h2 : r < 55296 ∨ 57344 ≤ r) :
    Calls Tryd.prog 37 #[.string seps, .int .i32 r] w fun e w' => e = .returned (.int .i64 (-1)) ∧ Below w.heap.size w w' := by
  by_cases h : r = 65533
  · subst h; exact rune_err w
  · exact rune_valid r w h0 h1 h2 h
theorem rune_low (r : Int) (w : World) (h0 : 0 ≤ r) (h1 : r < 128) :
    Calls Tryd.prog 37 #[.string seps, .int .i32 r] w fun e w' => e = .returned (.int .i64 (Lib.indexByte seps.data.toList r.toNat.toUInt8)) ∧ w' = w :=
  Any.strings_IndexRune_ascii Tryd.lays152 seps r w h0 h1
theorem use_set (n : Int) (w : World) : Calls Tryd.prog 38 #[.int .i64 n] w fun e w' => e = .returned (.bool (decide (8 < n))) ∧ w' = w :=
  Any.strings_shouldUseASCIISet Tryd.lays226 n w

theorem noAny_high {s : ByteArray} {pos n : Nat} (h : Lib.NoAny s.data.toList seps.data.toList pos) (hh : ∀ j (hj : j < s.size), pos ≤ j → j < pos + n → 128 ≤ (s[j]).toNat) :
    Lib.NoAny s.data.toList seps.data.toList (pos + n) := by
  intro j b hj hb
  by_cases hjp : j < pos
  · exact h j b hjp hb
  · have hjs : j < s.size := by
      have := (List.getElem?_eq_some_iff.1 hb).1
      simpa using this
    have e := Lib.data_getElem? s j hjs
    rw [hb] at e
    have hbig := hh j hjs (by omega) hj
    rw [← Option.some.inj e] at hbig
    cases hc : seps.data.toList.contains b with
    | false => rfl
    | true =>
      have := sep_all b (by simpa using hc)
      omega

set_option maxHeartbeats 2000000 in
set_option maxRecDepth 1000000 in
theorem any_short (s : ByteArray) (w : World) (h8 : s.size ≤ 8) :
    Calls Tryd.prog 27 #[.string s, .string seps] w fun e w' => e = .returned (.int .i64 (Lib.indexAny s.data.toList seps.data.toList)) ∧ Below w.heap.size w w' := by
  have hemp : seps.toList.isEmpty = false := by rw [Lib.toList_data]; rfl
  have hn1 : ((seps.size : Int) == 1) = false := rfl
  have h8z : decide ((8 : Int) < (s.size : Int)) = false := decide_eq_false (by omega)
  go_enter Tryd.func27, Tryd.ntmps27
  go_wp2_with (go_at_call 38; refine (use_set _ _).mono ?_; rintro e w' ⟨rfl, hw⟩; rw [hw, h8z])
  go_loopw [9, 10] (fun _ _ wr => ∃ pos : Nat, wr.heap[w.heap.size]? = some (.stringIter s pos) ∧ Below w.heap.size w wr ∧ Hid (Lib.NoAny s.data.toList seps.data.toList pos)) (fun _ _ wr => s.size - wr.iterPos w.heap.size)
  case atStart =>
    refine ⟨0, World.iter_heap w s 0, (Below.refl _ w).alloc (Nat.le_refl _) _, Lib.NoAny.zero _ _⟩
  case round =>
    obtain ⟨pos, hit, hbw, HN⟩ := hrel
    have hsz : w.heap.size < wr.heap.size := (Array.getElem?_eq_some_iff.1 hit).1
    by_cases hp : pos < s.size
    · have hit2 := fun p => Lib.iterAt_heap wr w.heap.size s pos p hit
      have hbw2 := fun p => Lib.below_iterAt hbw (k := w.heap.size) (by omega) s p
      have hpd := Lib.data_getElem? s pos hp
      by_cases h128 : (s[pos]).toNat < 128
      · have hnx : ∀ ty, (Instr.next (.pointer (some ⟨w.heap.size, 0, none⟩)) true ty).run Tryd.prog wr = _ := fun ty => Lib.run_next_ascii_at wr w.heap.size s pos ty hit hp h128
        obtain ⟨x, hx⟩ : ∃ x : UInt8, s[pos]'hp = x := ⟨_, rfl⟩
        rw [hx] at hnx hpd h128
        have Hpd : Hid (s.data.toList[pos]? = some x) := hpd
        have HI : Hid (∀ p, (wr.iterAt w.heap.size s p).heap[w.heap.size]? = some (.stringIter s p)) := hit2
        have HB : Hid (∀ p, Below w.heap.size w (wr.iterAt w.heap.size s p)) := hbw2
        clear hpd hx hit2 hbw2
        have hcon := Lib.contains_iff_indexByte seps.data.toList x
        have hback : ((x.toNat : Int)).toNat.toUInt8 = x := by simp
        cases hin : seps.data.toList.contains x
        · rw [hin] at hcon
          have hlt : ¬ ((0 : Int) ≤ Lib.indexByte seps.data.toList x) := of_decide_eq_false hcon.symm
          clear hcon
          go_wp2_with (go_at_call 37; refine (rune_low _ _ (by omega) (by omega)).mono ?_; rintro e w' ⟨rfl, hw⟩; rw [hw, hback])
          go_roundw
          case rel => exact ⟨pos + 1, HI.out _, HB.out _, HN.out.succ Hpd.out hin⟩
          case measure =>
            simp only [World.iterPos, HI.out, hit]
            omega
        · rw [hin] at hcon
          have hge : (0 : Int) ≤ Lib.indexByte seps.data.toList x := of_decide_eq_true hcon.symm
          clear hcon
          go_wp2_with (go_at_call 37; refine (rune_low _ _ (by omega) (by omega)).mono ?_; rintro e w' ⟨rfl, hw⟩; rw [hw, hback])
          go_ret
          exact ⟨by rw [Lib.indexAny_hit HN.out Hpd.out hin]; rfl, HB.out _⟩
      · have hnx : ∀ ty, (Instr.next (.pointer (some ⟨w.heap.size, 0, none⟩)) true ty).run Tryd.prog wr = _ := fun ty => Lib.run_next_any_at wr w.heap.size s pos ty hit hp
        obtain ⟨d1, d2, d3, d4, d5, d6⟩ := decode_facts s pos hp (by omega)
        have HI : Hid (∀ p, (wr.iterAt w.heap.size s p).heap[w.heap.size]? = some (.stringIter s p)) := hit2
        have HB : Hid (∀ p, Below w.heap.size w (wr.iterAt w.heap.size s p)) := hbw2
        have HD : Hid (∀ j (hj : j < s.size), pos ≤ j → j < pos + (Utf8.decode s pos).2 → 128 ≤ (s[j]).toNat) := d6
        clear hit2 hbw2 hpd d6
        generalize Utf8.decode s pos = D at *
        obtain ⟨c, n⟩ := D
        simp only at d1 d2 d3 d4 d5 HD hnx
        go_wp2_with (go_at_call 37; refine (rune_high c _ d3 d4 d5).mono ?_; rintro e w' ⟨rfl, hw⟩)
        go_roundw
        case rel =>
          refine ⟨pos + n, ?_, (HB.out _).trans (hw.mono ?_), noAny_high HN.out HD.out⟩
          · rw [hw.block _ (by rw [Lib.iterAt_size]; exact hsz)]; exact HI.out _
          · rw [Lib.iterAt_size]; omega
        case measure =>
          have e : w'.heap[w.heap.size]? = some (.stringIter s (pos + n)) := by
            rw [hw.block _ (by rw [Lib.iterAt_size]; exact hsz)]; exact HI.out _
          simp only [World.iterPos, e, hit]
          omega
    · have hnx : ∀ ty, (Instr.next (.pointer (some ⟨w.heap.size, 0, none⟩)) true ty).run Tryd.prog wr = _ := fun ty => Lib.run_next_end_at wr w.heap.size s pos ty hit hp
      go_wp2
      go_ret
      refine ⟨?_, hbw⟩
      rw [Lib.indexAny_none (s := s.data.toList) (fun j b hj hb => HN.out j b (by have : s.data.toList.length = s.size := (Lib.size_eq s).symm; omega) hb)]
      rfl
end Go.Proofs.Qxb6600459aDoor
