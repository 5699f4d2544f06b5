import Derived.Test.Qxb6600459aDoorShelf
import Derived.Test.Qxb6600459aDoorSmall
import Derived.Laws.RangeAny
import Derived.Laws.RangeString
import Derived.Laws.Strings3
import Derived.Laws.DeepStrings4
import Derived.Deep.LoopGhost
import Derived.Deep.QuietTactic
import Derived.BigQuiet
import Derived.Lib.IndexAny
import Derived.Laws.Runes
import Derived.WalkMore
import Derived.WalkSmall
namespace Go.Proofs.Qxb6600459aDoor
open Go.RowKit Go.Shelf Go.Lib

/-- labelSymbols + labelSpace. -/
def seps : ByteArray := ⟨#[33, 61, 60, 62, 40, 41, 44, 32, 9, 13, 10]⟩

theorem sep_low : ∀ q : Fin 11, (seps[q.1]'(by show q.1 < 11; omega)).toNat < 128 := by decide
theorem sep_all : ∀ b ∈ seps.data.toList, b.toNat < 128 := by decide
theorem index_high : ∀ (l : List UInt8) (c : UInt8), (∀ b ∈ l, b.toNat < 128) → 128 ≤ c.toNat → Lib.indexByte l c = -1
  | [], _, _, _ => rfl
  | b :: l, c, h, hc => by
    have ih := index_high l c (fun x hx => h x (List.mem_cons_of_mem _ hx)) hc
    have hb := h b List.mem_cons_self
    have hne : (b == c) = false := by
      rw [beq_eq_false_iff_ne]; intro e; rw [e] at hb; omega
    simp [Lib.indexByte, hne, ih]
theorem valid_any (r : Int) (w : World) (h : (0 ≤ r ∧ r < 0xD800) ∨ (0xDFFF < r ∧ r ≤ 0x10FFFF)) :
    Calls Tryd.prog 48 #[.int .i32 r] w fun e w' => e = .returned (.bool true) ∧ w' = w := by
  have h1 := Any.utf8_ValidRune Tryd.lays119 r w
  rw [show Lib.validRune r = true from decide_eq_true h] at h1
  exact h1
theorem index_any (s : ByteArray) (c : Int) (w : World) :
    Calls Tryd.prog 26 #[.string s, .int .u8 c] w fun e w' => e = .returned (.int .i64 (Lib.indexByte s.data.toList c.toNat.toUInt8)) ∧ w' = w :=
  Any.strings_IndexByte Tryd.lays137 s c w

set_option maxHeartbeats 400000 in
set_option maxRecDepth 100000 in
theorem rune_valid (r : Nat) (w : World) (h0 : 128 ≤ r) (h1 : r ≤ 1114111) (h2 : r < 55296 ∨ 57344 ≤ r) (h3 : r ≠ 65533) :
    Calls Tryd.prog 37 #[.string seps, .int .i32 r] w fun e w' => e = .returned (.int .i64 (-1)) ∧ Below w.heap.size w w' := by
  have hne : ((r : Int) == 65533) = false := by simp; omega
  obtain ⟨f1, f2, f3⟩ := encode_facts r (by unfold Utf8.valid; simp; omega) (by omega)
  have hcv : ∀ w, (convert 21 9 (.int .i32 (r : Int))).run Tryd.prog w = .ok (.string (Utf8.encode r)) w := fun w => run_convert_int_string w 21 9 .i32 r (by rw [Tryd.underlying21]; rfl) Tryd.underlying9
  generalize Utf8.encode r = E at f1 f2 f3 hcv
  obtain ⟨q, hq⟩ : ∃ q, E.size = q + 1 := ⟨E.size - 1, by omega⟩
  have hq1 : q < E.size := by omega
  have hE : 128 ≤ (E[q]).toNat := by have := f3 (by omega); simpa [hq] using this
  have hsz : ((E.size : Int) - 1) = (q : Int) := by omega
  clear f3
  have hs11 : seps.size = 11 := rfl
  have hq3 : q < seps.size := by omega
  have hS : (seps[q]).toNat < 128 := by
    exact sep_low ⟨q, by omega⟩
  have hSE : (((seps[q]).toNat : Int) != ((E[q]).toNat : Int)) = true := by simp; omega
  have hw1 : IntKind.i64.wrap ((q : Int) + 1) = (q : Int) + 1 := wrap_small _ (by omega) (by omega)
  have hsl : ∀ w, (Instr.slice 9 (.string seps) (some (.int .i64 ((q : Int) + 1))) none none).run Tryd.prog w = .ok (.string (seps.extract (q + 1) seps.size)) w := fun w => by
    rw [run_slice_string_l (w := w) (t := 9) (s := seps) (ht := Tryd.underlying9) .i64 ((q : Int) + 1) (by omega) (by omega)]
    rw [show ((q : Int) + 1).toNat = q + 1 by omega]
  have hix : ∀ w, Calls Tryd.prog 26 #[.string (seps.extract (q + 1) seps.size), .int .u8 ((E[q]).toNat : Int)] w fun e w' => e = .returned (.int .i64 (-1)) ∧ w' = w := fun w => by
    have h := index_any (seps.extract (q + 1) seps.size) ((E[q]).toNat : Int) w
    rw [index_high _ _ (fun b hb => sep_all b (mem_extract hb)) (by simpa using hE)] at h
    exact h
  generalize seps.extract (q + 1) seps.size = T at hsl hix
  have HS : Hid (E.size = q + 1) := hq
  clear hq
  go_enter Tryd.func37, Tryd.ntmps37
  go_wp2_with (go_at_call 48; refine (valid_any _ _ (by omega)).mono ?_; rintro e w' ⟨rfl, rfl⟩)
  go_step3
  go_wp2
  go_loop [9, 10] (fun v9 v10 => v9 = .int .i64 q ∧ v10 = .int .i64 0) (fun _ _ => 0)
  case atStart => exact ⟨by first | rfl | simp, rfl⟩
  case round =>
    obtain ⟨rfl, rfl⟩ := hrel
    go_wp2
    go_step3
    go_wp2
    go_quiet (fail)
    go_wp2
    have hB : Below w'.heap.size w' (w'.drewN nq) := below_drewN (Below.refl _ _) nq
    generalize w'.drewN nq = w2 at hB ⊢
    go_quiet ((go_at_call 26; exact Calls.quiet_of_same (hix _)))
    go_wp2
    rw [Exit.noGoto_ret]
    go_wp2
    rw [Exit.noGoto_ret]
    go_ret
    exact ⟨rfl, below_drewN hB _⟩
end Go.Proofs.Qxb6600459aDoor
