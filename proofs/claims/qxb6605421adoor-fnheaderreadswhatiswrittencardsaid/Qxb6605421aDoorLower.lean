import Derived.Test.Qxb6605421aDoorSmall
import Derived.Lib.AppendStr
import Derived.Laws.IdiomStrings
import Derived.Lib.Builder
import Derived.OwnWalk
import Derived.Laws.BytesArg
import Derived.Lib.UnsafeStr
import Derived.Lib.Strings
import Derived.Lib.IndexBytes
namespace Go.Proofs.Qxb6605421aDoor
open Go.RowKit

theorem Tryd_info5 : (Tryd.prog.info? 5).map (fun i => (i.zero, i.size, i.bytes)) = some (some (.int .u8 0), 1, 1) := by kernel_rfl

/-- A byte in lower case. -/
def low (c : UInt8) : UInt8 := if 65 ≤ c.toNat ∧ c.toNat ≤ 90 then UInt8.ofNat (c.toNat + 32) else c
def lowS (s : ByteArray) : ByteArray := ⟨(s.data.toList.map low).toArray⟩

theorem low_up {c : UInt8} (h1 : 65 ≤ (c.toNat : Int)) (h2 : (c.toNat : Int) ≤ 90) : ((low c).toNat : Int) = (c.toNat : Int) + 32 := by
  unfold low
  rw [if_pos ⟨by omega, by omega⟩]
  simp
  omega
theorem low_id {c : UInt8} (h : ¬ (65 ≤ (c.toNat : Int) ∧ (c.toNat : Int) ≤ 90)) : low c = c := by
  unfold low
  rw [if_neg (by omega)]

/-- string(b) of a row of bytes that the call owns. -/
theorem conv_own {base : Nat} {v : Value} {l : List UInt8} {w : World} (h : w.ownsRow base 5 1 v l.length (Lib.byteCells l)) :
    (convert 27 9 v).run Tryd.prog w = .ok (.string ⟨l.toArray⟩) w := by
  rcases h.2 with ⟨rfl, h0⟩ | ⟨g, cap, cur, rfl, _, hg, hnc, _, hcs, htake⟩
  · have : l = [] := List.length_eq_zero_iff.1 h0
    subst this
    exact run_convert_bytes_nil w 27 5 Tryd.underlying27 Tryd.underlying5 0 0 9 Tryd.underlying9
  · refine run_convert_bytes_back w 27 9 5 ⟨g, 0, none⟩ cap l Tryd.underlying27 Tryd.underlying5 Tryd.underlying9 (fun j hj => ?_)
    have := h.cellAt j (by omega)
    rw [show (⟨g, 0, none⟩ : Addr).add j = ⟨g, j, none⟩ by unfold Addr.add; split <;> simp_all, this]
    simp [Lib.byteCells, hj]

/-- The row while zzLowerASCII runs: its first k cells hold the first k bytes in lower case. -/
def LowRow (s : ByteArray) (B k : Nat) (w : World) : Prop :=
  ∃ xs : List Value, xs.length = s.size ∧ w.ownsRow B 5 1 (.slice (some ⟨B, 0, none⟩) s.size s.size) s.size xs ∧ ∀ j (h : j < s.size), j < k → xs[j]? = some (.int .u8 (low s[j]).toNat)
theorem LowRow.atCell {s : ByteArray} {B k : Nat} {w : World} (h : LowRow s B k w) (j : Nat) (hj : j < s.size) : ∃ u, w.cell? ⟨B, j, none⟩ = some u := by
  obtain ⟨xs, hl, ho, _⟩ := h
  rw [ho.cellAt j (by omega)]
  exact ⟨_, List.getElem?_eq_getElem (by omega)⟩
theorem LowRow.free {s : ByteArray} {B k : Nat} {w : World} (h : LowRow s B k w) (j : Nat) : w.frozen? ⟨B, j, none⟩ = false := by
  obtain ⟨xs, hl, ho, _⟩ := h
  exact ho.frozenAt j
theorem LowRow.step {s : ByteArray} {B k : Nat} {w : World} (h : LowRow s B k w) (hk : k < s.size) (v : Int) (hv : v = (low s[k]).toNat) : LowRow s B (k + 1) (w.setCell ⟨B, k, none⟩ (.int .u8 v)) := by
  obtain ⟨xs, hl, ho, hx⟩ := h
  refine ⟨xs.set k (.int .u8 v), by simpa using hl, (ho.stored k _).1, fun j hj hjk => ?_⟩
  by_cases e : j = k
  · subst e; rw [List.getElem?_set_self (by omega), hv]
  · rw [List.getElem?_set_ne (by omega)]; exact hx j hj (by omega)
theorem LowRow.done {s : ByteArray} {B : Nat} {w : World} (h : LowRow s B s.size w) : (convert 27 9 (.slice (some ⟨B, 0, none⟩) s.size s.size)).run Tryd.prog w = .ok (.string (lowS s)) w := by
  obtain ⟨xs, hl, ho, hx⟩ := h
  have hlen : (s.data.toList.map low).length = s.size := by simp
  refine conv_own (base := B) (l := s.data.toList.map low) ?_
  rw [hlen]
  have : xs = Lib.byteCells (s.data.toList.map low) := by
    apply List.ext_getElem?
    intro j
    by_cases hj : j < s.size
    · rw [hx j hj hj]
      have e := Lib.data_getElem? s j hj
      simp only [Lib.byteCells, List.getElem?_map, e, Option.map_some]
    · rw [List.getElem?_eq_none (by omega), List.getElem?_eq_none (by simp [Lib.byteCells]; omega)]
  rw [← this]; exact ho

set_option maxHeartbeats 800000 in
set_option maxRecDepth 100000 in
theorem lower_any (s : ByteArray) (w : World) (hs : s.size ≤ 262144) :
    Calls Tryd.prog 12 #[.string s] w fun e w' => e = .returned (.string (lowS s)) ∧ Below w.heap.size w w' := by
  obtain ⟨i0, hi, hz0, hz1, hz2⟩ := info_parts Tryd_info5
  go_enter Tryd.func12, Tryd.ntmps12
  go_wp2_with (at_make; refine wpList_make_full _ rfl (.tmp 7) (.tmp 7) 27 rfl w.heap.size 5 i0 (.int .u8 0) 1 Tryd.underlying27 hi hz0 hz1 .i64 .i64 s.size s.size s.size rfl rfl rfl rfl (by rw [hz2]; omega) (by unfold maxLen; omega) (Nat.le_refl _) ?_; intro w1 hown hg)
  have hR : Hid (LowRow s w.heap.size 0 w1) := ⟨_, by simp [Value.cells, size_madeCells], hown, fun j _ h => by omega⟩
  have hb1 : Hid (Below w.heap.size w w1) := (Below.refl _ w).grown hg (Nat.le_refl _) (fun k e => by cases e)
  clear hown hg
  go_loopw [4] (fun v wr => ∃ k : Nat, k ≤ s.size ∧ v = .int .i64 k ∧ Hid (LowRow s w.heap.size k wr) ∧ Hid (Below w.heap.size w wr)) (fun v _ => s.size - (intOf v).toNat)
  case atStart => exact ⟨0, Nat.zero_le _, rfl, hR, hb1⟩
  case round =>
    obtain ⟨k, hk, rfl, HR, HB⟩ := hrel
    by_cases hlt : k < s.size
    · obtain ⟨u, hu⟩ := HR.out.atCell k hlt
      have hf := HR.out.free k
      by_cases hup : 65 ≤ ((s[k]).toNat : Int) ∧ ((s[k]).toNat : Int) ≤ 90
      · obtain ⟨u1, u2⟩ := hup
        go_wp2
        go_roundw
        case rel => exact ⟨k + 1, by omega, by go_num, HR.out.step hlt _ (by rw [low_up u1 u2]), HB.out.setCell (Nat.le_refl _) _⟩
        case measure => simp [intOf]; omega
      · have hid := low_id hup
        have HI : Hid (low s[k] = s[k]) := hid
        clear hid
        by_cases u1 : 65 ≤ ((s[k]).toNat : Int)
        · have u2 : ¬ ((s[k]).toNat : Int) ≤ 90 := fun h => hup ⟨u1, h⟩
          clear hup
          go_wp2
          go_roundw
          case rel => exact ⟨k + 1, by omega, by go_num, HR.out.step hlt _ (by rw [HI.out]), HB.out.setCell (Nat.le_refl _) _⟩
          case measure => simp [intOf]; omega
        · clear hup
          go_wp2
          go_roundw
          case rel => exact ⟨k + 1, by omega, by go_num, HR.out.step hlt _ (by rw [HI.out]), HB.out.setCell (Nat.le_refl _) _⟩
          case measure => simp [intOf]; omega
    · obtain rfl : k = s.size := by omega
      have hcv := HR.out.done
      go_wp2
      go_ret
      exact ⟨rfl, HB.out⟩
end Go.Proofs.Qxb6605421aDoor
