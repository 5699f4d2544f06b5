import Derived.Test.Qxb6606039aDoorSmall
import Derived.Laws.IdiomStrings
import Derived.Lib.UnsafeStr
import Derived.Lib.ConvBytes
import Derived.OwnWalk
namespace Go.Proofs.Qxb6606039aDoor
open Go.RowKit

/-- Block B (of type t) begins with the bytes l; none of them is frozen. -/
structure RowC (t : TypeId) (B : Nat) (l : List UInt8) (w : World) : Prop where
  has : ∃ cs fz, w.heap[B]? = some (.cells cs t fz) ∧ cs.toList.take l.length = Lib.byteCells l
  free : ∀ j, j < l.length → w.frozen? ⟨B, j, none⟩ = false

theorem RowC.lt {t : TypeId} {B : Nat} {l : List UInt8} {w : World} (h : RowC t B l w) : B < w.heap.size := by
  obtain ⟨cs, fz, hb, _⟩ := h.has
  exact (Array.getElem?_eq_some_iff.1 hb).1
theorem RowC.cell {t : TypeId} {B : Nat} {l : List UInt8} {w : World} (h : RowC t B l w) (j : Nat) (hj : j < l.length) : w.cell? ⟨B, j, none⟩ = some (.int .u8 (l[j]).toNat) := by
  obtain ⟨cs, fz, hb, ht⟩ := h.has
  have : w.cell? ⟨B, j, none⟩ = cs[j]? := by simp [World.cell?, hb]
  rw [this, ← Array.getElem?_toList]
  have e : (cs.toList.take l.length)[j]? = cs.toList[j]? := by rw [List.getElem?_take, if_pos hj]
  rw [← e, ht]
  simp [Lib.byteCells, hj]
theorem RowC.step {t : TypeId} {B : Nat} {l : List UInt8} {w : World} (h : RowC t B l w) (j : Nat) (d : UInt8) (v : Int) (hv : v = (d.toNat : Int)) : RowC t B (l.set j d) (w.setCell ⟨B, j, none⟩ (.int .u8 v)) := by
  obtain ⟨cs, fz, hb, ht⟩ := h.has
  subst hv
  refine ⟨⟨cs.setIfInBounds j (.int .u8 d.toNat), fz, ?_, ?_⟩, fun i hi => ?_⟩
  · simp [World.setCell, Array.getElem?_modify, hb]
  · rw [List.length_set, Array.toList_setIfInBounds, List.take_set, ht]
    simp [Lib.byteCells, List.map_set]
  · rw [World.frozen?_setCell]; exact h.free i (by simpa using hi)
theorem RowC.below {t : TypeId} {B : Nat} {l : List UInt8} {w w' : World} (h : RowC t B l w) (k : Below w.heap.size w w') : RowC t B l w' := by
  obtain ⟨cs, fz, hb, ht⟩ := h.has
  exact ⟨⟨cs, fz, by rw [k.block B h.lt]; exact hb, ht⟩, fun j hj => by rw [k.frozen (p := ⟨B, j, none⟩) h.lt]; exact h.free j hj⟩
theorem RowC.drewN {t : TypeId} {B : Nat} {l : List UInt8} {w : World} (h : RowC t B l w) (n : Nat) : RowC t B l (w.drewN n) := ⟨h.has, h.free⟩
/-- string(b[k:]) -/
theorem RowC.conv {t : TypeId} {B : Nat} {l : List UInt8} {w : World} (h : RowC t B l w) (k : Nat) (hk : k ≤ l.length) (n c : Nat) (hn : n = l.length - k) : (convert 34 9 (.slice (some ⟨B, k, none⟩) n c)).run Tryd.prog w = .ok (.string ⟨(l.drop k).toArray⟩) w := by
  have hlen : n = (l.drop k).length := by rw [List.length_drop]; exact hn
  rw [hlen]
  refine run_convert_bytes_back w 34 9 5 ⟨B, k, none⟩ c (l.drop k) Tryd.underlying34 Tryd.underlying5 Tryd.underlying9 (fun j hj => ?_)
  rw [show (⟨B, k, none⟩ : Addr).add j = ⟨B, k + j, none⟩ by unfold Addr.add; split <;> simp_all, h.cell (k + j) (by rw [List.length_drop] at hj; omega), List.getElem_drop]

theorem Tryd_info5 : (Tryd.prog.info? 5).map (fun i => (i.zero, i.size, i.bytes)) = some (some (.int .u8 0), 1, 1) := by kernel_rfl

/-- make([]byte, n) -/
theorem step_make {ops : Array Oper} {rest : List Oper} {o : Oper} {a : Act} {Q : Exit → Act → World → Prop} {w : World} (hgd : o.guard = none) (c : Operand) (ho : o.op = .makeSlice 34 c c) (C : Int) (n : Nat) (hc : a.eval c = .int .i64 C) (hC : C = (n : Int)) (hn : n ≤ 2000000)
    (h : ∀ w', Hid (RowC 5 w.heap.size (List.replicate n 0) w') → Hid (Below w.heap.size w w') → wpList Tryd.prog ops Q rest (a.put o.dst (.slice (some ⟨w.heap.size, 0, none⟩) n n)) w') :
    wpList Tryd.prog ops Q (o :: rest) a w := by
  obtain ⟨i0, hi, hz0, hz1, hz2⟩ := info_parts Tryd_info5
  refine wpList_make_full _ hgd c c 34 ho w.heap.size 5 i0 (.int .u8 0) 1 Tryd.underlying34 hi hz0 hz1 .i64 .i64 C C n hc hc hC hC (by rw [hz2]; omega) (by unfold maxLen; omega) (Nat.le_refl _) ?_
  intro w' hown hg
  refine h w' ?_ ((Below.refl _ _).grown hg (Nat.le_refl _) (fun k e => by cases e))
  rcases hown.2 with ⟨h', _⟩ | ⟨g, cap, cur, h', _, hgg, _, _, _, ht⟩
  · simp at h'
  · simp only [Value.slice.injEq, Option.some.injEq, Addr.mk.injEq, and_true, true_and] at h'
    obtain ⟨rfl, rfl⟩ := h'
    refine ⟨⟨cur, (0, 0), hgg, ?_⟩, fun j _ => hown.frozenAt j⟩
    rw [List.length_replicate]
    simp only [Nat.mul_one] at ht
    rw [ht, show (Value.int .u8 0).cells = #[.int .u8 0] from rfl, toList_madeCells_one]
    simp [Lib.byteCells]
end Go.Proofs.Qxb6606039aDoor
