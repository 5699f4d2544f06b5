import Derived.Test.Qxb6605421aDoorMain
namespace Go.Proofs.Qxb6605421aDoor
open Go.RowKit

theorem one_cell (w : World) (v : Value) (t : TypeId) : ∀ (j : Nat) u, [v][j]? = some u → (w.alloc (.cells #[v] t)).cell? ((⟨w.heap.size, 0, none⟩ : Addr).add j) = some u := by
  intro j u hj
  match j, hj with
  | 0, hj => simp at hj; subst hj; simp [Addr.add]
theorem two_cell (w : World) (v v' : Value) (t : TypeId) : ∀ (j : Nat) u, [v, v'][j]? = some u → (w.alloc (.cells #[v, v'] t)).cell? ((⟨w.heap.size, 0, none⟩ : Addr).add j) = some u := by
  intro j u hj
  match j, hj with
  | 0, hj => simp at hj; subst hj; simp [Addr.add]
  | 1, hj => simp at hj; subst hj; simp [Addr.add]

theorem own_slice {B n : Nat} {v : Value} {w : World} {xs : List Value} (h : w.ownsRow B 5 1 v n xs) : ∃ a c, v = .slice a n c := by
  rcases h.2 with ⟨rfl, h0⟩ | ⟨g, cap, cur, rfl, _⟩
  · exact ⟨none, 0, by rw [h0]⟩
  · exact ⟨_, cap, rfl⟩
theorem own_ge {B n : Nat} {v : Value} {w : World} {xs : List Value} (h : w.ownsRow B 5 1 v n xs) : ∀ k, v.ownBlock = some k → B ≤ k := fun k e => (h.lt k e).1

section
variable {ops : Array Oper} {rest : List Oper} {o : Oper} {a : Act} {Q : Exit → Act → World → Prop}

theorem step_one {w : World} {x0 : Int} (w0 : World) (hgd : o.guard = none) (s x : Operand) (ho : o.op = .call { callee := .builtin .append, args := #[s, x], argTypes := #[27, 27] }) (B : Nat) (l : List UInt8) (v : Value) (hs : a.eval s = v) (hO : Own B l v w) (m : UInt8) (hm : x0 = (m.toNat : Int))
    (hx : a.eval x = .slice (some ⟨w.heap.size, 0, none⟩) 1 1) (n : Nat) (hn : l.length + 1 = n) (hlen : n ≤ 2000000) (hB : Below B w0 w) (hb : B ≤ w.heap.size)
    (h : ∀ a5 c5 w', Hid (Own B (l ++ [m]) (.slice a5 n c5) w') → Hid (Below B w0 w') → B ≤ w'.heap.size → wpList Tryd.prog ops Q rest (a.put o.dst (.slice a5 n c5)) w') :
    wpList Tryd.prog ops Q (o :: rest) a (w.alloc (.cells #[.int .u8 x0] 5)) := by
  obtain ⟨i0, hi, hz0, hz1, hz2⟩ := info_parts Tryd_info5
  subst hm
  refine wpList_append_own _ hgd s x 27 ho B 5 i0 (.int .u8 0) 1 1 Tryd.underlying27 hi hz0 hz1 hz2 rfl (by decide) v l.length _ hs (hO.alloc _) ⟨w.heap.size, 0, none⟩ 1 1 [.int .u8 (m.toNat : Int)] hx rfl (one_cell w _ _) (by simp [Value.oneCell']) (by unfold maxLen; omega) (by omega) (by simp; omega) ?_
  intro v' w' hown hg _
  rw [hn] at hown
  obtain ⟨a5, c5, rfl⟩ := own_slice hown
  refine h a5 c5 w' ?_ ?_ ?_
  · rw [← hn] at hown ⊢; exact own_more hown rfl rfl
  · exact (hB.alloc hb _).grown hg (by simp; omega) (own_ge hO)
  · have := hg.size; simp at this; omega

theorem step_two {w : World} (w0 : World) (hgd : o.guard = none) (s x : Operand) (ho : o.op = .call { callee := .builtin .append, args := #[s, x], argTypes := #[27, 27] }) (B : Nat) (l : List UInt8) (v : Value) (hs : a.eval s = v) (hO : Own B l v w)
    (hx : a.eval x = .slice (some ⟨w.heap.size, 0, none⟩) 2 2) (n : Nat) (hn : l.length + 2 = n) (hlen : n ≤ 2000000) (hB : Below B w0 w) (hb : B ≤ w.heap.size)
    (h : ∀ a5 c5 w', Hid (Own B (l ++ [32, 34]) (.slice a5 n c5) w') → Hid (Below B w0 w') → B ≤ w'.heap.size → wpList Tryd.prog ops Q rest (a.put o.dst (.slice a5 n c5)) w') :
    wpList Tryd.prog ops Q (o :: rest) a (w.alloc (.cells #[.int .u8 32, .int .u8 34] 5)) := by
  obtain ⟨i0, hi, hz0, hz1, hz2⟩ := info_parts Tryd_info5
  refine wpList_append_own _ hgd s x 27 ho B 5 i0 (.int .u8 0) 1 1 Tryd.underlying27 hi hz0 hz1 hz2 rfl (by decide) v l.length _ hs (hO.alloc _) ⟨w.heap.size, 0, none⟩ 2 2 [.int .u8 32, .int .u8 34] hx rfl (two_cell w _ _ _) (by simp [Value.oneCell']) (by unfold maxLen; omega) (by omega) (by simp; omega) ?_
  intro v' w' hown hg _
  rw [hn] at hown
  obtain ⟨a5, c5, rfl⟩ := own_slice hown
  refine h a5 c5 w' ?_ ?_ ?_
  · rw [← hn] at hown ⊢; exact own_more hown rfl rfl
  · exact (hB.alloc hb _).grown hg (by simp; omega) (own_ge hO)
  · have := hg.size; simp at this; omega

theorem step_str {w : World} (w0 : World) (hgd : o.guard = none) (s x : Operand) (ho : o.op = .call { callee := .builtin .append, args := #[s, x], argTypes := #[27, 9] }) (B : Nat) (l : List UInt8) (v : Value) (hs : a.eval s = v) (hO : Own B l v w) (m : ByteArray)
    (hx : a.eval x = .string m) (n : Nat) (hn : l.length + m.size = n) (hlen : n ≤ 2000000) (hB : Below B w0 w) (hb : B ≤ w.heap.size)
    (h : ∀ a5 c5 w', Hid (Own B (l ++ m.data.toList) (.slice a5 n c5) w') → Hid (Below B w0 w') → B ≤ w'.heap.size → wpList Tryd.prog ops Q rest (a.put o.dst (.slice a5 n c5)) w') :
    wpList Tryd.prog ops Q (o :: rest) a w := by
  obtain ⟨i0, hi, hz0, hz1, hz2⟩ := info_parts Tryd_info5
  refine Lib.wpList_append_own_string _ hgd s x 27 9 ho B 5 i0 Tryd.underlying27 Tryd.underlying9 hi hz0 hz1 hz2 v l.length _ hs hO m hx (by unfold maxLen; omega) (by omega) hb ?_
  intro v' w' hown hg _
  rw [hn] at hown
  obtain ⟨a5, c5, rfl⟩ := own_slice hown
  refine h a5 c5 w' ?_ ?_ ?_
  · rw [← hn] at hown ⊢; exact own_more hown (Lib.size_eq m) rfl
  · exact hB.grown hg hb (own_ge hO)
  · exact Nat.le_trans hb hg.size

theorem step_make {w : World} (hgd : o.guard = none) (c : Operand) (ho : o.op = .makeSlice 27 (.const (.int .i64 0)) c) (C : Int) (n : Nat) (hc : a.eval c = .int .i64 C) (hC : C = (n : Int)) (hn : n ≤ 2000000)
    (h : ∀ a5 c5 w', Hid (Own w.heap.size [] (.slice a5 0 c5) w') → Hid (Below w.heap.size w w') → w.heap.size ≤ w'.heap.size → wpList Tryd.prog ops Q rest (a.put o.dst (.slice a5 0 c5)) w') :
    wpList Tryd.prog ops Q (o :: rest) a w := by
  obtain ⟨i0, hi, hz0, hz1, hz2⟩ := info_parts Tryd_info5
  refine wpList_make_own _ hgd (.const (.int .i64 0)) c 27 ho w.heap.size 5 i0 (.int .u8 0) 1 Tryd.underlying27 hi hz0 hz1 .i64 .i64 C n rfl hc hC (by rw [hz2]; omega) (by unfold maxLen; omega) (Nat.le_refl _) ?_
  intro w' hown hg
  exact h _ _ w' hown ((Below.refl _ _).grown hg (Nat.le_refl _) (fun k e => by cases e)) hg.size
end
end Go.Proofs.Qxb6605421aDoor
