import Derived.Test.Qxb6606039aDoorItoa
namespace Go.Proofs.Qxb6606039aDoor
open Go.RowKit

/-- A signed row of digits' worth. -/
def sgn (neg : Bool) (l : List UInt8) : Int := if neg then -(val l : Int) else (val l : Int)

/-- Where two rows part first. -/
theorem val_cmp {p s t : List UInt8} {x y : UInt8} (hx : isDig x) (hy : isDig y) (hs : Dig s) (hl : s.length = t.length) (h : x.toNat < y.toNat) : val (p ++ x :: s) < val (p ++ y :: t) := by
  rw [val_append, val_append, val, val, List.length_cons, List.length_cons, hl]
  have h1 := val_lt hs
  rw [hl] at h1
  have h2 : dv x + 1 ≤ dv y := by unfold dv; unfold isDig at hx hy; omega
  have h3 : (dv x + 1) * 10 ^ t.length ≤ dv y * 10 ^ t.length := Nat.mul_le_mul_right _ h2
  rw [Nat.add_mul] at h3
  omega

theorem split_at (s : ByteArray) (K : Nat) (h : K < s.size) : s.data.toList = s.data.toList.take K ++ s[K] :: s.data.toList.drop (K + 1) := by
  have hl : K < s.data.toList.length := by rw [← Lib.size_eq]; exact h
  have e : s.data.toList[K] = s[K] := by
    have := Lib.data_getElem? s K h
    rw [List.getElem?_eq_getElem hl] at this
    exact Option.some.inj this
  conv => lhs; rw [← List.take_append_drop K s.data.toList, List.drop_eq_getElem_cons hl, e]

theorem cmp_any (a b : ByteArray) (hb : b.size ≤ 2000000) (hA : Can a.data.toList) (hB : Can b.data.toList) :
    (val a.data.toList < val b.data.toList ∧ ∀ w, Calls Tryd.prog 16 #[.string a, .string b] w fun e w' => e = .returned (.int .i64 (-1)) ∧ ∃ n, w' = w.drewN n) ∨
    (val a.data.toList = val b.data.toList ∧ ∀ w, Calls Tryd.prog 16 #[.string a, .string b] w fun e w' => e = .returned (.int .i64 0) ∧ ∃ n, w' = w.drewN n) ∨
    (val b.data.toList < val a.data.toList ∧ ∀ w, Calls Tryd.prog 16 #[.string a, .string b] w fun e w' => e = .returned (.int .i64 1) ∧ ∃ n, w' = w.drewN n) := by
  have la := Lib.size_eq a
  have lb := Lib.size_eq b
  rcases Nat.lt_trichotomy a.size b.size with h | h | h
  · refine .inl ⟨?_, fun w => cmp_short a b w h⟩
    rcases Nat.lt_or_ge (val a.data.toList) (val b.data.toList) with g | g
    · exact g
    · have := hB.len_le hA g; omega
  · obtain ⟨K, _, k2, k3, k4⟩ := first_of (fun j => if h : j < a.size ∧ j < b.size then (((a[j]'h.1).toNat : Int) != ((b[j]'h.2).toNat : Int)) else true) a.size 0 a.size (by omega)
    have hin : ∀ j (h1 : j < a.size) (h2 : j < b.size), j < K → (((a[j]).toNat : Int) != ((b[j]).toNat : Int)) = false := fun j h1 h2 hj => by
      have := k3 j (by omega) hj; rw [dif_pos ⟨h1, h2⟩] at this; exact this
    have hpre : a.data.toList.take K = b.data.toList.take K := by
      apply List.ext_getElem?
      intro j
      by_cases hj : j < K
      · rw [List.getElem?_take, List.getElem?_take, if_pos hj, if_pos hj, Lib.data_getElem? a j (by omega), Lib.data_getElem? b j (by omega)]
        have := hin j (by omega) (by omega) hj
        congr 1
        apply UInt8.toNat_inj.1
        simp at this
        omega
      · rw [List.getElem?_take, List.getElem?_take, if_neg hj, if_neg hj]
    by_cases hK : K < a.size
    · have hKb : K < b.size := by omega
      have hne : (((a[K]).toNat : Int) != ((b[K]).toNat : Int)) = true := by have := k4 hK; rw [dif_pos ⟨hK, hKb⟩] at this; exact this
      have sa := split_at a K hK
      have sb := split_at b K hKb
      rw [← hpre] at sb
      have dA := dig_all hA.1 K hK
      have dB := dig_all hB.1 K hKb
      have hlen : (a.data.toList.drop (K + 1)).length = (b.data.toList.drop (K + 1)).length := by rw [List.length_drop, List.length_drop]; omega
      by_cases hlt : (a[K]).toNat < (b[K]).toNat
      · refine .inl ⟨?_, fun w => cmp_same a b K (-1) w h (by omega) k2 hin (fun _ _ => ⟨hne, .inl ⟨hlt, rfl⟩⟩) (fun e => by omega)⟩
        rw [sa, sb]
        exact val_cmp dA dB (hA.1.drop _) hlen hlt
      · refine .inr (.inr ⟨?_, fun w => cmp_same a b K 1 w h (by omega) k2 hin (fun _ _ => ⟨hne, .inr ⟨hlt, rfl⟩⟩) (fun e => by omega)⟩)
        rw [sa, sb]
        refine val_cmp dB dA (hB.1.drop _) hlen.symm ?_
        simp at hne
        omega
    · refine .inr (.inl ⟨?_, fun w => cmp_same a b K 0 w h (by omega) k2 hin (fun h1 _ => by omega) (fun _ => rfl)⟩)
      have e : K = a.size := by omega
      have e1 : a.data.toList.take K = a.data.toList := List.take_of_length_le (by omega)
      have e2 : b.data.toList.take K = b.data.toList := List.take_of_length_le (by omega)
      rw [← e1, hpre, e2]
  · refine .inr (.inr ⟨?_, fun w => cmp_long a b w h⟩)
    rcases Nat.lt_or_ge (val b.data.toList) (val a.data.toList) with g | g
    · exact g
    · have := hA.len_le hB g; omega

theorem emp_iff (d : ByteArray) : d.toList.isEmpty = true ↔ d.data.toList = [] := by rw [Lib.toList_data, List.isEmpty_iff]

theorem res_same {q : Bool} {A B : List UInt8} {d : ByteArray} (h : Can d.data.toList) (hv : val d.data.toList = val A + val B) : Res (sgn q A + sgn q B) (q && !d.toList.isEmpty) d.data.toList := by
  refine ⟨h, ?_, fun hq he => ?_⟩
  · cases q with
    | false => simp [sgn]; omega
    | true =>
      cases hz : d.toList.isEmpty with
      | true =>
        have := (emp_iff d).1 hz
        rw [this] at hv ⊢
        simp [sgn, val] at hv ⊢
        omega
      | false => simp [sgn]; omega
  · rw [(emp_iff d).2 he] at hq
    simp at hq

set_option maxHeartbeats 800000 in
theorem signed_same (q : Bool) (a b : ByteArray) (w : World) (ha : a.size ≤ 1048600) (hb : b.size ≤ 1048600) (hA : Hid (Can a.data.toList)) (hB : Hid (Can b.data.toList)) :
    Calls Tryd.prog 10 #[.bool q, .string a, .bool q, .string b] w fun e w' => (∃ (n : Bool) (d : ByteArray), e = .returned (.tuple #[.bool n, .string d]) ∧ Res (sgn q a.data.toList + sgn q b.data.toList) n d.data.toList) ∧ Below w.heap.size w w' := by
  cases q
  all_goals
    go_enter Tryd.func10, Tryd.ntmps10
    go_wp2_with (go_at_call 15; refine (add_any a b _ ha hb hA.out.1 hB.out.1).mono ?_; rintro e w1 ⟨⟨d, rfl, hc, hv⟩, hb1⟩; have HC : Hid (Can d.data.toList ∧ val d.data.toList = val a.data.toList + val b.data.toList) := ⟨hc, hv⟩; clear hc hv)
    go_ret2
    exact ⟨⟨_, d, rfl, res_same HC.out.1 HC.out.2⟩, hb1⟩

set_option maxHeartbeats 800000 in
theorem signed_zero (q : Bool) (a b : ByteArray) (w : World) (hC : Hid (∀ w, Calls Tryd.prog 16 #[.string a, .string b] w fun e w' => e = .returned (.int .i64 0) ∧ ∃ n, w' = w.drewN n)) (hv : Hid (val a.data.toList = val b.data.toList)) :
    Calls Tryd.prog 10 #[.bool q, .string a, .bool (!q), .string b] w fun e w' => (∃ (n : Bool) (d : ByteArray), e = .returned (.tuple #[.bool n, .string d]) ∧ Res (sgn q a.data.toList + sgn (!q) b.data.toList) n d.data.toList) ∧ Below w.heap.size w w' := by
  have HZ : Hid (Res (sgn q a.data.toList + sgn (!q) b.data.toList) false []) := ⟨can_nil, by have := hv.out; cases q <;> simp [sgn, val] <;> omega, fun h => by cases h⟩
  cases q
  all_goals
    go_enter Tryd.func10, Tryd.ntmps10
    go_wp2_with (go_at_call 16; refine (hC.out _).mono ?_; rintro e w1 ⟨rfl, nn, rfl⟩)
    go_ret2
    exact ⟨⟨_, _, rfl, HZ.out⟩, below_drewN (Below.refl _ _) _⟩

set_option maxHeartbeats 800000 in
theorem signed_more (q : Bool) (a b : ByteArray) (w : World) (ha : a.size ≤ 1048600) (hl : b.size ≤ a.size) (hC : Hid (∀ w, Calls Tryd.prog 16 #[.string a, .string b] w fun e w' => e = .returned (.int .i64 1) ∧ ∃ n, w' = w.drewN n)) (hv : Hid (val b.data.toList < val a.data.toList)) (hA : Hid (Can a.data.toList)) (hB : Hid (Can b.data.toList)) :
    Calls Tryd.prog 10 #[.bool q, .string a, .bool (!q), .string b] w fun e w' => (∃ (n : Bool) (d : ByteArray), e = .returned (.tuple #[.bool n, .string d]) ∧ Res (sgn q a.data.toList + sgn (!q) b.data.toList) n d.data.toList) ∧ Below w.heap.size w w' := by
  have HZ : ∀ d : ByteArray, Can d.data.toList → val d.data.toList = val a.data.toList - val b.data.toList → Res (sgn q a.data.toList + sgn (!q) b.data.toList) q d.data.toList := fun d h1 h2 =>
    ⟨h1, by have := hv.out; cases q <;> simp [sgn] <;> omega, fun _ he => by have := hv.out; rw [he] at h2; simp [val] at h2; omega⟩
  have HZZ := HZ
  have HY : Hid (∀ d : ByteArray, Can d.data.toList → val d.data.toList = val a.data.toList - val b.data.toList → Res (sgn q a.data.toList + sgn (!q) b.data.toList) q d.data.toList) := HZ
  clear HZ HZZ
  cases q
  all_goals
    go_enter Tryd.func10, Tryd.ntmps10
    go_wp2_with (first
      | (go_at_call 16; refine (hC.out _).mono ?_; rintro e w1 ⟨rfl, nn, rfl⟩)
      | (go_at_call 17; refine (sub_any a b _ ha hA.out.1 hB.out.1 hl (Nat.le_of_lt hv.out)).mono ?_; rintro e w1 ⟨⟨d, rfl, hc, hvv⟩, hb1⟩; have HC : Hid (Can d.data.toList ∧ val d.data.toList = val a.data.toList - val b.data.toList) := ⟨hc, hvv⟩; clear hc hvv))
    go_ret2
    exact ⟨⟨_, d, rfl, HY.out d HC.out.1 HC.out.2⟩, (below_drewN (Below.refl _ _) _).trans hb1⟩

set_option maxHeartbeats 800000 in
theorem signed_less (q : Bool) (a b : ByteArray) (w : World) (hb : b.size ≤ 1048600) (hl : a.size ≤ b.size) (hC : Hid (∀ w, Calls Tryd.prog 16 #[.string a, .string b] w fun e w' => e = .returned (.int .i64 (-1)) ∧ ∃ n, w' = w.drewN n)) (hv : Hid (val a.data.toList < val b.data.toList)) (hA : Hid (Can a.data.toList)) (hB : Hid (Can b.data.toList)) :
    Calls Tryd.prog 10 #[.bool q, .string a, .bool (!q), .string b] w fun e w' => (∃ (n : Bool) (d : ByteArray), e = .returned (.tuple #[.bool n, .string d]) ∧ Res (sgn q a.data.toList + sgn (!q) b.data.toList) n d.data.toList) ∧ Below w.heap.size w w' := by
  have HY : Hid (∀ d : ByteArray, Can d.data.toList → val d.data.toList = val b.data.toList - val a.data.toList → Res (sgn q a.data.toList + sgn (!q) b.data.toList) (!q) d.data.toList) := fun d h1 h2 =>
    ⟨h1, by have := hv.out; cases q <;> simp [sgn] <;> omega, fun _ he => by have := hv.out; rw [he] at h2; simp [val] at h2; omega⟩
  cases q
  all_goals
    go_enter Tryd.func10, Tryd.ntmps10
    go_wp2_with (first
      | (go_at_call 16; refine (hC.out _).mono ?_; rintro e w1 ⟨rfl, nn, rfl⟩)
      | (go_at_call 17; refine (sub_any b a _ hb hB.out.1 hA.out.1 hl (Nat.le_of_lt hv.out)).mono ?_; rintro e w1 ⟨⟨d, rfl, hc, hvv⟩, hb1⟩; have HC : Hid (Can d.data.toList ∧ val d.data.toList = val b.data.toList - val a.data.toList) := ⟨hc, hvv⟩; clear hc hvv))
    go_ret2
    exact ⟨⟨_, d, rfl, HY.out d HC.out.1 HC.out.2⟩, (below_drewN (Below.refl _ _) _).trans hb1⟩

/-- zzSignedAdd. -/
theorem signed_any (p q : Bool) (a b : ByteArray) (w : World) (ha : a.size ≤ 1048600) (hb : b.size ≤ 1048600) (hA : Can a.data.toList) (hB : Can b.data.toList) :
    Calls Tryd.prog 10 #[.bool p, .string a, .bool q, .string b] w fun e w' => (∃ (n : Bool) (d : ByteArray), e = .returned (.tuple #[.bool n, .string d]) ∧ Res (sgn p a.data.toList + sgn q b.data.toList) n d.data.toList) ∧ Below w.heap.size w w' := by
  by_cases h : p = q
  · subst h; exact signed_same p a b w ha hb hA hB
  · obtain rfl : q = !p := by cases p <;> cases q <;> simp_all
    have la := Lib.size_eq a
    have lb := Lib.size_eq b
    rcases cmp_any a b (by omega) hA hB with ⟨hv, hc⟩ | ⟨hv, hc⟩ | ⟨hv, hc⟩
    · exact signed_less p a b w hb (by have := hA.len_le hB (Nat.le_of_lt hv); omega) hc hv hA hB
    · exact signed_zero p a b w hc hv
    · exact signed_more p a b w ha (by have := hB.len_le hA (Nat.le_of_lt hv); omega) hc hv hA hB
end Go.Proofs.Qxb6606039aDoor
