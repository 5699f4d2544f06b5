import Derived.Test.Qxb6606039aDoorSigned
import Derived.Test.Qxb6606039aDoorShelf
import Derived.Test.Qxb6606039aDoorDec
import Derived.Test.Qxb6606039aDoorRows
namespace Go.Proofs.Qxb6606039aDoor
open Go.RowKit

/-- The name of strconv's table of powers of ten, as the row lists it. -/
def tabName : String := (Rows.fnPlusAgreesWithSchoolbookAdditionRow.laid.getD 2 ("", .nil)).1
/-- strconv's table of powers of ten stands as start-up laid it. -/
def Tab (w : World) : Prop := Lib.TabIs Tryd.prog w tabName .u64 Lib.pow10Tab

theorem grow_below (w : World) (k : Nat) (os : Array Obj) : Below w.heap.size w (Go.Sort.grow (w.drewN k) os) :=
  ⟨rfl, rfl, rfl, by simp, fun j hj => by
    show (w.heap ++ os)[j]? = w.heap[j]?
    rw [Array.getElem?_append_left hj]⟩

/-- strconv.FormatInt(x, 10). -/
theorem fmt_any (x : Int) (w : World) (h0 : -9223372036854775808 ≤ x) (h1 : x ≤ 9223372036854775807) (ht : Tab w) :
    Calls Tryd.prog 22 #[.int .i64 x, .int .i64 10] w fun e w' => e = .returned (.string ⟨(Lib.itoa x).toArray⟩) ∧ Below w.heap.size w w' :=
  (Any.strconv_FormatInt_10 Tryd.laysM173 x h0 h1 w ht).mono fun _ _ ⟨he, k, os, hw⟩ => ⟨he, hw ▸ grow_below w k os⟩

set_option maxHeartbeats 800000 in
/-- integer.String, of no digits. -/
theorem string_zero (q : Bool) (d : ByteArray) (w : World) (h : d.toList.isEmpty = true) :
    Calls Tryd.prog 20 #[.agg #[.bool q, .string d]] w fun e w' => e = .returned (.string ⟨#[48]⟩) ∧ Below w.heap.size w w' := by
  go_enter Tryd.func20, Tryd.ntmps20
  go_wp2
  go_ret
  exact ⟨rfl, (Below.refl _ _).alloc (Nat.le_refl _) _⟩
set_option maxHeartbeats 800000 in
theorem string_pos (d : ByteArray) (w : World) (h : d.toList.isEmpty = false) :
    Calls Tryd.prog 20 #[.agg #[.bool false, .string d]] w fun e w' => e = .returned (.string d) ∧ Below w.heap.size w w' := by
  go_enter Tryd.func20, Tryd.ntmps20
  go_wp2
  go_ret
  exact ⟨rfl, (Below.refl _ _).alloc (Nat.le_refl _) _⟩
set_option maxHeartbeats 800000 in
theorem string_neg (d : ByteArray) (w : World) (h : d.toList.isEmpty = false) (hd : d.size ≤ 2000000) :
    Calls Tryd.prog 20 #[.agg #[.bool true, .string d]] w fun e w' => e = .returned (.string (⟨#[45]⟩ ++ d)) ∧ Below w.heap.size w w' := by
  go_enter Tryd.func20, Tryd.ntmps20
  go_wp2
  go_ret
  exact ⟨rfl, (Below.refl _ _).alloc (Nat.le_refl _) _⟩

set_option maxHeartbeats 800000 in
set_option maxRecDepth 100000 in
theorem parse_core (s U D : ByteArray) (q : Bool) (w : World)
    (h1 : Hid (∀ w, Calls Tryd.prog 27 #[.string s, .string ⟨#[43]⟩] w fun e w' => e = .returned (.string s) ∧ w' = w))
    (h2 : Hid (∀ w, Calls Tryd.prog 28 #[.string s, .string ⟨#[45]⟩] w fun e w' => e = .returned (.tuple #[.string U, .bool q]) ∧ w' = w))
    (h3 : Hid (∀ w, Calls Tryd.prog 23 #[.string (if q then U else s), .string ⟨#[48]⟩] w fun e w' => e = .returned (.string D) ∧ w' = w)) :
    Calls Tryd.prog 21 #[.string s] w fun e w' => e = .returned (.agg #[.bool (q && !D.toList.isEmpty), .string D]) ∧ Below w.heap.size w w' := by
  cases q with
  | false =>
    simp only [Bool.false_eq_true, if_false] at h3
    go_enter Tryd.func21, Tryd.ntmps21
    go_wp2_with (first
      | (go_at_call 27; refine (h1.out _).mono ?_; rintro e w1 ⟨rfl, rfl⟩)
      | (go_at_call 28; refine (h2.out _).mono ?_; rintro e w1 ⟨rfl, rfl⟩)
      | (go_at_call 23; refine (h3.out _).mono ?_; rintro e w1 ⟨rfl, rfl⟩))
    refine bodyPost_ret (v := .agg #[.bool false, .string D]) (by simp [results, Tryd.results21, go_sem]) rfl ⟨?_, ?_⟩
    · simp
    · exact ((Below.refl _ w).alloc (Nat.le_refl _) _).alloc (by simp) _
  | true =>
    simp only [if_true] at h3
    go_enter Tryd.func21, Tryd.ntmps21
    go_wp2_with (first
      | (go_at_call 27; refine (h1.out _).mono ?_; rintro e w1 ⟨rfl, rfl⟩)
      | (go_at_call 28; refine (h2.out _).mono ?_; rintro e w1 ⟨rfl, rfl⟩)
      | (go_at_call 23; refine (h3.out _).mono ?_; rintro e w1 ⟨rfl, rfl⟩))
    refine bodyPost_ret (v := .agg #[.bool (!D.toList.isEmpty), .string D]) (by simp [results, Tryd.results21, go_sem]) rfl ⟨?_, ?_⟩
    · simp
    · exact ((Below.refl _ w).alloc (Nat.le_refl _) _).alloc (by simp) _

theorem trimPrefix_none (s : ByteArray) (c : UInt8) (h : Lib.hasPrefix s.data.toList [c] = false) : (⟨(Lib.trimPrefix s.data.toList [c]).toArray⟩ : ByteArray) = s := by
  unfold Lib.trimPrefix
  rw [h]
  cases s; simp
theorem ofList_data (l : List UInt8) : (⟨l.toArray⟩ : ByteArray).data.toList = l := by simp

/-- parseInteger reads back what strconv.FormatInt wrote. -/
theorem parse_itoa (x : Int) (w : World) : ∃ (n : Bool) (d : ByteArray), Res x n d.data.toList ∧
    Calls Tryd.prog 21 #[.string ⟨(Lib.itoa x).toArray⟩] w fun e w' => e = .returned (.agg #[.bool n, .string d]) ∧ Below w.heap.size w w' := by
  have hplus : ∀ l : List UInt8, Lib.hasPrefix l [43] = false → ∀ w, Calls Tryd.prog 27 #[.string ⟨l.toArray⟩, .string ⟨#[43]⟩] w fun e w' => e = .returned (.string ⟨l.toArray⟩) ∧ w' = w := fun l hl w => by
    have := Tryd.strings_TrimPrefix ⟨l.toArray⟩ ⟨#[43]⟩ w
    rw [trimPrefix_none ⟨l.toArray⟩ 43 (by rw [ofList_data]; exact hl)] at this
    exact this
  have htl : ∀ (s : ByteArray) w, Calls Tryd.prog 23 #[.string s, .string ⟨#[48]⟩] w fun e w' => e = .returned (.string ⟨(trim0 s.data.toList).toArray⟩) ∧ w' = w := fun s w => Tryd.strings_TrimLeft_one s 48 (by decide) w
  have hdig : ∀ (u : Nat) (c : UInt8), ¬ isDig c → Lib.hasPrefix (Lib.decDigits u) [c] = false := fun u c hc => by
    rw [hasPrefix_one]
    have h1 := (dec_facts u).1
    cases hq : Lib.decDigits u with
    | nil => rfl
    | cons a l =>
      rw [hq] at h1
      simp only [beq_eq_false_iff_ne]
      intro e
      exact hc (e ▸ h1.head)
  by_cases hx : x < 0
  · have hu : 0 < x.natAbs := by omega
    have hcan := dec_can hu
    rw [itoa_neg_eq hx]
    have hcut : ∀ w, Calls Tryd.prog 28 #[.string ⟨(45 :: Lib.decDigits x.natAbs).toArray⟩, .string ⟨#[45]⟩] w fun e w' => e = .returned (.tuple #[.string ⟨(Lib.decDigits x.natAbs).toArray⟩, .bool true]) ∧ w' = w := fun w => by
      have := Tryd.strings_CutPrefix ⟨(45 :: Lib.decDigits x.natAbs).toArray⟩ ⟨#[45]⟩ w
      have e1 : Lib.hasPrefix (45 :: Lib.decDigits x.natAbs) [45] = true := by rw [hasPrefix_one]; rfl
      have e2 : Lib.trimPrefix (45 :: Lib.decDigits x.natAbs) [45] = Lib.decDigits x.natAbs := by unfold Lib.trimPrefix; rw [e1]; rfl
      rw [ofList_data] at this
      have e3 : (⟨#[45]⟩ : ByteArray).data.toList = [45] := rfl
      rw [e3, e1, e2] at this
      exact this
    have ht3 : ∀ w, Calls Tryd.prog 23 #[.string (if true then ⟨(Lib.decDigits x.natAbs).toArray⟩ else ⟨(45 :: Lib.decDigits x.natAbs).toArray⟩), .string ⟨#[48]⟩] w fun e w' => e = .returned (.string ⟨(Lib.decDigits x.natAbs).toArray⟩) ∧ w' = w := fun w => by
      have := htl ⟨(Lib.decDigits x.natAbs).toArray⟩ w
      rw [ofList_data, trim0_id hcan] at this
      exact this
    refine ⟨_, ⟨(Lib.decDigits x.natAbs).toArray⟩, ?_, parse_core ⟨(45 :: Lib.decDigits x.natAbs).toArray⟩ ⟨(Lib.decDigits x.natAbs).toArray⟩ ⟨(Lib.decDigits x.natAbs).toArray⟩ true w (hplus _ (by rw [hasPrefix_one]; rfl)) hcut ht3⟩
    have hne : (⟨(Lib.decDigits x.natAbs).toArray⟩ : ByteArray).toList.isEmpty = false := by
      cases hq : (⟨(Lib.decDigits x.natAbs).toArray⟩ : ByteArray).toList.isEmpty with
      | false => rfl
      | true => exact absurd ((emp_iff _).1 hq) (by rw [ofList_data]; exact dec_ne _)
    rw [hne, ofList_data]
    refine ⟨hcan, ?_, fun _ => dec_ne _⟩
    rw [(dec_facts _).2.1]
    simp
    omega
  · rw [itoa_pos_eq hx]
    have hD : ¬ isDig 45 := by unfold isDig; decide
    have hcut : ∀ w, Calls Tryd.prog 28 #[.string ⟨(Lib.decDigits x.toNat).toArray⟩, .string ⟨#[45]⟩] w fun e w' => e = .returned (.tuple #[.string ⟨(Lib.decDigits x.toNat).toArray⟩, .bool false]) ∧ w' = w := fun w => by
      have := Tryd.strings_CutPrefix ⟨(Lib.decDigits x.toNat).toArray⟩ ⟨#[45]⟩ w
      have e1 := hdig x.toNat 45 hD
      have e3 : (⟨#[45]⟩ : ByteArray).data.toList = [45] := rfl
      rw [e3, trimPrefix_none _ 45 (by rw [ofList_data]; exact e1), ofList_data, e1] at this
      exact this
    have ht3 : ∀ w, Calls Tryd.prog 23 #[.string (if false = true then ⟨(Lib.decDigits x.toNat).toArray⟩ else ⟨(Lib.decDigits x.toNat).toArray⟩), .string ⟨#[48]⟩] w fun e w' => e = .returned (.string ⟨(trim0 (Lib.decDigits x.toNat)).toArray⟩) ∧ w' = w := fun w => by
      have := htl ⟨(Lib.decDigits x.toNat).toArray⟩ w
      rw [ofList_data] at this
      exact this
    refine ⟨_, ⟨(trim0 (Lib.decDigits x.toNat)).toArray⟩, ?_, parse_core ⟨(Lib.decDigits x.toNat).toArray⟩ ⟨(Lib.decDigits x.toNat).toArray⟩ ⟨(trim0 (Lib.decDigits x.toNat)).toArray⟩ false w (hplus _ (hdig _ 43 (by unfold isDig; decide))) hcut ht3⟩
    rw [ofList_data]
    refine ⟨trim0_can (dec_facts _).1, ?_, fun h => by simp at h⟩
    rw [trim0_val, (dec_facts _).2.1]
    simp
    omega
end Go.Proofs.Qxb6606039aDoor
