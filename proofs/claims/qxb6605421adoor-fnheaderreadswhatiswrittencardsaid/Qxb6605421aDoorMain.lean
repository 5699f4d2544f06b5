import Derived.Test.Qxb6605421aDoorPlain
import Derived.Lib.AppendStr
namespace Go.Proofs.Qxb6605421aDoor
open Go.RowKit

/-- The buffer holds the bytes l. -/
def Own (B : Nat) (l : List UInt8) (v : Value) (w : World) : Prop := w.ownsRow B 5 1 v l.length (Lib.byteCells l)
theorem Own.alloc {B : Nat} {l : List UInt8} {v : Value} {w : World} (h : Own B l v w) (o : Obj) : Own B l v (w.alloc o) := World.ownsRow.alloc h o
theorem Own.below {B : Nat} {l : List UInt8} {v : Value} {w w' : World} (h : Own B l v w) (k : Below w.heap.size w w') : Own B l v w' :=
  World.ownsRow.kept h (row := none) ⟨k.os, k.tape, k.output, k.size, fun j hj _ => k.block j hj⟩ (by
    cases hv : v.ownBlock with
    | none => exact .inl rfl
    | some _ => exact .inr (by simp))
theorem own_more {B : Nat} {l m : List UInt8} {v : Value} {n : Nat} {w : World} {xs : List Value} (h : w.ownsRow B 5 1 v (l.length + n) (Lib.byteCells l ++ xs)) (hn : n = m.length) (hx : xs = Lib.byteCells m) : Own B (l ++ m) v w := by
  unfold Own
  rw [List.length_append, ← hn, show Lib.byteCells (l ++ m) = Lib.byteCells l ++ xs by rw [hx]; simp [Lib.byteCells]]
  exact h

/-- A name with a byte that may not stand in one. -/
theorem bad_byte (N : ByteArray) (h : ¬ ∀ c ∈ N.data.toList, nmB (c.toNat : Int) = true) :
    ∃ K, ∃ hK : K < N.size, (∀ j (h : j < N.size), j < K → nmB (N[j]).toNat = true) ∧ nmB (N[K]).toNat = false := by
  have key : ∀ d a, a + d = N.size → (∀ j (h : j < N.size), j < a → nmB (N[j]).toNat = true) → (∃ K, ∃ hK : K < N.size, (∀ j (h : j < N.size), j < K → nmB (N[j]).toNat = true) ∧ nmB (N[K]).toNat = false) ∨ (∀ j (h : j < N.size), nmB (N[j]).toNat = true) := by
    intro d
    induction d with
    | zero => intro a ha hj; exact .inr (fun j h => hj j h (by omega))
    | succ d ih =>
      intro a ha hj
      have hlt : a < N.size := by omega
      cases hb : nmB (N[a]).toNat with
      | false => exact .inl ⟨a, hlt, hj, hb⟩
      | true => exact ih (a + 1) (by omega) (fun j h hja => by
          by_cases e : j = a
          · subst e; exact hb
          · exact hj j h (by omega))
  rcases key N.size 0 (by omega) (fun j h h0 => by omega) with h1 | h1
  · exact h1
  · exfalso
    apply h
    intro c hc
    obtain ⟨j, hj, e⟩ := List.getElem_of_mem hc
    have hjs : j < N.size := by simpa using hj
    have e2 := Lib.data_getElem? N j hjs
    rw [List.getElem?_eq_getElem hj, e] at e2
    rw [Option.some.inj e2]
    exact h1 j hjs

set_option maxHeartbeats 800000 in
set_option maxRecDepth 100000 in
theorem main_bytes (name sub rest : ByteArray) (quoted : Bool) (w : World) (h1 : name.size ≤ maxLen) (h2 : sub.size ≤ maxLen) (h3 : rest.size ≤ maxLen) (hb : (decide (name.size + sub.size + rest.size ≤ 1048576)) = false) :
    Calls Tryd.prog 4 #[.string name, .string sub, .bool quoted, .string rest] w fun e w' => e = .returned (.bool true) ∧ Below w.heap.size w w' := by
  have hB := bytes_any name sub rest quoted w h1 h2 h3
  rw [hb] at hB
  go_enter Tryd.func4, Tryd.ntmps4
  go_wp2_with (go_at_call 10; refine hB.mono ?_; rintro e w' ⟨rfl, rfl⟩)
  go_ret
  exact ⟨rfl, Below.refl _ _⟩

set_option maxHeartbeats 800000 in
set_option maxRecDepth 100000 in
theorem main_long (name sub rest : ByteArray) (quoted : Bool) (w : World) (h1 : name.size ≤ maxLen) (h2 : sub.size ≤ maxLen) (h3 : rest.size ≤ maxLen) (hb : (decide (name.size + sub.size + rest.size ≤ 1048576)) = true) (hl : 262144 < name.size ∨ 262144 < sub.size ∨ 262144 < rest.size) :
    Calls Tryd.prog 4 #[.string name, .string sub, .bool quoted, .string rest] w fun e w' => e = .returned (.bool true) ∧ Below w.heap.size w w' := by
  have hB := bytes_any name sub rest quoted w h1 h2 h3
  rw [hb] at hB
  rcases hl with hl | hl | hl
  all_goals
    go_enter Tryd.func4, Tryd.ntmps4
    go_wp2_with (go_at_call 10; refine hB.mono ?_; rintro e w' ⟨rfl, rfl⟩)
    all_goals
      first
      | (go_ret; exact ⟨rfl, Below.refl _ _⟩)
      | (exfalso; omega)

set_option maxHeartbeats 800000 in
set_option maxRecDepth 100000 in
theorem main_bad (name sub rest : ByteArray) (quoted : Bool) (K : Nat) (w : World) (h1 : name.size ≤ 262144) (h2 : sub.size ≤ 262144) (h3 : rest.size ≤ 262144)
    (hB : ∀ w, Calls Tryd.prog 10 #[.string name, .string sub, .bool quoted, .string rest] w fun e w' => e = .returned (.bool true) ∧ w' = w)
    (hK : K < name.size) (hin : Hid (∀ j (h : j < name.size), j < K → nmB (name[j]).toNat = true)) (hbad : nmB (name[K]).toNat = false) :
    Calls Tryd.prog 4 #[.string name, .string sub, .bool quoted, .string rest] w fun e w' => e = .returned (.bool true) ∧ Below w.heap.size w w' := by
  go_enter Tryd.func4, Tryd.ntmps4
  go_wp2_with (go_at_call 10; refine (hB _).mono ?_; rintro e w' ⟨rfl, rfl⟩)
  go_loop [9] (fun v => ∃ j : Nat, j ≤ K ∧ v = .int .i64 j) (fun v => K - (intOf v).toNat)
  case atStart => exact ⟨0, Nat.zero_le _, rfl⟩
  case round =>
    obtain ⟨j, hj, rfl⟩ := hrel
    have hjs : j < name.size := by omega
    by_cases hlt : j < K
    · have e1 := hin.out j hjs hlt
      go_wp2_with (go_at_call 11; refine (nm_any _ _).mono ?_; rintro e w' ⟨rfl, rfl⟩)
      go_round
      case rel => exact ⟨j + 1, by omega, by go_num⟩
      case measure => simp [intOf]; omega
    · obtain rfl : j = K := by omega
      go_wp2_with (go_at_call 11; refine (nm_any _ _).mono ?_; rintro e w' ⟨rfl, rfl⟩)
      go_ret
      exact ⟨rfl, Below.refl _ _⟩
end Go.Proofs.Qxb6605421aDoor
