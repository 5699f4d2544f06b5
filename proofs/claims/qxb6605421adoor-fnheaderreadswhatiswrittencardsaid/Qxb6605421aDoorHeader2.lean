import Derived.Test.Qxb6605421aDoorHeader
import Derived.Test.Qxb6605421aDoorLower
import Derived.Test.Qxb6605421aDoorShelf
import Derived.Deep.DeepCutAuto
import Derived.Deep.RegionWith
import Derived.Deep.LoopGhost
import Derived.Laws.Strings3
import Derived.Laws.DeepStrings4
namespace Go.Proofs.Qxb6605421aDoor
open Go.RowKit

/-- A byte that the writer escapes. -/
def spec (c : UInt8) : Bool := c == 34 || c == 92 || c == 10
/-- The quoted subsection S as it stands in T: byte k of S at place pos k. -/
structure SubAt (T : ByteArray) (S : List UInt8) (pos : Nat → Nat) : Prop where
  yes : ∀ k (h : k < S.length), spec S[k] = true → ∃ (h0 : pos k < T.size) (h1 : pos k + 1 < T.size), (T[pos k]).toNat = 92 ∧ T[pos k + 1] = S[k] ∧ pos (k + 1) = pos k + 2
  no : ∀ k (h : k < S.length), spec S[k] = false → ∃ (h0 : pos k < T.size), T[pos k] = S[k] ∧ pos (k + 1) = pos k + 1
  fin : ∃ (h0 : pos S.length < T.size), (T[pos S.length]).toNat = 34
  past : pos S.length + 1 < T.size

theorem spec_no {c : UInt8} (h : spec c = false) : (((c.toNat : Int) == 34) = false) ∧ (((c.toNat : Int) == 10) = false) ∧ (((c.toNat : Int) == 92) = false) := by
  unfold spec at h
  simp only [Bool.or_eq_false_iff, beq_eq_false_iff_ne] at h
  obtain ⟨⟨h1, h2⟩, h3⟩ := h
  have e : ∀ x : UInt8, c ≠ x → c.toNat ≠ x.toNat := fun x hx he => hx (UInt8.toNat_inj.1 he)
  have := e 34 h1; have := e 92 h2; have := e 10 h3
  simp at *
  omega

theorem builder_but {T e : TypeId} {B b bb : Nat} {bs : List Value} {w w' : World} (h : Lib.IsBuilder T e B bb bs w) (k : But b w w') (hb : b < B) : Lib.IsBuilder T e B bb bs w' := by
  have key : ∀ p, Lib.BuilderAt T e B bb p bs w → Lib.BuilderAt T e B bb p bs w' := fun p ⟨hB, v, hbk, hown, hne⟩ => by
    refine ⟨hB, v, by rw [k.block bb (by omega)]; exact hbk, ?_, hne⟩
    refine hown.kept (row := some b) ⟨k.os, k.tape, k.output, by rw [k.size]; exact Nat.le_refl _, fun j _ hj => k.block j (fun e => hj (by simp [e]))⟩ ?_
    refine Or.inr (fun e => ?_)
    have := (hown.lt b e).1
    omega
  rcases h with h | h
  · exact Or.inl (key _ h)
  · exact Or.inr (key _ h)

theorem fresh_builder (w : World) : Lib.IsBuilder 55 5 w.heap.size w.heap.size (Lib.byteCells ([] : List UInt8)) (w.alloc (.cells #[.pointer none, .slice none 0 0] 55)) :=
  Or.inl ⟨Nat.le_refl _, .slice none 0 0, by simp [World.alloc, -World.alloc_eq], World.ownsRow_nil _ _ _ _, by simp [Value.ownBlock]⟩
theorem take_cells (S : List UInt8) (k : Nat) (h : k < S.length) : Lib.byteCells (S.take k) ++ [Value.int .u8 ((S[k]).toNat : Int)] = Lib.byteCells (S.take (k + 1)) := by
  unfold Lib.byteCells
  rw [List.take_succ_eq_append_getElem h, List.map_append]
  rfl

set_option maxHeartbeats 2000000 in
set_option maxRecDepth 100000 in
theorem header_quoted (b : Nat) (T nm : ByteArray) (q r : Nat) (w : World) (h : Hid (At b T 1 w)) (hT : T.size ≤ 2000000) (hq : Hid (NameAt T q)) (hr : Hid (SpAt T q r)) (hql : q < T.size) (hq1 : 1 ≤ q) (hqr : q ≤ r) (hrl : r < T.size) (hL : Hid (LowGives T nm q))
    (S : List UInt8) (hSl : S.length ≤ 2000000) (hnm : nm.size ≤ 2000000) (pos : Nat → Nat) (hS : Hid (SubAt T S pos)) (hp0 : pos 0 = r + 1) (hc : (((T[r]).toNat : Int) != 34) = false) :
    Calls Tryd.prog 18 #[.pointer (some ⟨b, 0, none⟩)] w fun e w' => e = .returned (.string (nm ++ ⟨#[46]⟩ ++ ⟨S.toArray⟩)) ∧ At b T (pos S.length + 2) w' ∧ Below b w w' := by
  have c1' : w.cell? ⟨b, 1, none⟩ = some (.int .i64 1) := h.out.off
  go_enter Tryd.func18, Tryd.ntmps18
  go_wp2
  clear c1'
  go_loopg [] (q - 1) (fun g wr => ∃ i : Nat, 1 ≤ i ∧ i + g = q ∧ Hid (At b T i wr) ∧ Hid (But b w wr))
  case atStart => exact ⟨1, by omega, by omega, h, But.refl _ _⟩
  case round =>
    obtain ⟨i, hi1, hig, HA, HB⟩ := hrel
    have c0 := HA.out.text; have c1 := HA.out.off; have f1 := HA.out.free
    have hiT : i < T.size := by omega
    have hiI : (i : Int) < (T.size : Int) := by omega
    cases gk with
    | succ g =>
      rcases hq.out.inn i hiT hi1 (by omega) with hk | ⟨hk, hd⟩
      · have HK : Hid (KeyIs (T[i]).toNat true) := keyIs hk
        clear hk
        go_wp2_with fail
        go_quiet ((go_at_call 23; exact Calls.quiet_of_same (HK.out _)))
        go_wp2
        go_roundg g
        case measure => omega
        case rel => exact ⟨i + 1, by omega, by omega, (HA.out.drewN _).step (i + 1), HB.out.trans ((But.drewN b _ _).trans (But.step b _ _))⟩
      · have HK : Hid (KeyIs (T[i]).toNat false) := keyIs hk
        clear hk
        go_wp2_with fail
        go_quiet ((go_at_call 23; exact Calls.quiet_of_same (HK.out _)))
        go_wp2
        go_roundg g
        case measure => omega
        case rel => exact ⟨i + 1, by omega, by omega, (HA.out.drewN _).step (i + 1), HB.out.trans ((But.drewN b _ _).trans (But.step b _ _))⟩
    | zero =>
      obtain rfl : i = q := by omega
      obtain ⟨hk, hd⟩ := hq.out.out
      have HK : Hid (KeyIs (T[i]).toNat false) := keyIs hk
      have hsl : ∀ w, (Instr.slice 9 (.string T) (some (.int .i64 1)) (some (.int .i64 (i : Int))) none).run Tryd.prog w = .ok (.string (T.extract 1 i)) w := slice_name T i hq1 hql
      clear hk
      go_wp2_with fail
      go_quiet ((go_at_call 23; exact Calls.quiet_of_same (HK.out _)))
      go_wp2
      have HA2 : Hid (At b T i (wr.drewN nq)) := HA.out.drewN nq
      have HB2 : Hid (Below b w (wr.drewN nq)) := (HB.out.trans (But.drewN b _ nq)).below
      generalize wr.drewN nq = W at HA2 HB2 ⊢
      clear HA HB c0 c1 f1 hd
      have c0 := HA2.out.text; have c1 := HA2.out.off; have f1 := HA2.out.free; have hbl := HA2.out.lt
      go_cut [4] (fun v wc => v = .string nm ∧ Hid (At b T i wc) ∧ Hid (Below b w wc))
      case first =>
        go_region_with (go_at_call 20; refine (hL.out _).mono ?_; rintro e w' ⟨rfl, hb⟩)
        all_goals
          go_wp2
          go_meet
          case rel => exact ⟨rfl, HA2.out.but (((Below.refl _ W).drew).trans hb) hbl, (HB2.out.drew).trans (hb.mono (Nat.le_of_lt hbl))⟩
      case rest =>
        obtain ⟨rfl, HA3, HB3⟩ := hcut
        clear c0 c1 f1 hbl HA2 HB2 hsl HK
        go_wp2_with fail
        go_loopg [] (r - i) (fun g wr => ∃ j : Nat, i ≤ j ∧ j + g = r ∧ Hid (At b T j wr) ∧ Hid (Below b w wr))
        case atStart => exact ⟨i, by omega, by omega, HA3, HB3⟩
        case round =>
          obtain ⟨j, hij, hjg, HA4, HB4⟩ := hrel
          have c0 := HA4.out.text; have c1 := HA4.out.off; have f1 := HA4.out.free
          have hjT : j < T.size := by omega
          have hjI : (j : Int) < (T.size : Int) := by omega
          cases gk with
          | succ g =>
            have HS : Hid (SpIs (T[j]).toNat true) := spIs (hr.out.inn j hjT hij (by omega))
            go_wp2_with fail
            go_quiet ((go_at_call 24; exact Calls.quiet_of_same (HS.out _)))
            go_wp2
            go_roundg g
            case measure => omega
            case rel => exact ⟨j + 1, by omega, by omega, (HA4.out.drewN _).step (j + 1), HB4.out.trans ((But.drewN b _ _).trans (But.step b _ _)).below⟩
          | zero =>
            obtain rfl : j = r := by omega
            have HS : Hid (SpIs (T[j]).toNat false) := spIs hr.out.out
            go_wp2_with fail
            go_quiet ((go_at_call 24; exact Calls.quiet_of_same (HS.out _)))
            have HA5 : Hid (At b T j (wr.drewN nq)) := HA4.out.drewN nq
            have HB5 : Hid (Below b w (wr.drewN nq)) := HB4.out.trans (But.drewN b _ nq).below
            generalize wr.drewN nq = W2 at HA5 HB5 ⊢
            clear HA4 HB4 c0 c1 f1
            go_wp2_with (go_at_call 25; refine (next_any b T j _ HA5.out hT hjT).mono ?_; rintro e w' ⟨rfl, hA, hB⟩)
            have HA6 : Hid (At b T (j + 1) w') := hA
            have HB6 : Hid (Below b w w') := HB5.out.trans hB.below
            clear hA hB HA5 HB5
            have hbw : b < w'.heap.size := HA6.out.lt
            go_loopg [] S.length (fun g wr => ∃ k : Nat, k + g = S.length ∧ Hid (At b T (pos k) wr) ∧ Hid (Below b w wr) ∧ Hid (Lib.IsBuilder 55 5 w'.heap.size w'.heap.size (Lib.byteCells (S.take k)) wr) ∧ w'.heap.size ≤ wr.heap.size)
            case atStart =>
              refine ⟨0, by omega, ?_, ?_, ?_, by simp⟩
              · rw [hp0]; exact HA6.out.but ((Below.refl _ w').alloc (Nat.le_refl _) _) hbw
              · exact HB6.out.trans (((Below.refl _ w').alloc (Nat.le_refl _) _).mono (Nat.le_of_lt hbw))
              · exact fresh_builder w'
            case round =>
              obtain ⟨k, hkg, HA7, HB7, HI, hszr⟩ := hrel
              cases gk with
              | succ g =>
                have hk : k < S.length := by omega
                have hlen : Hid ((Lib.byteCells (S.take k)).length + 1 ≤ 140737488355328) := by
                  rw [Lib.byteCells_length, List.length_take]
                  have := hSl
                  show _ ≤ _
                  omega
                have HC : Hid (Lib.byteCells (S.take k) ++ [Value.int .u8 ((S[k]).toNat : Int)] = Lib.byteCells (S.take (k + 1))) := take_cells S k hk
                cases hsp : spec S[k] with
                | true =>
                  obtain ⟨p0, p1, e0, e1, e2⟩ := hS.out.yes k hk hsp
                  have HX : Hid (T[pos k + 1] = S[k]) := e1
                  have HP : Hid (pos (k + 1) = pos k + 2) := e2
                  have n0 : ((T[pos k]).toNat : Int) = 92 := by omega
                  clear e0 e1 e2
                  go_wp2_with fail
                  refine (next_any b T (pos k) _ HA7.out hT p0).mono ?_
                  rintro e w1 ⟨rfl, hA1, hB1⟩
                  rw [n0]
                  go_wp2_with fail
                  have HN := next_any b T (pos k + 1) w1 hA1 hT p1
                  rw [HX.out] at HN
                  refine HN.mono ?_
                  clear HN
                  rintro e w2 ⟨rfl, hA2, hB2⟩
                  have HI2 : Hid (Lib.IsBuilder 55 5 w'.heap.size w'.heap.size (Lib.byteCells (S.take k)) w2) := builder_but (builder_but HI.out hB1 hbw) hB2 hbw
                  go_wp2_with (go_at_call 27; refine (Tryd.Builder_WriteByte w'.heap.size w'.heap.size _ _ _ HI2.out hlen.out (by rw [hB2.size, hB1.size]; exact hszr)).mono ?_; rintro e w3 ⟨rfl, hW3, hB3⟩)
                  go_roundg g
                  case measure => omega
                  case rel =>
                    refine ⟨k + 1, by omega, ?_, ?_, ?_, ?_⟩
                    · rw [HP.out]; exact hA2.but hB3 hbw
                    · exact ((HB7.out.trans hB1.below).trans hB2.below).trans (hB3.mono (Nat.le_of_lt hbw))
                    · rw [← HC.out]; exact Or.inr hW3
                    · exact Nat.le_trans hszr (Nat.le_trans (by rw [hB2.size, hB1.size]; exact Nat.le_refl _) hB3.size)
                | false =>
                  obtain ⟨p0, e0, e1⟩ := hS.out.no k hk hsp
                  obtain ⟨n1, n2, n3⟩ := spec_no hsp
                  have HP : Hid (pos (k + 1) = pos k + 1) := e1
                  clear e1
                  have hnx := next_any b T (pos k) wr HA7.out hT p0
                  rw [e0] at hnx
                  have HN := hnx
                  clear hnx e0
                  go_wp2_with fail
                  refine HN.mono ?_
                  rintro e w1 ⟨rfl, hA1, hB1⟩
                  have HI1 : Hid (Lib.IsBuilder 55 5 w'.heap.size w'.heap.size (Lib.byteCells (S.take k)) w1) := builder_but HI.out hB1 hbw
                  go_wp2_with (go_at_call 27; refine (Tryd.Builder_WriteByte w'.heap.size w'.heap.size _ _ _ HI1.out hlen.out (by rw [hB1.size]; exact hszr)).mono ?_; rintro e w2 ⟨rfl, hW2, hB2⟩)
                  go_roundg g
                  case measure => omega
                  case rel =>
                    refine ⟨k + 1, by omega, ?_, ?_, ?_, ?_⟩
                    · rw [HP.out]; exact hA1.but hB2 hbw
                    · exact (HB7.out.trans hB1.below).trans (hB2.mono (Nat.le_of_lt hbw))
                    · rw [← HC.out]; exact Or.inr hW2
                    · exact Nat.le_trans hszr (Nat.le_trans (by rw [hB1.size]; exact Nat.le_refl _) hB2.size)
              | zero =>
                obtain rfl : k = S.length := by omega
                obtain ⟨p0, e0⟩ := hS.out.fin
                have n0 : ((T[pos S.length]).toNat : Int) = 34 := by omega
                go_wp2_with fail
                refine (next_any b T (pos S.length) _ HA7.out hT p0).mono ?_
                rintro e w1 ⟨rfl, hA1, hB1⟩
                rw [n0]
                have HI1 : Hid (Lib.IsBuilder 55 5 w'.heap.size w'.heap.size (Lib.byteCells (S.take S.length)) w1) := builder_but HI.out hB1 hbw
                go_wp2_with fail
                refine (next_any b T (pos S.length + 1) _ hA1 hT hS.out.past).mono ?_
                rintro e w2 ⟨rfl, hA2, hB2⟩
                have HI2 : Hid (Lib.IsBuilder 55 5 w'.heap.size w'.heap.size (Lib.byteCells S) w2) := by rw [List.take_length] at HI1; exact builder_but HI1.out hB2 hbw
                go_wp2_with (go_at_call 26; refine (Tryd.Builder_String_any w'.heap.size w'.heap.size S _ HI2.out (by rw [hB2.size, hB1.size]; exact hszr)).mono ?_; rintro e w3 ⟨rfl, hB3⟩)
                go_ret
                exact ⟨rfl, hA2.but hB3 hbw, (((HB7.out.trans hB1.below).trans hB2.below).trans (hB3.mono (Nat.le_of_lt hbw)))⟩
end Go.Proofs.Qxb6605421aDoor
