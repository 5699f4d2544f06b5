import Derived.Test.Qxb6612929aDoorState
import Derived.Deep.RegionHeld3
namespace Go.Proofs.Qxb6612929aDoor
open Go.RowKit

theorem size36 : (Tryd.prog.info? 36).map (·.size) = some 25 := by kernel_rfl

theorem below_cells {B b : Nat} {a : World} (hb : B ≤ b) : ∀ (vs : List Value) (o : Nat) (w : World), Below B a w → Below B a (w.setCells b o vs)
  | [], _, _, h => h
  | v :: r, o, _, h => below_cells hb r (o + 1) _ (by refine Below.setCell h ?_ v; exact hb)
theorem keep_out {W : World} {A B : Nat} {cs : List Value} {v u : Value} (h : B ≠ A) (k : W.cell? ⟨B, 0, none⟩ = some v ∧ W.cell? ⟨B, 26, none⟩ = some u ∧ W.rangeAt B 1 cs ∧ W.there A 0 25) :
    (W.drew.setCells A 0 cs).cell? ⟨B, 0, none⟩ = some v ∧ (W.drew.setCells A 0 cs).cell? ⟨B, 26, none⟩ = some u ∧ (W.drew.setCells A 0 cs).rangeAt B 1 cs ∧ (W.drew.setCells A 0 cs).there A 0 25 := by
  obtain ⟨k1, k2, k3, k4⟩ := k
  refine ⟨?_, ?_, World.rangeAt_setCells_apart (by simpa using k3) _ _ _ (.inl h), World.there_setCells (by simpa using k4) _ _ _⟩
  · rw [World.cell?_setCells_out A cs 0 W.drew ⟨B, 0, none⟩ (fun e _ => absurd e h)]; simpa using k1
  · rw [World.cell?_setCells_out A cs 0 W.drew ⟨B, 26, none⟩ (fun e _ => absurd e h)]; simpa using k2

set_option maxRecDepth 100000 in
set_option maxHeartbeats 800000 in
theorem fields_any (B : Nat) (s : ByteArray) (l : List UInt8) (cs : List Value) (n : Int) (w : World) (H : Hid (VT B s l n w)) (HC : Hid (cs = Lib.byteCells l)) :
    Calls Tryd.prog 16 #[.pointer (some ⟨B, 0, none⟩)] w fun e w' => e = .returned (.tuple #[.string s, .agg cs.toArray, .int .i64 n]) ∧ Below w.heap.size w w' := by
  have hl : cs.length = 25 := by rw [HC.out, len_bytes, H.out.len]
  have h1 : ∀ v ∈ cs, v.oneCell' = true := by rw [HC.out]; intro v hv; obtain ⟨x, _, rfl⟩ := List.mem_map.1 hv; rfl
  have hu := Tryd.underlying36
  have hi : (Tryd.prog.info? 36).map (·.size) = some cs.length := by rw [size36, hl]
  go_enter Tryd.func16, Tryd.ntmps16
  go_wp2
  have HB : Hid (Below w.heap.size w (w.alloc (Obj.cells #[Value.int IntKind.u8 0, Value.int IntKind.u8 0, Value.int IntKind.u8 0, Value.int IntKind.u8 0, Value.int IntKind.u8 0, Value.int IntKind.u8 0, Value.int IntKind.u8 0, Value.int IntKind.u8 0, Value.int IntKind.u8 0, Value.int IntKind.u8 0, Value.int IntKind.u8 0, Value.int IntKind.u8 0, Value.int IntKind.u8 0, Value.int IntKind.u8 0, Value.int IntKind.u8 0, Value.int IntKind.u8 0, Value.int IntKind.u8 0, Value.int IntKind.u8 0, Value.int IntKind.u8 0, Value.int IntKind.u8 0, Value.int IntKind.u8 0, Value.int IntKind.u8 0, Value.int IntKind.u8 0, Value.int IntKind.u8 0, Value.int IntKind.u8 0] 36))) := (Below.refl _ _).alloc (Nat.le_refl _) _
  have ht : (w.alloc (Obj.cells #[Value.int IntKind.u8 0, Value.int IntKind.u8 0, Value.int IntKind.u8 0, Value.int IntKind.u8 0, Value.int IntKind.u8 0, Value.int IntKind.u8 0, Value.int IntKind.u8 0, Value.int IntKind.u8 0, Value.int IntKind.u8 0, Value.int IntKind.u8 0, Value.int IntKind.u8 0, Value.int IntKind.u8 0, Value.int IntKind.u8 0, Value.int IntKind.u8 0, Value.int IntKind.u8 0, Value.int IntKind.u8 0, Value.int IntKind.u8 0, Value.int IntKind.u8 0, Value.int IntKind.u8 0, Value.int IntKind.u8 0, Value.int IntKind.u8 0, Value.int IntKind.u8 0, Value.int IntKind.u8 0, Value.int IntKind.u8 0, Value.int IntKind.u8 0] 36)).there w.heap.size 0 25 := fun j hj => by simp [World.cell?, World.frozen?, World.alloc, -World.alloc_eq, hj]
  have hV := H.out.below HB.out
  have HA : Hid (B ≠ w.heap.size) := Nat.ne_of_lt H.out.lt
  generalize (w.alloc _) = W at *
  generalize hA : w.heap.size = A at *
  have HAE : Hid (w.heap.size = A) := hA
  clear hA
  have h0 := hV.cell0
  have h26 := hV.cell26
  have hr : W.rangeAt B 1 cs := by rw [HC.out]; exact hV.range
  clear hV
  go_region_held3 (fun w' => w'.cell? ⟨B, 0, none⟩ = some (.string s) ∧ w'.cell? ⟨B, 26, none⟩ = some (.int .i64 n) ∧ w'.rangeAt B 1 cs ∧ w'.there A 0 25) (first | go_keep_ranges | exact keep_out HA.out ‹_›) (fail)
  go_wp2
  have hk : (loadVar 36 ⟨A, 0, none⟩).run Tryd.prog (W.drew.setCells A 0 cs) = .ok (.agg cs.toArray) (W.drew.setCells A 0 cs) := run_loadVar_mid _ A 0 36 cs _ (World.rangeAt_setCells_same _ _ _ _ (by rw [hl]; simpa using ht)) hu rfl hi
  refine bodyPost_ret (v := .tuple #[.string s, .agg cs.toArray, .int .i64 n]) ?_ rfl ⟨rfl, ?_⟩
  · simp only [results, Tryd.results16]
    simp [Result.andThen, asAddr, hk]
  · rw [HAE.out]
    exact below_cells (Nat.le_refl _) _ _ _ (below_drewN HB.out 1)

theorem zero_new (cs : List Value) (hl : cs.length = 25) (h1 : ∀ v ∈ cs, v.oneCell' = true) (W : World) : (storeCells ⟨W.heap.size, 0, none⟩ cs).run Tryd.prog (W.alloc (.cells #[Value.int IntKind.u8 0, Value.int IntKind.u8 0, Value.int IntKind.u8 0, Value.int IntKind.u8 0, Value.int IntKind.u8 0, Value.int IntKind.u8 0, Value.int IntKind.u8 0, Value.int IntKind.u8 0, Value.int IntKind.u8 0, Value.int IntKind.u8 0, Value.int IntKind.u8 0, Value.int IntKind.u8 0, Value.int IntKind.u8 0, Value.int IntKind.u8 0, Value.int IntKind.u8 0, Value.int IntKind.u8 0, Value.int IntKind.u8 0, Value.int IntKind.u8 0, Value.int IntKind.u8 0, Value.int IntKind.u8 0, Value.int IntKind.u8 0, Value.int IntKind.u8 0, Value.int IntKind.u8 0, Value.int IntKind.u8 0, Value.int IntKind.u8 0] 36)) = .ok () (W.alloc (.cells cs.toArray 36)) :=
  run_storeCells_new W 36 _ cs.toArray (by rw [size36]; simp [hl]) (by simp [hl]) (all_oneCell_toArray h1)

set_option maxRecDepth 100000 in
set_option maxHeartbeats 800000 in
theorem are_any (B : Nat) (s d : ByteArray) (l : List UInt8) (n : Int) (w : World) (H : Hid (VT B s l n w)) (HD : Hid (l = d.data.toList ++ List.replicate (25 - d.size) 0)) (hd : d.size ≤ 25) :
    Calls Tryd.prog 8 #[.pointer (some ⟨B, 0, none⟩), .string s, .string d, .int .i64 n] w fun e w' => e = .returned (.bool true) ∧ Below w.heap.size w w' := by
  obtain ⟨cs, HC⟩ : ∃ cs, Hid (cs = Lib.byteCells l) := ⟨_, rfl⟩
  have hl : cs.length = 25 := by rw [HC.out, len_bytes, H.out.len]
  have h1 : ∀ v ∈ cs, v.oneCell' = true := by rw [HC.out]; intro v hv; obtain ⟨x, _, rfl⟩ := List.mem_map.1 hv; rfl
  have hst := zero_new cs hl h1
  go_enter Tryd.func8, Tryd.ntmps8
  go_wp2_with (go_at_call 16; refine (fields_any _ _ _ _ _ _ H HC).mono ?_; rintro e w1 ⟨rfl, hb1⟩)
  have HB1 : Hid (Below w.heap.size w (w1.alloc (.cells cs.toArray 36))) := hb1.alloc hb1.size _
  have HW : Hid (∀ i, (w1.alloc (.cells cs.toArray 36)).cell? ⟨w1.heap.size, i, none⟩ = cs[i]?) := fun i => by simp [World.cell?, World.alloc, -World.alloc_eq]
  clear hb1 hst
  generalize (w1.alloc _) = W at *
  generalize w1.heap.size = A at *
  go_loopw [12] (fun vi wr => ∃ i : Nat, vi = .int .i64 i ∧ i ≤ 25 ∧ wr = W) (fun vi _ => 25 - (intOf vi).toNat)
  case atStart => exact ⟨0, rfl, by omega, rfl⟩
  case round =>
    obtain ⟨i, rfl, hi, rfl⟩ := hrel
    by_cases h25 : i < 25
    · have hll := H.out.len
      have hc : wr.cell? ⟨A, i, none⟩ = some (.int .u8 (l[i]'(by omega)).toNat) := by
        rw [HW.out i, HC.out]; simp [Lib.byteCells, hll, h25]
      by_cases hid : i < d.size
      · have he : l[i]'(by omega) = d[i] := by
          have hdl : d.data.toList.length = d.size := by rw [← Lib.size_eq]
          have : l[i]? = some d[i] := by
            rw [HD.out, List.getElem?_append_left (by omega)]
            simp [ByteArray.getElem_eq_getElem_data, hid]
          rw [List.getElem?_eq_getElem (by omega)] at this
          exact Option.some.inj this
        rw [he] at hc
        go_wp2
        exact ⟨⟨i + 1, by first | rfl | go_num, by omega, trivial⟩, by simp [intOf]; omega⟩
      · have he : l[i]'(by omega) = 0 := by
          have hdl : d.data.toList.length = d.size := by rw [← Lib.size_eq]
          have : l[i]? = some 0 := by
            rw [HD.out, List.getElem?_append_right (by omega), List.getElem?_replicate, if_pos (by omega)]
          rw [List.getElem?_eq_getElem (by omega)] at this
          exact Option.some.inj this
        rw [he] at hc
        have hc0 : wr.cell? ⟨A, i, none⟩ = some (.int .u8 0) := hc
        clear hc
        go_wp2
        exact ⟨⟨i + 1, by first | rfl | go_num, by omega, trivial⟩, by simp [intOf]; omega⟩
    · go_wp2
      go_ret
      exact ⟨rfl, HB1.out⟩
end Go.Proofs.Qxb6612929aDoor
