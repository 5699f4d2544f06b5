import Derived.Test.Qxb6605421aDoorHeader2
import Derived.Test.Qxb6605421aDoorZz
import Derived.Lib.Case
namespace Go.Proofs.Qxb6605421aDoor
open Go.RowKit

/-- The subsection as it is written. -/
def esc (S : List UInt8) : List UInt8 := S.flatMap fun c => if spec c then [92, c] else [c]
theorem esc_append (A B : List UInt8) : esc (A ++ B) = esc A ++ esc B := by simp [esc]
theorem esc_len (S : List UInt8) : (esc S).length ≤ 2 * S.length := by
  induction S with
  | nil => simp [esc]
  | cons c S ih =>
    have : esc (c :: S) = (if spec c then [92, c] else [c]) ++ esc S := by simp [esc]
    rw [this, List.length_append, List.length_cons]
    split <;> simp <;> omega
theorem esc_at (S : List UInt8) (k : Nat) (h : k < S.length) : esc S = esc (S.take k) ++ ((if spec S[k] then [92, S[k]] else [S[k]]) ++ esc (S.drop (k + 1))) := by
  have e : S = S.take k ++ (S[k] :: S.drop (k + 1)) := by
    rw [List.getElem_cons_drop, List.take_append_drop]
  have e2 : esc S = esc (S.take k ++ (S[k] :: S.drop (k + 1))) := by rw [← e]
  rw [e2, esc_append]
  congr 1
theorem esc_succ (S : List UInt8) (k : Nat) (h : k < S.length) : esc (S.take (k + 1)) = esc (S.take k) ++ (if spec S[k] then [92, S[k]] else [S[k]]) := by
  rw [List.take_succ_eq_append_getElem h, esc_append]
  simp [esc]

/-- Where a text is cut in two: its bytes behind the cut. -/
theorem at_split {T : ByteArray} {A B : List UInt8} (h : T.data.toList = A ++ B) (j : Nat) (hj : j < B.length) : ∃ h' : A.length + j < T.size, T[A.length + j] = B[j] := by
  have hs : T.size = A.length + B.length := by rw [Lib.size_eq, h, List.length_append]
  have h' : A.length + j < T.size := by omega
  refine ⟨h', ?_⟩
  have e := Lib.data_getElem? T _ h'
  rw [h, List.getElem?_append_right (by omega), Nat.add_sub_cancel_left, List.getElem?_eq_getElem hj] at e
  exact (Option.some.inj e).symm

def tx (N S R : List UInt8) (quoted : Bool) : ByteArray := ⟨([91] ++ N ++ (if quoted then [32, 34] ++ esc S ++ [34] else []) ++ [93] ++ R).toArray⟩

theorem nm_key {c : Int} (h : nmB c = true) : keyB c = true ∨ (keyB c = false ∧ (c == 46) = true) := by
  unfold nmB at h
  have e : (keyB c || c == 46) = true := h
  cases hk : keyB c with
  | true => exact .inl rfl
  | false => rw [hk] at e; exact .inr ⟨rfl, by simpa using e⟩
theorem nm_low {c : UInt8} (h : nmB (c.toNat : Int) = true) : c.toNat < 128 := by
  unfold nmB at h
  simp only [Bool.or_eq_true, Bool.and_eq_true, decide_eq_true_eq, beq_iff_eq] at h
  omega
theorem low_fin : ∀ n : Fin 256, Lib.lowerB (UInt8.ofNat n.1) = low (UInt8.ofNat n.1) := by decide +kernel
theorem lower_eq (c : UInt8) : Lib.lowerB c = low c := by
  have := low_fin ⟨c.toNat, c.toNat_lt⟩; simpa using this

/-- The name is read whole, and stops where the next byte is none of a name's. -/
theorem nameAt {T : ByteArray} {N : List UInt8} {x : UInt8} {B : List UInt8} (h : T.data.toList = [91] ++ N ++ (x :: B)) (hN : ∀ c ∈ N, nmB (c.toNat : Int) = true) (hx : keyB (x.toNat : Int) = false ∧ ((x.toNat : Int) == 46) = false) :
    NameAt T (1 + N.length) := by
  have hl : ([91] ++ N : List UInt8).length = 1 + N.length := by simp; omega
  obtain ⟨h0, e0⟩ := at_split h 0 (by simp)
  have hq : 1 + N.length < T.size := by omega
  refine ⟨hq, by omega, fun i hi h1 h2 => ?_, ?_⟩
  · obtain ⟨g, e⟩ := at_split (A := [91]) (B := N ++ (x :: B)) (by rw [h]; simp) (i - 1) (by simp; omega)
    have ei : ([91] : List UInt8).length + (i - 1) = i := by simp; omega
    simp only [ei] at e
    rw [e, List.getElem_append_left (by omega)]
    exact nm_key (hN _ (List.getElem_mem _))
  · simp only [hl, Nat.add_zero] at e0
    rw [e0]
    exact hx

theorem lowGives {T : ByteArray} {name : ByteArray} {B : List UInt8} (h : T.data.toList = [91] ++ name.data.toList ++ B) (hN : ∀ c ∈ name.data.toList, nmB (c.toNat : Int) = true) (hT : T.size ≤ 2000000) : LowGives T (lowS name) (1 + name.size) := by
  have e : (T.extract 1 (1 + name.size)).data.toList = name.data.toList := by
    rw [ByteArray.data_extract, Array.toList_extract, h, Lib.size_eq]
    simp
  intro w
  have hsz : (T.extract 1 (1 + name.size)).size ≤ 140737488355328 := by rw [ByteArray.size_extract]; omega
  have := Tryd.strings_ToLower_ascii (T.extract 1 (1 + name.size)) w hsz (fun j b hb => by
    rw [e] at hb
    exact nm_low (hN b (List.mem_of_getElem? hb)))
  rw [e] at this
  have e2 : (⟨(Lib.toLowerA name.data.toList).toArray⟩ : ByteArray) = lowS name := by
    unfold lowS Lib.toLowerA
    congr 2
    exact List.map_congr_left (fun c _ => lower_eq c)
  rw [e2] at this
  exact this

theorem hd_plain (name rest : ByteArray) (S : List UInt8) (hN : ∀ c ∈ name.data.toList, nmB (c.toNat : Int) = true) (h1 : name.size ≤ 262144) (h2 : rest.size ≤ 262144) :
    HdGives (tx name.data.toList S rest.data.toList false) (lowS name) (name.size + 2) := by
  have hd : (tx name.data.toList S rest.data.toList false).data.toList = [91] ++ name.data.toList ++ (93 :: rest.data.toList) := by simp [tx]
  have hT : (tx name.data.toList S rest.data.toList false).size ≤ 2000000 := by rw [Lib.size_eq, hd]; simp; omega
  generalize tx name.data.toList S rest.data.toList false = T at hd hT
  have hn := nameAt hd hN (by decide)
  rw [← Lib.size_eq] at hn
  obtain ⟨g0, e0⟩ := at_split hd 0 (by simp)
  have hl : ([91] ++ name.data.toList : List UInt8).length + 0 = 1 + name.size := by rw [Lib.size_eq]; simp; omega
  simp only [hl] at e0
  intro b w hA
  have hsp : SpAt T (1 + name.size) (1 + name.size) := ⟨hn.lt, Nat.le_refl _, fun i _ h1 h2 => by omega, by rw [e0]; rfl⟩
  have := header_plain b T (lowS name) (1 + name.size) (1 + name.size) w hA hT hn hsp hn.lt hn.pos (Nat.le_refl _) hn.lt (lowGives hd hN hT) (by rw [e0]; rfl)
  rw [show 1 + name.size + 1 = name.size + 2 by omega] at this
  exact this

theorem subAt {T : ByteArray} {P S B : List UInt8} (h : T.data.toList = P ++ esc S ++ (34 :: 93 :: B)) : SubAt T S (fun k => P.length + (esc (S.take k)).length) := by
  refine ⟨fun k hk hs => ?_, fun k hk hs => ?_, ?_, ?_⟩
  · have e := esc_at S k hk
    rw [hs, if_pos rfl] at e
    have hc : T.data.toList = (P ++ esc (S.take k)) ++ (92 :: S[k] :: (esc (S.drop (k + 1)) ++ (34 :: 93 :: B))) := by rw [h, e]; simp
    obtain ⟨g0, e0⟩ := at_split hc 0 (by simp)
    obtain ⟨g1, e1⟩ := at_split hc 1 (by simp)
    simp only [List.length_append, Nat.add_zero] at g0 e0 g1 e1
    refine ⟨g0, g1, by rw [e0]; rfl, e1, ?_⟩
    simp only [esc_succ S k hk, hs, if_true, List.length_append, List.length_cons, List.length_nil]
    omega
  · have e := esc_at S k hk
    rw [hs] at e
    simp only [Bool.false_eq_true, if_false] at e
    have hc : T.data.toList = (P ++ esc (S.take k)) ++ (S[k] :: (esc (S.drop (k + 1)) ++ (34 :: 93 :: B))) := by rw [h, e]; simp
    obtain ⟨g0, e0⟩ := at_split hc 0 (by simp)
    simp only [List.length_append, Nat.add_zero] at g0 e0
    refine ⟨g0, e0, ?_⟩
    simp only [esc_succ S k hk, hs, Bool.false_eq_true, if_false, List.length_append, List.length_cons, List.length_nil]
    omega
  · obtain ⟨g0, e0⟩ := at_split h 0 (by simp)
    simp only [List.length_append, Nat.add_zero] at g0 e0
    simp only [List.take_length]
    exact ⟨g0, by rw [e0]; rfl⟩
  · obtain ⟨g1, e1⟩ := at_split h 1 (by simp)
    simp only [List.length_append] at g1
    simp only [List.take_length]
    exact g1

theorem hd_quoted (name sub rest : ByteArray) (hN : ∀ c ∈ name.data.toList, nmB (c.toNat : Int) = true) (h1 : name.size ≤ 262144) (h2 : rest.size ≤ 262144) (h3 : sub.size ≤ 262144) :
    HdGives (tx name.data.toList sub.data.toList rest.data.toList true) (lowS name ++ ⟨#[46]⟩ ++ sub) (name.size + (esc sub.data.toList).length + 5) := by
  have hd : (tx name.data.toList sub.data.toList rest.data.toList true).data.toList = [91] ++ name.data.toList ++ (32 :: (34 :: (esc sub.data.toList ++ (34 :: 93 :: rest.data.toList)))) := by simp [tx]
  have hd2 : (tx name.data.toList sub.data.toList rest.data.toList true).data.toList = ([91] ++ name.data.toList ++ [32, 34]) ++ esc sub.data.toList ++ (34 :: 93 :: rest.data.toList) := by simp [tx]
  have hT : (tx name.data.toList sub.data.toList rest.data.toList true).size ≤ 2000000 := by
    have := esc_len sub.data.toList
    rw [← Lib.size_eq] at this
    rw [Lib.size_eq, hd]; simp; omega
  generalize tx name.data.toList sub.data.toList rest.data.toList true = T at hd hd2 hT
  have hn := nameAt hd hN (by decide)
  rw [← Lib.size_eq] at hn
  obtain ⟨g0, e0⟩ := at_split hd 0 (by simp)
  obtain ⟨g1, e1⟩ := at_split hd 1 (by simp)
  have hl : ([91] ++ name.data.toList : List UInt8).length + 0 = 1 + name.size := by rw [Lib.size_eq]; simp; omega
  have hl1 : ([91] ++ name.data.toList : List UInt8).length + 1 = 1 + name.size + 1 := by rw [Lib.size_eq]; simp; omega
  simp only [hl] at e0
  simp only [hl1] at g1 e1
  intro b w hA
  have hsp : SpAt T (1 + name.size) (1 + name.size + 1) := ⟨g1, by omega, fun i _ h1 h2 => by
    obtain rfl : i = 1 + name.size := by omega
    rw [e0]; rfl, by rw [e1]; rfl⟩
  have hpl : ([91] ++ name.data.toList ++ [32, 34] : List UInt8).length = name.size + 3 := by rw [Lib.size_eq]; simp
  have hls : (lowS name).size = name.size := by rw [Lib.size_eq (lowS name), Lib.size_eq name]; simp [lowS]
  have := header_quoted b T (lowS name) (1 + name.size) (1 + name.size + 1) w hA hT hn hsp hn.lt hn.pos (by omega) g1 (lowGives hd hN hT) sub.data.toList (by rw [← Lib.size_eq]; omega) (by omega) _ (subAt hd2) (by simp [esc]; rw [Lib.size_eq]; simp; omega) (by rw [e1]; rfl)
  simp only [List.take_length, hpl] at this
  rw [show name.size + 3 + (esc sub.data.toList).length + 2 = name.size + (esc sub.data.toList).length + 5 by omega] at this
  exact this
end Go.Proofs.Qxb6605421aDoor
