import Derived.Lib.Join
import Derived.Lib.Strings
namespace Go.Proofs.Qxb6001473a

/-- The pieces of a text that is cut at every comma. -/
def splitL : List UInt8 → List (List UInt8)
  | [] => [[]]
  | c :: r => if c = 44 then [] :: splitL r else (match splitL r with | h :: t => (c :: h) :: t | [] => [[c]])

theorem splitL_none (x : List UInt8) (h : (44 : UInt8) ∉ x) : splitL x = [x] := by
  induction x with
  | nil => rfl
  | cons c r ih =>
    simp only [List.mem_cons, not_or] at h
    have hc : ¬ c = 44 := fun e => h.1 e.symm
    rw [splitL, if_neg hc, ih h.2]

theorem splitL_comma (x r : List UInt8) (h : (44 : UInt8) ∉ x) : splitL (x ++ 44 :: r) = x :: splitL r := by
  induction x with
  | nil => rw [List.nil_append, splitL, if_pos rfl]
  | cons c y ih =>
    simp only [List.mem_cons, not_or] at h
    have hc : ¬ c = 44 := fun e => h.1 e.symm
    rw [List.cons_append, splitL, if_neg hc, ih h.2]

theorem splitL_join (x : List UInt8) (xs : List (List UInt8)) (h : ∀ y ∈ x :: xs, (44 : UInt8) ∉ y) : splitL (Lib.join (x :: xs) [44]) = x :: xs := by
  induction xs generalizing x with
  | nil => rw [Lib.join_one, splitL_none x (h x (by simp))]
  | cons y r ih =>
    have e : Lib.join (x :: y :: r) [44] = x ++ 44 :: Lib.join (y :: r) [44] := by
      rw [Lib.join_cons, Lib.join_cons]
      simp [Lib.joinTail]
    rw [e, splitL_comma x _ (h x (by simp)), ih y (fun z hz => h z (by simp at hz ⊢; exact Or.inr hz))]

/-- What the loop knows behind k bytes: the pieces P are cut off, the next one begins at s, no comma lies between. -/
structure Cut (L : List UInt8) (k s : Nat) (P : List ByteArray) : Prop where
  le : s ≤ k
  few : P.length ≤ k
  whole : splitL L = P.map (·.data.toList) ++ splitL (L.drop s)
  clean : ∀ j, s ≤ j → j < k → L[j]? ≠ some 44

theorem Cut.start (L : List UInt8) : Cut L 0 0 [] := ⟨Nat.le_refl _, Nat.le_refl _, by simp, fun j _ h => absurd h (by omega)⟩

theorem Cut.skip {L : List UInt8} {k s : Nat} {P : List ByteArray} (h : Cut L k s P) (hc : L[k]? ≠ some 44) : Cut L (k + 1) s P :=
  ⟨Nat.le_succ_of_le h.le, Nat.le_succ_of_le h.few, h.whole, fun j h1 h2 => by
    by_cases e : j = k
    · subst e; exact hc
    · exact h.clean j h1 (by omega)⟩

theorem not_mem_mid {L : List UInt8} {k s : Nat} (hk : k ≤ L.length) (h : ∀ j, s ≤ j → j < k → L[j]? ≠ some 44) : (44 : UInt8) ∉ (L.drop s).take (k - s) := by
  intro hm
  obtain ⟨i, hi⟩ := List.getElem?_of_mem hm
  have hlen := (List.getElem?_eq_some_iff.1 hi).1
  simp only [List.length_take, List.length_drop] at hlen
  rw [List.getElem?_take, if_pos (by omega), List.getElem?_drop] at hi
  exact h (s + i) (by omega) (by omega) hi

theorem Cut.cut {t : ByteArray} {k s : Nat} {P : List ByteArray} (h : Cut t.data.toList k s P) (hk : k < t.size) (hc : t.data.toList[k]? = some 44) :
    Cut t.data.toList (k + 1) (k + 1) (P ++ [t.extract s k]) := by
  have hl : t.data.toList.length = t.size := rfl
  refine ⟨Nat.le_refl _, by simpa using h.few, ?_, fun j h1 h2 => absurd h2 (by omega)⟩
  have hd : t.data.toList.drop s = (t.data.toList.drop s).take (k - s) ++ 44 :: t.data.toList.drop (k + 1) := by
    have h1 := (List.take_append_drop (k - s) (t.data.toList.drop s)).symm
    rw [List.drop_drop, show s + (k - s) = k from by have := h.le; omega] at h1
    have h2 : t.data.toList.drop k = 44 :: t.data.toList.drop (k + 1) := by
      rw [List.drop_eq_getElem_cons (by omega)]
      rw [List.getElem?_eq_getElem (by omega), Option.some.injEq] at hc
      rw [hc]
    rw [h2] at h1
    exact h1
  have hn := not_mem_mid (L := t.data.toList) (k := k) (s := s) (by omega) h.clean
  rw [h.whole]
  conv => lhs; rw [hd]
  rw [splitL_comma _ _ hn, List.map_append]
  simp

theorem Cut.done {t : ByteArray} {s : Nat} {P : List ByteArray} (h : Cut t.data.toList t.size s P) :
    (P ++ [t.extract s t.size]).map (·.data.toList) = splitL t.data.toList := by
  have hl : t.data.toList.length = t.size := rfl
  have hn := not_mem_mid (L := t.data.toList) (k := t.size) (s := s) (by omega) h.clean
  have he : (t.extract s t.size).data.toList = (t.data.toList.drop s).take (t.size - s) := Lib.extract_data t s t.size
  have hd : (t.data.toList.drop s).take (t.size - s) = t.data.toList.drop s := List.take_of_length_le (by simp)
  rw [hd] at he hn
  rw [h.whole, splitL_none _ hn, List.map_append, List.map_cons, List.map_nil, he]

theorem bytes_inj : ∀ (A B : List ByteArray), A.map (·.data.toList) = B.map (·.data.toList) → A = B := by
  intro A
  induction A with
  | nil => intro B h; cases B with | nil => rfl | cons y r => simp at h
  | cons x r ih =>
    intro B h
    cases B with
    | nil => simp at h
    | cons y t =>
      simp only [List.map_cons, List.cons.injEq] at h
      have e : x = y := by
        cases x; cases y
        simpa using h.1
      rw [e, ih t h.2]

end Go.Proofs.Qxb6001473a
