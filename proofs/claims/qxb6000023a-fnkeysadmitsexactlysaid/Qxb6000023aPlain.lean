/-! Plain laws on lists of bytes, no Go in sight. -/
namespace Go.Proofs.Qxb6000023a

/-- Nothing but ff bytes. -/
def allF (zs : List Int) : Bool := zs.all (· == 255)

theorem allF_drop (zs : List Int) (k : Nat) (h : k < zs.length) : allF (zs.drop k) = (zs.getD k 0 == 255 && allF (zs.drop (k + 1))) := by
  have e : allF (zs.drop k) = allF (zs[k] :: zs.drop (k + 1)) := by rw [← List.drop_eq_getElem_cons h]
  rw [e, allF, List.all_cons, List.getD_eq_getElem?_getD, List.getElem?_eq_getElem h]
  rfl

/-- The order of bytes. -/
def cmpL : List Int → List Int → Int
  | [], [] => 0
  | [], _ :: _ => -1
  | _ :: _, [] => 1
  | x :: a, y :: b => if x < y then -1 else if y < x then 1 else cmpL a b

/-- Does k begin with p? -/
def pre : List Int → List Int → Bool
  | [], _ => true
  | _ :: _, [] => false
  | x :: p, y :: k => x == y && pre p k

/-- The least key above every key that starts with p. -/
def aft : List Int → Option (List Int)
  | [] => none
  | x :: r => match aft r with
    | some q => some (x :: q)
    | none => if x = 255 then none else some [x + 1]

theorem cmpL_drop (A B : List Int) (k : Nat) (ha : k < A.length) (hb : k < B.length) :
    cmpL (A.drop k) (B.drop k) = if A.getD k 0 < B.getD k 0 then -1 else if B.getD k 0 < A.getD k 0 then 1 else cmpL (A.drop (k + 1)) (B.drop (k + 1)) := by
  rw [List.drop_eq_getElem_cons ha, List.drop_eq_getElem_cons hb, cmpL]
  simp [ha, hb]

theorem pre_drop (P K : List Int) (k : Nat) (ha : k < P.length) (hb : k < K.length) :
    pre (P.drop k) (K.drop k) = (P.getD k 0 == K.getD k 0 && pre (P.drop (k + 1)) (K.drop (k + 1))) := by
  rw [List.drop_eq_getElem_cons ha, List.drop_eq_getElem_cons hb, pre]
  simp [ha, hb]

theorem pre_long (P K : List Int) (h : K.length < P.length) : pre P K = false := by
  induction P generalizing K with
  | nil => simp at h
  | cons x p ih =>
    cases K with
    | nil => rfl
    | cons y k =>
      rw [pre, ih k (by simpa using h), Bool.and_false]

theorem cmpL_range (A B : List Int) : cmpL A B = -1 ∨ cmpL A B = 0 ∨ cmpL A B = 1 := by
  induction A generalizing B with
  | nil => cases B <;> simp [cmpL]
  | cons x a ih =>
    cases B with
    | nil => simp [cmpL]
    | cons y b =>
      rw [cmpL]
      split
      · simp
      · split
        · simp
        · exact ih b

theorem aft_none (p : List Int) : aft p = none ↔ allF p = true := by
  induction p with
  | nil => simp [aft, allF]
  | cons x r ih =>
    rw [aft]
    cases h : aft r with
    | some q =>
      have : ¬ allF r = true := fun e => by rw [ih.2 e] at h; cases h
      simp only [allF, List.all_cons, Bool.and_eq_true] at this ⊢
      simp [this]
    | none =>
      have := ih.1 h
      simp only [allF, List.all_cons, Bool.and_eq_true] at this ⊢
      by_cases hx : x = 255
      · simp [hx, this]
      · simp [hx]

/-- The bytes are bytes. -/
def InB (zs : List Int) : Prop := ∀ z ∈ zs, 0 ≤ z ∧ z ≤ 255

theorem ff_up (p k : List Int) (hp : allF p = true) (hk : InB k) : cmpL k p < 0 ∨ pre p k = true := by
  induction p generalizing k with
  | nil => right; rfl
  | cons x r ih =>
    simp only [allF, List.all_cons, Bool.and_eq_true, beq_iff_eq] at hp
    obtain ⟨rfl, hr⟩ := hp
    cases k with
    | nil => left; simp [cmpL]
    | cons y t =>
      have hy := hk y (by simp)
      have ht : InB t := fun z hz => hk z (by simp [hz])
      rw [cmpL, pre]
      by_cases h1 : y < 255
      · left; simp [h1]
      · obtain rfl : y = 255 := by omega
        have := ih t hr ht
        simpa using this

theorem cmp_eq (p k : List Int) (h : cmpL k p = 0) : pre p k = true := by
  induction p generalizing k with
  | nil => rfl
  | cons x r ih =>
    cases k with
    | nil => simp [cmpL] at h
    | cons y t =>
      rw [cmpL] at h
      by_cases h1 : y < x
      · simp [h1] at h
      · by_cases h2 : x < y
        · simp [h1, h2] at h
        · obtain rfl : x = y := by omega
          simp only [h1, if_false] at h
          rw [pre, ih t h]
          simp

theorem cmp_nil (k : List Int) : 0 ≤ cmpL k [] := by cases k <;> simp [cmpL]
theorem pre_nil (k : List Int) : pre [] k = true := by cases k <;> rfl

theorem aft_lower (p q k : List Int) (hp : InB p) (hk : InB k) (h : aft p = some q) : (0 ≤ cmpL k q) ↔ (0 < cmpL k p ∧ pre p k = false) := by
  induction p generalizing q k with
  | nil => simp [aft] at h
  | cons x r ih =>
    have hr : InB r := fun z hz => hp z (by simp [hz])
    have hx := hp x (by simp)
    rw [aft] at h
    cases ha : aft r with
    | some q' =>
      rw [ha] at h
      simp only [Option.some.injEq] at h
      subst h
      cases k with
      | nil => simp [cmpL]
      | cons y t =>
        have ht : InB t := fun z hz => hk z (by simp [hz])
        rw [cmpL, cmpL, pre]
        by_cases h1 : y < x
        · simp [h1]
        · by_cases h2 : x < y
          · have : ¬ x = y := by omega
            simp [h1, h2, this]
          · obtain rfl : x = y := by omega
            simp only [h1, if_false, BEq.rfl, Bool.true_and]
            exact ih q' t hr ht ha
    | none =>
      rw [ha] at h
      have hff := (aft_none r).1 ha
      by_cases h255 : x = 255
      · simp [h255] at h
      · simp only [h255, if_false, Option.some.injEq] at h
        subst h
        cases k with
        | nil => simp [cmpL]
        | cons y t =>
          have ht : InB t := fun z hz => hk z (by simp [hz])
          rw [cmpL, cmpL, pre]
          by_cases h1 : y < x
          · have : y < x + 1 := by omega
            simp [h1, this]
          · by_cases h2 : x < y
            · have e1 : ¬ y < x + 1 := by omega
              have e2 : ¬ x = y := by omega
              simp only [h1, h2, e1, if_false, if_true]
              constructor
              · intro _
                exact ⟨by omega, by simp [e2]⟩
              · intro _
                by_cases h3 : x + 1 < y
                · simp [h3]
                · simp only [h3, if_false]
                  cases t <;> simp [cmpL]
            · obtain rfl : x = y := by omega
              have e1 : x < x + 1 := by omega
              simp only [h1, e1, if_false, if_true, BEq.rfl, Bool.true_and]
              constructor
              · intro h; omega
              · rintro ⟨h3, h4⟩
                exfalso
                rcases ff_up r t hff ht with h5 | h5
                · omega
                · rw [h5] at h4; cases h4

theorem aft_upper (p q k : List Int) (hp : InB p) (hk : InB k) (h : aft p = some q) : (cmpL k q < 0) ↔ (cmpL k p < 0 ∨ pre p k = true) := by
  have hl := aft_lower p q k hp hk h
  constructor
  · intro h1
    by_cases h2 : pre p k = true
    · exact Or.inr h2
    · left
      have h3 : ¬ 0 < cmpL k p := fun h4 => by
        have := hl.2 ⟨h4, by simpa using h2⟩
        omega
      have h5 : ¬ cmpL k p = 0 := fun h6 => h2 (cmp_eq p k h6)
      omega
  · intro h1
    have h2 : ¬ 0 ≤ cmpL k q := fun h3 => by
      obtain ⟨h4, h5⟩ := hl.1 h3
      rcases h1 with h1 | h1
      · omega
      · rw [h1] at h5; cases h5
    omega

/-- What the loop of 'after' comes to: behind place i nothing but ff. -/
theorem aft_at (p : List Int) (i : Nat) (hi : i < p.length) (hne : p.getD i 0 ≠ 255) (hff : ∀ j, i < j → j < p.length → p.getD j 0 = 255) : aft p = some (p.take i ++ [p.getD i 0 + 1]) := by
  induction p generalizing i with
  | nil => simp at hi
  | cons x r ih =>
    rw [aft]
    cases i with
    | zero =>
      have hr : aft r = none := by
        rw [aft_none]
        simp only [allF, List.all_eq_true, beq_iff_eq]
        intro z hz
        obtain ⟨j, hj⟩ := List.getElem?_of_mem hz
        have hl := (List.getElem?_eq_some_iff.1 hj).1
        have := hff (j + 1) (by omega) (by simpa using hl)
        rw [List.getD_eq_getElem?_getD, List.getElem?_cons_succ, hj] at this
        exact this
      have hx : ¬ x = 255 := by simpa using hne
      rw [hr]
      simp [hx]
    | succ i =>
      have h1 : i < r.length := by simpa using hi
      have h2 : r.getD i 0 ≠ 255 := by simpa using hne
      have h3 : ∀ j, i < j → j < r.length → r.getD j 0 = 255 := fun j hj hl => by
        have := hff (j + 1) (by omega) (by simpa using hl)
        simpa using this
      rw [ih i h1 h2 h3]
      simp

theorem aft_all (p : List Int) (hff : ∀ j, j < p.length → p.getD j 0 = 255) : aft p = none := by
  rw [aft_none]
  simp only [allF, List.all_eq_true, beq_iff_eq]
  intro z hz
  obtain ⟨j, hj⟩ := List.getElem?_of_mem hz
  have hl := (List.getElem?_eq_some_iff.1 hj).1
  have := hff j hl
  rw [List.getD_eq_getElem?_getD, hj] at this
  exact this

end Go.Proofs.Qxb6000023a
