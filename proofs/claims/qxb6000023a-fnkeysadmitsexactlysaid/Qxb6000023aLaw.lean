import Derived.Test.Qxb6000023aRange
namespace Go.Proofs.Qxb6000023a
open Go.ChangeShapes Go.WideShapes Go.ChangeAt Go.RowKit
set_option linter.unusedVariables false

def SomeB (e : Ending) : Prop := ∃ b, e = .returned (.bool b)

set_option maxRecDepth 100000 in
set_option maxHeartbeats 800000 in
theorem zzBytes_any (a b p k : Option Addr) (an ac bn bc pn pc kn kc : Nat) (lx hx : Bool) (w : World) :
    Calls Try.prog 6 #[.slice a an ac, .slice b bn bc, .bool lx, .bool hx, .slice p pn pc, .slice k kn kc] w fun e w' => SomeB e ∧ w' = w := by
  go_enter Try.func6, Try.ntmps6
  go_wp2
  all_goals
    go_ret
    exact ⟨⟨_, rfl⟩, rfl⟩

/-- What zzClone answers. -/
def Cloned (e : Ending) (w : World) (n : Nat) (zs : List Int) (flag : Bool) : Prop := ∃ a c, e = .returned (.slice a n c) ∧ Val w a n c zs ∧ a.isSome = flag

theorem clone_any (a : Option Addr) (n c : Nat) (zs : List Int) (w : World) (hs : Bytes w a n zs) (hn : n ≤ 262144) :
    Calls Try.prog 7 #[.slice a n c] w fun e w' => Cloned e w' n zs a.isSome ∧ Below w.heap.size w w' := by
  cases a with
  | none =>
    obtain ⟨rfl, rfl⟩ := hs.nil
    refine (clone_nil c w).mono ?_
    rintro e w' ⟨rfl, rfl⟩
    exact ⟨⟨none, 0, rfl, ⟨hs, fun _ => rfl, hn⟩, rfl⟩, Below.refl _ _⟩
  | some x =>
    refine (clone_some x n c zs w hs (by omega)).mono ?_
    rintro e w' ⟨rfl, hb, hbel⟩
    exact ⟨⟨_, _, rfl, ⟨hb, (fun h => by cases h), hn⟩, rfl⟩, hbel⟩

/-- What the law wants of the lower end, and of the upper. -/
def lowerV (fl lx : Bool) (L P K : List Int) : Bool :=
  if fl = false then decide (0 ≤ cmpL K P) else if lx = false then decide (0 ≤ cmpL K (P ++ L)) else (decide (0 < cmpL K (P ++ L)) && !pre (P ++ L) K)
def upperV (fh hx : Bool) (H P K : List Int) : Bool :=
  if fh = false then (decide (cmpL K P < 0) || pre P K) else if hx = true then decide (cmpL K (P ++ H) < 0) else (decide (cmpL K (P ++ H) < 0) || pre (P ++ H) K)

theorem lower_ok (fl lx fp : Bool) (L P K : List Int) (l : Option (List Int × Bool)) (hL : InB L) (hP : InB P) (hK : InB K) (h0 : fl = false → L = []) (hp : fp = false → P = []) (h : lowB fl L lx fp P = some l) : lowOk l K = lowerV fl lx L P K := by
  have hPL : InB (P ++ L) := fun z hz => by
    rcases List.mem_append.1 hz with h' | h'
    · exact hP z h'
    · exact hL z h'
  unfold lowB at h
  unfold lowerV
  cases fl with
  | false =>
    obtain rfl := h0 rfl
    cases fp with
    | false =>
      obtain rfl := hp rfl
      simp at h
      subst h
      have := cmp_nil K
      simp [lowOk, this]
    | true =>
      simp at h
      subst h
      simp only [lowOk]
      rcases cmpL_range K P with e | e | e <;> rw [e] <;> rfl
  | true =>
    cases lx with
    | false =>
      simp at h
      subst h
      simp only [lowOk]
      rcases cmpL_range K (P ++ L) with e | e | e <;> rw [e] <;> rfl
    | true =>
      simp at h
      obtain ⟨q, hq, rfl⟩ := h
      have hlow := aft_lower (P ++ L) q K hPL hK hq
      simp only [lowOk, Bool.and_false, Bool.or_false]
      rw [Bool.eq_iff_iff]
      simp
      rw [hlow]

theorem upper_ok (fh hx fp : Bool) (H P K : List Int) (hH : InB H) (hP : InB P) (hK : InB K) (h0 : fh = false → H = []) (hp : fp = false → P = []) : upOk (uppB fh H hx fp P) K = upperV fh hx H P K := by
  have hPH : InB (P ++ H) := fun z hz => by
    rcases List.mem_append.1 hz with h' | h'
    · exact hP z h'
    · exact hH z h'
  have key : ∀ Q : List Int, InB Q → upOk ((aft Q).map (fun q => (q, true))) K = (decide (cmpL K Q < 0) || pre Q K) := by
    intro Q hQ
    cases hq : aft Q with
    | none =>
      have hff := (aft_none Q).1 hq
      simp only [Option.map_none, upOk]
      have := ff_up Q K hff hK
      symm
      simpa using this
    | some q =>
      have hup := aft_upper Q q K hQ hK hq
      simp only [Option.map_some, upOk, Bool.and_true]
      rw [Bool.eq_iff_iff]
      simp only [Bool.not_eq_true', Bool.or_eq_false_iff, decide_eq_false_iff_not, beq_eq_false_iff_ne, Bool.or_eq_true, decide_eq_true_eq]
      rw [← hup]
      omega
  unfold uppB upperV
  cases fh with
  | false =>
    obtain rfl := h0 rfl
    cases fp with
    | false =>
      obtain rfl := hp rfl
      simp [upOk, pre_nil]
    | true =>
      have := key P hP
      simpa using this
  | true =>
    cases hx with
    | true =>
      simp only [Bool.and_self, if_true, upOk, Bool.and_true]
      rcases cmpL_range K (P ++ H) with e | e | e <;> rw [e] <;> rfl
    | false =>
      have := key (P ++ H) hPH
      simpa using this

theorem bytes_inB {w : World} {a : Option Addr} {n : Nat} {zs : List Int} (h : Bytes w a n zs) : InB zs := by
  intro z hz
  obtain ⟨i, hi⟩ := List.getElem?_of_mem hz
  have := h.range i
  rw [List.getD_eq_getElem?_getD, hi] at this
  exact this

end Go.Proofs.Qxb6000023a
