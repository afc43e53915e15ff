import Derived.Test.Qxb6001473aCell
import Derived.Test.Qxb6001473aPlain
import Derived.Deep.QuietTactic
import Derived.BigQuiet
namespace Go.Proofs.Qxb6001473a
open Go.ChangeShapes Go.WideShapes Go.ChangeAt Go.RowKit
set_option linter.unusedVariables false

theorem byte_at (t : ByteArray) (k : Nat) (h : k < t.size) : t.data.toList[k]? = some t[k] := by
  have hl : t.data.toList.length = t.size := rfl
  rw [List.getElem?_eq_getElem (by omega)]
  rfl
theorem byte_is (c : UInt8) (h : (c.toNat : Int) = 44) : c = 44 := UInt8.toNat_inj.1 (by simpa using (show c.toNat = 44 by omega))
theorem byte_not (c : UInt8) (h : ¬ (c.toNat : Int) = 44) : c ≠ 44 := fun e => h (by subst e; rfl)

/-- What hasComma answers: 'false' only where there is no comma. -/
def Clean (e : Ending) (x : ByteArray) : Prop := ∃ b, e = .returned (.bool b) ∧ (b = false → (44 : UInt8) ∉ x.data.toList)

set_option maxHeartbeats 400000 in
theorem hasComma_any (x : ByteArray) (w : World) (hx : x.size ≤ 1048576) : Calls Try.prog 10 #[.string x] w fun e w' => w' = w ∧ Clean e x := by
  go_enter Try.func10, Try.ntmps10
  go_wp2
  go_loop [3] (fun i => ∃ k : Nat, k ≤ x.size ∧ i = .int .i64 k ∧ Hid (∀ j, j < k → x.data.toList[j]? ≠ some 44)) (fun i => x.size - (intOf i).toNat)
  case atStart => exact ⟨0, Nat.zero_le _, rfl, fun j h => absurd h (by omega)⟩
  case round =>
    obtain ⟨k, hk, rfl, hn⟩ := hrel
    by_cases hlt : k < x.size
    · have HB : Hid _ := byte_at x k hlt
      by_cases hc : (x[k].toNat : Int) = 44
      · have hc' : ((x[k].toNat : Int) == 44) = true := by simpa using hc
        clear hc
        go_wp2
        go_ret
        exact ⟨rfl, true, rfl, by simp⟩
      · have hc' : ((x[k].toNat : Int) == 44) = false := by simpa using hc
        have HC : Hid _ := byte_not _ hc
        clear hc
        go_wp2
        go_round
        case rel =>
          refine ⟨k + 1, by omega, by go_num, fun j hj => ?_⟩
          by_cases e : j = k
          · subst e
            rw [HB.out]
            intro h
            exact HC.out (by simpa using h)
          · exact hn.out j (by omega)
        case measure => simp [intOf]; omega
    · go_wp2
      go_ret
      refine ⟨rfl, false, rfl, fun _ hm => ?_⟩
      obtain ⟨i, hi⟩ := List.getElem?_of_mem hm
      have hl : x.data.toList.length = x.size := rfl
      have hlen := (List.getElem?_eq_some_iff.1 hi).1
      exact hn.out i (by omega) hi

set_option maxHeartbeats 400000 in
theorem sameList_yes (a b : Option Addr) (n ca cb : Nat) (ss : List ByteArray) (w : World) (hs : Strs w a n ss) (ht : Strs w b n ss) (hn : n ≤ 4194304) :
    Calls Try.prog 12 #[.slice a n ca, .slice b n cb] w fun e w' => e = .returned (.bool true) ∧ Below w.heap.size w w' := by
  have e0 : ((n : Int) != (n : Int)) = false := by simp
  go_enter Try.func12, Try.ntmps12
  go_wp2
  go_loopw [5] (fun i wr => ∃ k : Nat, k ≤ n ∧ i = .int .i64 k ∧ Below w.heap.size w wr) (fun i _ => n - (intOf i).toNat)
  case atStart => exact ⟨0, Nat.zero_le _, rfl, Below.refl _ _⟩
  case round =>
    obtain ⟨k, hk, rfl, hbel⟩ := hrel
    by_cases hlt : k < n
    · obtain ⟨b1, off1, rfl, hc1⟩ := (hs.below hbel).at' k hlt
      obtain ⟨b2, off2, rfl, hc2⟩ := (ht.below hbel).at' k hlt
      have hlt' : (k : Int) < (n : Int) := by omega
      go_wp2
      go_quiet (fail)
      go_wp2
      go_roundw
      case rel => exact ⟨k + 1, by omega, by go_num, below_drewN hbel _⟩
      case measure => simp [intOf]; omega
    · go_wp2
      go_ret
      exact ⟨rfl, hbel⟩

/-- What splitComma answers: a slice of new memory that holds the pieces. -/
def Pieces (e : Ending) (base : Nat) (w : World) (t : ByteArray) : Prop :=
  ∃ (g cap : Nat) (R : List ByteArray), e = .returned (.slice (some ⟨g, 0, none⟩) R.length cap) ∧ R.map (·.data.toList) = splitL t.data.toList ∧ Strs w (some ⟨g, 0, none⟩) R.length R ∧ R.length ≤ t.size + 1

theorem own_base {w : World} {base e size n : Nat} {v : Value} {xs : List Value} (h : w.ownsRow base e size v n xs) : ∀ k, v.ownBlock = some k → base ≤ k := by
  intro k hk
  rcases h.2 with ⟨rfl, _⟩ | ⟨g, cap, cur, rfl, hg, _⟩
  · simp [Value.ownBlock] at hk
  · simp only [Value.ownBlock, Option.some.injEq] at hk
    omega

theorem pieces_of {w : World} {base : Nat} {v : Value} {R : List ByteArray} {t : ByteArray} (h : w.ownsRow base 9 1 v R.length (R.map Value.string)) (hR : R.map (·.data.toList) = splitL t.data.toList) (hn : R.length ≤ t.size + 1) : Pieces (.returned v) base w t := by
  rcases h.2 with ⟨rfl, h0⟩ | ⟨g, cap, cur, rfl, hg, hh, _, _, _, htake⟩
  · exfalso
    obtain rfl : R = [] := List.eq_nil_of_length_eq_zero h0
    cases hl : t.data.toList with
    | nil => rw [hl] at hR; simp [splitL] at hR
    | cons c r =>
      rw [hl, splitL] at hR
      split at hR
      · simp at hR
      · split at hR <;> simp at hR
  · refine ⟨g, cap, R, rfl, hR, ⟨rfl, fun i hi => ⟨g, 0, rfl, ?_⟩⟩, hn⟩
    rw [Nat.zero_add, h.cellAt i (by omega)]
    simp [hi]

set_option maxHeartbeats 800000 in
theorem splitComma_any (t : ByteArray) (w : World) (ht : t.size ≤ 4194304) : Calls Try.prog 11 #[.string t] w fun e w' => Pieces e w.heap.size w' t ∧ Below w.heap.size w w' := by
  obtain ⟨i0, hi, hz0, hz1, hz2⟩ := info_parts Try.info9
  go_enter Try.func11, Try.ntmps11
  go_wp2
  go_loopw [3, 4, 5] (fun v st i wr => ∃ (k s : Nat) (P : List ByteArray), k ≤ t.size ∧ i = .int .i64 k ∧ st = .int .i64 s ∧ Hid (Cut t.data.toList k s P) ∧ wr.ownsRow w.heap.size 9 1 v P.length (P.map Value.string) ∧ Below w.heap.size w wr) (fun _ _ i _ => t.size - (intOf i).toNat)
  case atStart => exact ⟨0, 0, [], Nat.zero_le _, rfl, rfl, Cut.start _, World.ownsRow_nil _ _ _ _, Below.refl _ _⟩
  case round =>
    obtain ⟨k, s, P, hk, rfl, rfl, HC, hown, hbel⟩ := hrel
    have hsk := HC.out.le
    have hfew := HC.out.few
    by_cases hlt : k < t.size
    · have HB : Hid _ := byte_at t k hlt
      by_cases hc : (t[k].toNat : Int) = 44
      · have hc' : ((t[k].toNat : Int) == 44) = true := by simpa using hc
        have HC2 : Hid _ := byte_is _ hc
        clear hc
        go_wp2_with (first | (at_builtin; refine wpList_append_own _ rfl (.tmp 16) (.tmp 21) 22 rfl w.heap.size 9 i0 (.string ByteArray.empty) 1 16 Try.underlying22 hi hz0 hz1 hz2 rfl (by decide) _ _ _ rfl (hown.alloc _) ⟨wr.heap.size, 0, none⟩ 1 1 [.string (t.extract s k)] rfl rfl (cell_one_new _ _ _) (by intro u hu; simp at hu; subst hu; rfl) (by unfold maxLen; omega) (by omega) (by have := hbel.size; simp; omega) ?_) | fail)
        intro v6 w6 hown6 hgrow6 _
        have hbel6 : Below w.heap.size w w6 := (hbel.alloc hbel.size _).grown hgrow6 (by have := hbel.size; simp; omega) (own_base hown)
        have R : Hid _ := hown6
        clear hown6 hgrow6 hown hbel
        go_wp2
        go_roundw
        case rel =>
          refine ⟨k + 1, k + 1, P ++ [t.extract s k], by omega, by go_num, by go_num, HC.out.cut hlt (by rw [HB.out, HC2.out]), ?_, hbel6⟩
          have R' := R.out
          rw [List.map_append, List.map_cons, List.map_nil, List.length_append]
          exact R'
        case measure => simp [intOf]; omega
      · have hc' : ((t[k].toNat : Int) == 44) = false := by simpa using hc
        have HC2 : Hid _ := byte_not _ hc
        clear hc
        go_wp2
        go_roundw
        case rel => exact ⟨k + 1, s, P, by omega, by go_num, rfl, HC.out.skip (by rw [HB.out]; intro h; exact HC2.out (by simpa using h)), hown, hbel⟩
        case measure => simp [intOf]; omega
    · obtain rfl : k = t.size := by omega
      go_wp2_with (first | (at_builtin; refine wpList_append_own _ rfl (.tmp 25) (.tmp 29) 22 rfl w.heap.size 9 i0 (.string ByteArray.empty) 1 16 Try.underlying22 hi hz0 hz1 hz2 rfl (by decide) _ _ _ rfl (hown.alloc _) ⟨wr.heap.size, 0, none⟩ 1 1 [.string (t.extract s t.size)] rfl rfl (cell_one_new _ _ _) (by intro u hu; simp at hu; subst hu; rfl) (by unfold maxLen; omega) (by omega) (by have := hbel.size; simp; omega) ?_) | fail)
      intro v6 w6 hown6 hgrow6 _
      have hbel6 : Below w.heap.size w w6 := (hbel.alloc hbel.size _).grown hgrow6 (by have := hbel.size; simp; omega) (own_base hown)
      have R : Hid _ := hown6
      clear hown6 hgrow6 hown hbel
      go_wp2
      go_ret
      refine ⟨pieces_of ?_ HC.out.done (by simp; omega), hbel6⟩
      have R' := R.out
      rw [List.map_append, List.map_cons, List.map_nil, List.length_append]
      exact R'

end Go.Proofs.Qxb6001473a
