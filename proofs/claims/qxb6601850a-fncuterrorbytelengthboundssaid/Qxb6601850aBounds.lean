import Derived.Test.Qxb6601850aBase
namespace Go.Proofs.Qxb6601850a
open Go.ChangeShapes Go.WideShapes Go.ChangeAt Go.RowKit
set_option linter.unusedVariables false

theorem extract_size (s : ByteArray) (p : Nat) (h : p ≤ s.size) : (s.extract 0 p).size = p := by
  rw [ByteArray.size_extract]
  omega

set_option maxRecDepth 100000 in
set_option maxHeartbeats 800000 in
theorem bounds_walk (s : ByteArray) (w : World) (hs : s.size ≤ maxLen) : Calls Try.prog 4 #[.string s] w fun e w' => e = .returned (.bool true) ∧ Below w.heap.size w w' := by
  unfold maxLen at hs
  by_cases h20 : 1048576 < s.size
  · go_enter Try.func4, Try.ntmps4
    go_wp2
    go_ret
    exact ⟨rfl, Below.refl _ _⟩
  have d20 : decide (1048576 < (s.size : Int)) = false := by simp; omega
  go_enter Try.func4, Try.ntmps4
  go_wp2_with (first | (go_at_call 9; go_in) | fail)
  refine (cut_any s w (by omega)).mono ?_
  rintro e w1 ⟨h, hb⟩
  rcases h with ⟨rfl, k, hk, hin, h1, h2, h3⟩ | ⟨rfl, hin, h1, h2⟩
  · have hz : s.size ≤ 2000 := by omega
    clear hin h1 h2 h3
    by_cases h5 : 500 < s.size
    · go_wp2
      go_ret
      exact ⟨rfl, hb⟩
    · have hne : (s.toList != s.toList) = false := by simp
      go_wp2
      go_ret
      exact ⟨rfl, hb⟩
  · have h3 := hin 500 (Nat.le_refl _)
    have hsz := extract_size s (jump s 500) (by omega)
    clear hin
    generalize jump s 500 = p at *
    generalize s.extract 0 p = r at *
    have h5 : 500 < s.size := by omega
    have hr1 : 500 ≤ r.size := by omega
    have hr2 : r.size ≤ 2000 := by omega
    have hr3 : r.size ≤ s.size := by omega
    clear hsz h1 h2 h3
    go_wp2
    go_ret
    exact ⟨rfl, hb⟩

end Go.Proofs.Qxb6601850a
