import Derived.Test.Qxb6601850aRows
import Derived.WalkKit
import Derived.ProofKit
import Derived.OpenShut
import Derived.ShutString
import Derived.ChangeOld
import Derived.Below
import Derived.WalkSpells
import Derived.WalkLawsBesides
import Derived.Lib.RuneCount
import Derived.Laws.RangeString
import Derived.Laws.RangeAny
namespace Go.Proofs.Qxb6601850a
open Go.ChangeShapes Go.WideShapes Go.ChangeAt Go.RowKit
set_option linter.unusedVariables false

/-- The width of the character at p. -/
def wd (s : ByteArray) (p : Nat) : Nat := (Utf8.decode s p).2
/-- Where k characters from p on lead. -/
def jump (s : ByteArray) : Nat → Nat
  | 0 => 0
  | k + 1 => jump s k + wd s (jump s k)

theorem wd_le (s : ByteArray) (p : Nat) : wd s p ≤ 4 := by
  simp only [wd, Utf8.decode]
  repeat' split
  all_goals simp

theorem wd_pos (s : ByteArray) (p : Nat) (h : p < s.size) : 1 ≤ wd s p := Lib.decode_width_pos s p h

/-- What CutError answers: all of it, where at most 500 characters reach the end; else what lies ahead of the 501st. -/
def Kept (e : Ending) (s : ByteArray) : Prop :=
  (e = .returned (.string s) ∧ ∃ k, k ≤ 500 ∧ (∀ j, j < k → jump s j < s.size) ∧ s.size ≤ jump s k ∧ k ≤ jump s k ∧ jump s k ≤ 4 * k) ∨
  (e = .returned (.string (s.extract 0 (jump s 500))) ∧ (∀ j, j ≤ 500 → jump s j < s.size) ∧ 500 ≤ jump s 500 ∧ jump s 500 ≤ 2000)

set_option maxHeartbeats 400000 in
theorem cut_any (s : ByteArray) (w : World) (hs : s.size ≤ 1048576) : Calls Try.prog 7 #[.string s] w fun e w' => Kept e s ∧ Below w.heap.size w w' := by
  go_enter Try.func7, Try.ntmps7
  go_wp2
  go_loopw [3] (fun n w' => ∃ k : Nat, w' = w.iter s (jump s k) ∧ n = .int .i64 k ∧ k ≤ 500 ∧ Hid (∀ j, j < k → jump s j < s.size) ∧ k ≤ jump s k ∧ jump s k ≤ 4 * k) (fun _ w' => s.size - w'.iterPos w.heap.size)
  case atStart => exact ⟨0, rfl, rfl, by omega, fun j h => absurd h (by omega), Nat.le_refl _, Nat.le_refl _⟩
  case round =>
    obtain ⟨k, rfl, rfl, hk, hin, h1, h2⟩ := hrel
    have hJ : Hid (jump s (k + 1) = jump s k + wd s (jump s k)) := rfl
    have hbel : Below w.heap.size w (w.iter s (jump s k)) := (Below.refl _ _).alloc (Nat.le_refl _) _
    obtain ⟨pos, hpos⟩ : ∃ pos, pos = jump s k := ⟨_, rfl⟩
    rw [← hpos] at h1 h2 hJ hbel ⊢
    have HP : Hid _ := hpos
    clear hpos
    by_cases hp : pos < s.size
    · have hnx : ∀ ty, (Instr.next (.pointer (some ⟨w.heap.size, 0, none⟩)) true ty).run Try.prog (w.iter s pos) = _ := fun ty => run_next_any w s pos ty hp
      have hw1 : 1 ≤ (Utf8.decode s pos).2 := wd_pos s pos hp
      have hw2 : (Utf8.decode s pos).2 ≤ 4 := wd_le s pos
      by_cases h5 : k = 500
      · subst h5
        have hbel2 : Below w.heap.size w (w.iter s (pos + (Utf8.decode s pos).2)) := (Below.refl _ _).alloc (Nat.le_refl _) _
        go_wp2
        go_ret
        refine ⟨.inr ⟨by rw [← HP.out]; rfl, fun j hj => ?_, by rw [← HP.out]; exact h1, by rw [← HP.out]; omega⟩, hbel2⟩
        by_cases e : j = 500
        · subst e; rw [← HP.out]; exact hp
        · exact hin.out j (by omega)
      · have h5' : ((k : Int) == 500) = false := by simp; omega
        go_wp2
        go_roundw
        case rel =>
          refine ⟨k + 1, by rw [hJ.out]; rfl, by go_num, by omega, fun j hj => ?_, by rw [hJ.out]; show _ ≤ _ + (Utf8.decode s pos).2; omega, by rw [hJ.out]; show _ + (Utf8.decode s pos).2 ≤ _; omega⟩
          by_cases e : j = k
          · subst e; rw [← HP.out]; exact hp
          · exact hin.out j (by omega)
        case measure =>
          simp
          omega
    · have hnx : ∀ ty, (Instr.next (.pointer (some ⟨w.heap.size, 0, none⟩)) true ty).run Try.prog (w.iter s pos) = _ := fun ty => run_next_end w s pos ty hp
      go_wp2
      go_ret
      exact ⟨.inl ⟨rfl, k, hk, hin.out, by rw [← HP.out]; omega, by rw [← HP.out]; exact h1, by rw [← HP.out]; exact h2⟩, hbel⟩

end Go.Proofs.Qxb6601850a
