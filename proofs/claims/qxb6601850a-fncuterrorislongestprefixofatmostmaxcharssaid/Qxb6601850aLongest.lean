import Derived.Test.Qxb6601850aPlain
namespace Go.Proofs.Qxb6601850a
open Go.ChangeShapes Go.WideShapes Go.ChangeAt Go.RowKit
set_option linter.unusedVariables false

theorem extract_all (s : ByteArray) : (s.extract 0 s.size).toList = s.toList := by
  have hl : s.data.toList.length = s.size := rfl
  rw [Lib.toList_data, Lib.toList_data, Lib.extract_data, List.drop_zero, List.take_of_length_le (by omega)]
theorem all_ne (s : ByteArray) : ((s.extract 0 s.size).toList != s.toList) = false := by
  rw [extract_all]; simp

set_option maxHeartbeats 400000 in
theorem count_any (s : ByteArray) (w : World) (hs : s.size ≤ 1048576) : Calls Try.prog 8 #[.string s] w fun e w' => e = .returned (.int .i64 (cnt s 0 : Nat)) ∧ Below w.heap.size w w' := by
  go_enter Try.func8, Try.ntmps8
  go_wp2
  go_loopw [3] (fun n w' => ∃ k : Nat, w' = w.iter s (jump s k) ∧ n = .int .i64 k ∧ Hid (∀ j, j < k → jump s j < s.size) ∧ k ≤ jump s k ∧ (k ≤ s.size)) (fun _ w' => s.size - w'.iterPos w.heap.size)
  case atStart => exact ⟨0, rfl, rfl, fun j h => absurd h (by omega), Nat.le_refl _, Nat.zero_le _⟩
  case round =>
    obtain ⟨k, rfl, rfl, hin, h1, h2⟩ := hrel
    have hJ : Hid (jump s (k + 1) = jump s k + wd s (jump s k)) := rfl
    have hbel : Below w.heap.size w (w.iter s (jump s k)) := (Below.refl _ _).alloc (Nat.le_refl _) _
    have HC : Hid _ := cnt_jump s k hin.out
    obtain ⟨pos, hpos⟩ : ∃ pos, pos = jump s k := ⟨_, rfl⟩
    rw [← hpos] at h1 hJ hbel HC ⊢
    have HP : Hid _ := hpos
    clear hpos
    by_cases hp : pos < s.size
    · have hnx : ∀ ty, (Instr.next (.pointer (some ⟨w.heap.size, 0, none⟩)) true ty).run Try.prog (w.iter s pos) = _ := fun ty => run_next_any w s pos ty hp
      have hw1 : 1 ≤ (Utf8.decode s pos).2 := wd_pos s pos hp
      go_wp2
      go_roundw
      case rel =>
        refine ⟨k + 1, by rw [hJ.out]; rfl, by go_num, fun j hj => ?_, by rw [hJ.out]; show _ ≤ _ + (Utf8.decode s pos).2; omega, by omega⟩
        by_cases e : j = k
        · subst e; rw [← HP.out]; exact hp
        · exact hin.out j (by omega)
      case measure =>
        simp
        omega
    · have hnx : ∀ ty, (Instr.next (.pointer (some ⟨w.heap.size, 0, none⟩)) true ty).run Try.prog (w.iter s pos) = _ := fun ty => run_next_end w s pos ty hp
      have HE : Hid (cnt s 0 = k) := by
        have := HC.out
        rw [cnt_end s pos (by omega), Nat.add_zero] at this
        exact this
      go_wp2
      go_ret
      exact ⟨by rw [HE.out]; rfl, hbel⟩

set_option maxRecDepth 100000 in
set_option maxHeartbeats 800000 in
theorem longest_walk (s : ByteArray) (w : World) (hs : s.size ≤ maxLen) : Calls Try.prog 3 #[.string s] w fun e w' => e = .returned (.bool true) ∧ Below w.heap.size w w' := by
  unfold maxLen at hs
  by_cases h20 : 1048576 < s.size
  · go_enter Try.func3, Try.ntmps3
    go_wp2
    go_ret
    exact ⟨rfl, Below.refl _ _⟩
  have d20 : decide (1048576 < (s.size : Int)) = false := by simp; omega
  go_enter Try.func3, Try.ntmps3
  go_wp2_with (first | (go_at_call 6; go_in) | fail)
  refine (cut_any s w (by omega)).mono ?_
  rintro e w1 ⟨h, hb⟩
  rcases h with ⟨rfl, k, hk, hin, h1, h2, h3⟩ | ⟨rfl, hin, h1, h2⟩
  · have HC : cnt s 0 = k := by rw [cnt_jump s k hin, cnt_end s _ h1]; rfl
    have H0 : cnt ByteArray.empty 0 = 0 := cnt_end _ _ (Nat.le_refl _)
    have hne := all_ne s
    clear hin h1 h2 h3
    go_wp2_with fail
    refine (count_any s _ (by omega)).mono ?_
    rintro e w2 ⟨rfl, hb2⟩
    have hB2 : Below w.heap.size w w2 := hb.trans (hb2.mono hb.size)
    go_wp2_with fail
    refine (count_any s _ (by omega)).mono ?_
    rintro e w3 ⟨rfl, hb3⟩
    have hB3 : Below w.heap.size w w3 := hB2.trans (hb3.mono hB2.size)
    go_wp2_with fail
    refine (count_any ByteArray.empty _ (Nat.zero_le _)).mono ?_
    rintro e w4 ⟨rfl, hb4⟩
    have hB4 : Below w.heap.size w w4 := hB3.trans (hb4.mono hB3.size)
    go_wp2
    go_ret
    exact ⟨rfl, hB4⟩
  · have h3 := hin 500 (Nat.le_refl _)
    have hsz := size_extract s 0 (jump s 500) (Nat.zero_le _) (by omega)
    rw [Nat.sub_zero] at hsz
    have C1 := cnt_jump s 500 (fun j hj => hin j (by omega))
    have C2 := cnt_prefix s 500 (fun j hj => hin j (by omega)) (by omega)
    have C3 := cnt_suffix s (jump s 500) (by omega)
    have C4 := cnt_step s (jump s 500) h3
    have C5 : cnt s (jump s 500) ≤ 1048576 := Nat.le_trans (Lib.runeCountFrom_le s s.size _) (by omega)
    have Z1 : (s.extract (jump s 500) s.size).size ≤ 1048576 := by rw [ByteArray.size_extract]; omega
    clear hin
    generalize jump s 500 = p at *
    generalize hr : s.extract 0 p = r at *
    have hq : ((s.extract 0 p).toList == r.toList) = true := by rw [hr]; simp
    clear hr
    obtain ⟨t, ht⟩ : ∃ t, t = cnt s p := ⟨_, rfl⟩
    rw [← ht] at C1 C3 C4 C5
    have ht1 : 1 ≤ t := by omega
    clear C4 ht
    go_wp2_with fail
    refine (count_any s _ (by omega)).mono ?_
    rintro e w2 ⟨rfl, hb2⟩
    have hB2 : Below w.heap.size w w2 := hb.trans (hb2.mono hb.size)
    go_wp2_with fail
    refine (count_any r _ (by omega)).mono ?_
    rintro e w3 ⟨rfl, hb3⟩
    have hB3 : Below w.heap.size w w3 := hB2.trans (hb3.mono hB2.size)
    go_wp2_with fail
    refine (count_any (s.extract p s.size) _ Z1).mono ?_
    rintro e w4 ⟨rfl, hb4⟩
    have hB4 : Below w.heap.size w w4 := hB3.trans (hb4.mono hB3.size)
    go_wp2
    go_ret
    exact ⟨rfl, hB4⟩

end Go.Proofs.Qxb6601850a
