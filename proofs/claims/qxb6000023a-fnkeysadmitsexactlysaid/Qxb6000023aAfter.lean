import Derived.Test.Qxb6000023aMake
namespace Go.Proofs.Qxb6000023a
open Go.ChangeShapes Go.WideShapes Go.ChangeAt Go.RowKit
set_option linter.unusedVariables false

/-- What 'after' answers. -/
def AftPost (e : Ending) (base : Nat) (w : World) (P : List Int) : Prop :=
  (aft P = none ∧ e = .returned (.tuple #[.slice none 0 0, .bool false])) ∨
  ∃ q g cap, aft P = some q ∧ e = .returned (.tuple #[.slice (some ⟨g, 0, none⟩) q.length cap, .bool true]) ∧ Bytes w (some ⟨g, 0, none⟩) q.length q ∧ q.length ≤ P.length

theorem Bytes.cut {w : World} {a : Option Addr} {n : Nat} {zs : List Int} (h : Bytes w a n zs) (k : Nat) (hk : k ≤ n) : Bytes w a k (zs.take k) := by
  refine ⟨by rw [List.length_take, h.long]; omega, fun i hi => ?_, fun i => ?_⟩
  · obtain ⟨b, off, ha, hc⟩ := h.at' i (by omega)
    refine ⟨b, off, ha, ?_⟩
    rw [hc, List.getD_eq_getElem?_getD, List.getD_eq_getElem?_getD, List.getElem?_take, if_pos hi]
  · have := h.range i
    rw [List.getD_eq_getElem?_getD] at this
    rw [List.getD_eq_getElem?_getD, List.getElem?_take]
    split
    · exact this
    · simp

theorem aft_set (P : List Int) (j : Nat) (hj : j < P.length) : (P.take (j + 1)).set j (P.getD j 0 + 1) = P.take j ++ [P.getD j 0 + 1] := by
  rw [List.take_succ_eq_append_getElem hj, List.set_append_right _ _ (by simp; omega)]
  simp [Nat.min_eq_left (Nat.le_of_lt hj)]

set_option maxHeartbeats 1600000 in
theorem after_any (a : Option Addr) (n cap : Nat) (P : List Int) (w : World) (hs : Bytes w a n P) (hn : n ≤ 2097152) (hl : n ≤ cap) (hc : cap ≤ maxLen) :
    Calls Try.prog 28 #[.slice a n cap] w fun e w' => AftPost e w.heap.size w' P ∧ Below w.heap.size w w' := by
  unfold maxLen at hc
  have HLN := hid hs.long
  go_enter Try.func28, Try.ntmps28
  go_wp2
  go_loop [4] (fun i => ∃ k : Nat, k ≤ n ∧ i = .int .i64 k ∧ Hid (∀ j, k ≤ j → j < n → P.getD j 0 = 255)) (fun i => (intOf i).toNat)
  case atStart => exact ⟨n, Nat.le_refl _, rfl, fun j h1 h2 => absurd h1 (by omega)⟩
  case round =>
    obtain ⟨k, hk, rfl, hff⟩ := hrel
    cases k with
    | zero =>
      have HA := hid (aft_all P (fun j hj => hff.out j (Nat.zero_le _) (by rw [← HLN.out]; exact hj)))
      go_wp2
      go_ret2
      exact ⟨Or.inl ⟨HA.out, rfl⟩, Below.refl _ _⟩
    | succ j =>
      obtain ⟨b, off, rfl, hcell⟩ := hs.at' j (by omega)
      have hr := hs.range j
      have HT := hid (hs.cut (j + 1) hk)
      have HS := hid (aft_set P j (by rw [HLN.out]; omega))
      have HA := hid (aft_at P j (by rw [HLN.out]; omega))
      obtain ⟨c, hcx⟩ : ∃ c, c = P.getD j 0 := ⟨_, rfl⟩
      have HCX := hid hcx
      rw [← hcx] at hcell hr HS HA
      clear hcx hs
      by_cases h255 : c = 255
      · have h255' : (c == 255) = true := by simpa using h255
        have H := hid h255
        clear h255
        go_wp2
        go_round
        case rel =>
          refine ⟨j, by omega, by go_num, fun i h1 h2 => ?_⟩
          by_cases e : i = j
          · subst e; rw [← HCX.out]; exact H.out
          · exact hff.out i (by omega) h2
        case measure => simp [intOf]
      · have h255' : (c == 255) = false := by simpa using h255
        have hc254 : c ≤ 254 := by omega
        have HQ := hid (HA.out h255 (fun i h1 h2 => hff.out i (by omega) (by rw [← HLN.out]; exact h2)))
        have HL : Hid ((P.take (j + 1)).length = j + 1) := show _ = _ by rw [List.length_take, HLN.out]; omega
        have HQL : Hid ((P.take j ++ [c + 1]).length = j + 1) := show _ = _ by rw [← HS.out, List.length_set, HL.out]
        have HRG : Hid (∀ i, 0 ≤ (P.take j ++ [c + 1]).getD i 0 ∧ (P.take j ++ [c + 1]).getD i 0 ≤ 255) := by
          intro i
          rw [← HS.out]
          have := HT.out.range i
          rw [List.getD_eq_getElem?_getD] at this
          rw [List.getD_eq_getElem?_getD, List.getElem?_set]
          split
          · split
            · exact ⟨by simp; omega, by simp; omega⟩
            · simp
          · exact this
        have HG : Hid (((P.take (j + 1)).map (Value.int .u8))[j]? = some (.int .u8 c)) := by
          show _ = _
          rw [List.getElem?_map, List.getElem?_take, if_pos (by omega), List.getElem?_eq_getElem (by rw [HLN.out]; omega)]
          have e := HCX.out
          rw [List.getD_eq_getElem?_getD, List.getElem?_eq_getElem (by rw [HLN.out]; omega)] at e
          simp only [Option.getD_some] at e
          rw [e]
          rfl
        clear h255 HA
        go_wp2_with fail
        refine (sclone_any _ _ _ _ _ HT.out (by omega)).mono ?_
        rintro e w1 ⟨⟨v, rfl, hown⟩, hbel⟩
        rw [HL.out] at hown
        obtain ⟨g, cp, rfl, hg, hcp⟩ : ∃ g cp, v = .slice (some ⟨g, 0, none⟩) (j + 1) cp ∧ w.heap.size ≤ g ∧ j + 1 ≤ cp := by
          rcases hown.2 with ⟨_, h0⟩ | ⟨g, cp, cur, hv, hg, _, hle, _⟩
          · omega
          · exact ⟨g, cp, hv, hg, hle⟩
        have c2 : w1.cell? ⟨g, j, none⟩ = some (.int .u8 c) := by rw [hown.cellAt j (by omega)]; exact HG.out
        have c3 : w1.frozen? ⟨g, j, none⟩ = false := hown.frozenAt j
        have R1 := (hown.stored j (.int .u8 (c + 1))).1
        rw [← List.map_set, HS.out] at R1
        have R2 := hid (bytes_of_own HRG.out R1)
        have R3 := hid (hbel.setCell (p := ⟨g, j, none⟩) hg (.int .u8 (c + 1)))
        clear R1 hown hbel
        go_wp2
        go_ret2
        refine ⟨Or.inr ⟨_, g, cp, HQ.out, ?_, ?_, ?_⟩, R3.out⟩
        · rw [HQL.out]; rfl
        · rw [HQL.out]; exact R2.out
        · rw [HQL.out, HLN.out]; exact hk

end Go.Proofs.Qxb6000023a
