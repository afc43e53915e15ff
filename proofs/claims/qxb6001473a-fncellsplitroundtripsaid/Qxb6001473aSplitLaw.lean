import Derived.Test.Qxb6001473aSplit
namespace Go.Proofs.Qxb6001473a
open Go.ChangeShapes Go.WideShapes Go.ChangeAt Go.RowKit
set_option linter.unusedVariables false

set_option maxHeartbeats 400000 in
theorem zzBytes3 (a : Option Addr) (len cap : Nat) (ss : List ByteArray) (w : World) (hs : Strs w a len ss) (hl : len ≤ cap) (hc : cap ≤ maxLen) :
    Calls Try.prog 9 #[.slice a len cap] w fun e w' => w' = w ∧ Within e (len + lens ss) := by
  unfold maxLen at hc
  by_cases h1 : 1048576 < len
  · go_enter Try.func9, Try.ntmps9
    go_wp2
    go_ret
    exact ⟨rfl, .no rfl⟩
  · have h1' : decide (1048576 < (len : Int)) = false := by simp; omega
    go_enter Try.func9, Try.ntmps9
    go_wp2
    go_loop [3, 4] (fun n i => ∃ k : Nat, k ≤ len ∧ i = .int .i64 k ∧ n = .int .i64 (len + lens (ss.take k) : Nat) ∧ len + lens (ss.take k) ≤ 1048576) (fun _ i => len - (intOf i).toNat)
    case atStart => exact ⟨0, Nat.zero_le _, rfl, rfl, by simp [lens]; omega⟩
    case round =>
      obtain ⟨k, hk, rfl, rfl, hb⟩ := hrel
      by_cases hlt : k < len
      · obtain ⟨b, off, rfl, hcell⟩ := hs.at' k hlt
        have HS : Hid _ := lens_take_succ ss k (by rw [hs.long]; exact hlt)
        go_wp2
        · go_ret
          exact ⟨rfl, .no rfl⟩
        · go_ret
          exact ⟨rfl, .no rfl⟩
        · have hle : (len : Int) + (lens (ss.take k) : Int) + ((ss[k]?.getD ByteArray.empty).size : Int) ≤ 1048576 := by assumption
          have HS' := HS.out
          rw [List.getD_eq_getElem?_getD] at HS'
          go_round
          case rel => exact ⟨k + 1, by omega, by go_num, by rw [HS']; go_num, by rw [HS']; omega⟩
          case measure => simp [intOf]; omega
      · go_wp2
        go_ret
        exact ⟨rfl, .yes rfl (by rw [List.take_of_length_le (by rw [hs.long]; omega)] at hb; exact hb)⟩

theorem size_le_lens (ss : List ByteArray) (k : Nat) : (ss.getD k ByteArray.empty).size ≤ lens ss := by
  by_cases h : k < ss.length
  · have h1 := lens_take_succ ss k h
    have h2 := lens_take_le ss (k + 1)
    omega
  · rw [List.getD_eq_getElem?_getD, List.getElem?_eq_none (by omega)]
    exact Nat.zero_le _

theorem cellOf_size (ss : List ByteArray) : (cellOf ss).size ≤ 4 + ss.length + lens ss := by
  match ss with
  | [] => exact Nat.le_refl 4
  | [x] => show x.size ≤ _; simp [lens]
  | x :: y :: r =>
    have h := join_length (x :: y :: r)
    show (Array.size _) ≤ _
    simp only [List.size_toArray]
    omega

theorem cellOf_data (ss : List ByteArray) (h : 0 < ss.length) : (cellOf ss).data.toList = Lib.join (ss.map (·.data.toList)) [44] := by
  match ss, h with
  | [x], _ => rw [List.map_cons, List.map_nil, Lib.join_one]; rfl
  | x :: y :: r, _ => simp [cellOf, commaStr]

theorem pieces_back (ss R : List ByteArray) (h : 0 < ss.length) (hn : ∀ k, k < ss.length → (44 : UInt8) ∉ (ss.getD k ByteArray.empty).data.toList) (hR : R.map (·.data.toList) = splitL (cellOf ss).data.toList) : R = ss := by
  refine bytes_inj R ss ?_
  rw [hR, cellOf_data ss h]
  match ss, h, hn with
  | x :: r, _, hn =>
    rw [List.map_cons]
    refine splitL_join _ _ (fun y hy => ?_)
    rw [← List.map_cons (f := fun b : ByteArray => b.data.toList), List.mem_map] at hy
    obtain ⟨b, hb, rfl⟩ := hy
    obtain ⟨i, hi⟩ := List.getElem?_of_mem hb
    have := hn i (List.getElem?_eq_some_iff.1 hi).1
    rw [List.getD_eq_getElem?_getD, hi] at this
    exact this

set_option maxHeartbeats 800000 in
theorem split_walk (a : Option Addr) (len cap : Nat) (ss : List ByteArray) (w : World) (hs : Strs w a len ss) (hl : len ≤ cap) (hc : cap ≤ maxLen) :
    Calls Try.prog 4 #[.slice a len cap] w fun e w' => e = .returned (.bool true) ∧ Below w.heap.size w w' := by
  have hq := fun wx => run_neq_slice_nil_any (P := Try.prog) wx 22 9 a len cap 0 0 Try.underlying22
  obtain ⟨i0, hi, hz0, hz1, hz2⟩ := info_parts Try.info9
  go_enter Try.func4, Try.ntmps4
  go_wp2_with fail
  refine (zzBytes3 a len cap ss w hs hl hc).mono ?_
  unfold maxLen at hc
  rintro e w' ⟨rfl, b, rfl, hb0⟩
  cases b with
  | false =>
    go_wp2
    go_ret
    exact ⟨rfl, Below.refl _ _⟩
  | true =>
    have hb := hb0 rfl
    clear hb0
    by_cases h16 : 65536 < len
    · go_wp2
      go_ret
      exact ⟨rfl, Below.refl _ _⟩
    have d16 : decide (65536 < (len : Int)) = false := by simp; omega
    go_wp2_with fail
    refine (bytesOf_any a len cap ss w' hs (by omega) hb).mono ?_
    rintro e w ⟨rfl, rfl⟩
    by_cases h20 : 1048576 < 8 * len + lens ss
    · go_wp2
      go_ret
      exact ⟨rfl, Below.refl _ _⟩
    have d20 : decide (1048576 < 8 * (len : Int) + (lens ss : Int)) = false := by simp; omega
    by_cases ha0 : len = 0
    · go_wp2
      go_ret
      exact ⟨rfl, Below.refl _ _⟩
    have da : ((len : Int) == 0) = false := by simp; omega
    obtain ⟨ba, offa, rfl, hlta, hcella⟩ := hs.plain (by omega)
    clear hcella hlta
    go_wp2_with (first | (at_make; refine wpList_make_full _ rfl (.tmp 21) (.tmp 21) 22 rfl w.heap.size 9 i0 (.string ByteArray.empty) 1 Try.underlying22 hi hz0 hz1 .i64 .i64 _ _ len rfl rfl rfl rfl ?b2 ?b3 ?b4 ?_) | fail)
    case b2 => rw [hz2]; omega
    case b3 => unfold maxLen; omega
    case b4 => exact Nat.le_refl _
    intro w1 hown1 hgrow1
    have hbel1 : Below w.heap.size w w1 := (Below.refl _ _).grown hgrow1 (Nat.le_refl _) (by simp)
    have HR1 : Hid (w1.heap[w.heap.size]? = some (.cells (List.replicate len (Value.string ByteArray.empty)).toArray 9 (0, 0))) := by
      refine row_of_own (base := w.heap.size) (n := len) ?_
      rw [← toList_madeCells_one]; simpa using hown1
    clear hown1 hgrow1
    have K1 : Hid ((ss.map Value.string).length = Nat.min len len) := show _ = _ by simp [hs.long]
    have K2 : Hid (∀ j v, (ss.map Value.string)[j]? = some v → w1.cell? ((⟨ba, offa, none⟩ : Addr).add j) = some v) := (hs.below hbel1).src
    have K3 : Hid (0 + (ss.map Value.string).length ≤ (List.replicate len (Value.string ByteArray.empty)).length) := show _ ≤ _ by simp [hs.long]
    have K4 : Hid (∀ v ∈ ss.map Value.string, v.oneCell' = true) := show ∀ v ∈ ss.map Value.string, _ by simp [Value.oneCell']
    have K5 : Hid (splice (List.replicate len (Value.string ByteArray.empty)) 0 (ss.map Value.string) = ss.map Value.string) := splice_whole _ _ (by simp [hs.long])
    go_wp2_with (first | (refine wpList_copy_splice rfl (.tmp 23) (.tmp 24) 22 22 rfl 9 Try.underlying22 Try.size9 _ _ _ _ _ _ rfl rfl w.heap.size 0 (List.replicate len (Value.string ByteArray.empty)) 9 HR1.out (ss.map Value.string) K1.out (fun _ => ⟨rfl, _, rfl, K2.out⟩) K3.out K4.out w.heap.size w hbel1 (Nat.le_refl _) ?_) | fail)
    intro w2 HG2 hB2
    have hs2 : Strs w2 (some ⟨w.heap.size, 0, none⟩) len ss := by
      have e := HG2.out
      rw [K5.out] at e
      exact strs_of_row hs.long e
    have HLN : Hid _ := hs.long
    clear hbel1 HR1 K1 K2 K3 K4 K5 HG2 hs
    go_wp2_with fail
    go_loopw [4] (fun i wr => ∃ k : Nat, k ≤ len ∧ i = .int .i64 k ∧ wr = w2 ∧ Hid (∀ j, j < k → (44 : UInt8) ∉ (ss.getD j ByteArray.empty).data.toList)) (fun i _ => len - (intOf i).toNat)
    case atStart => exact ⟨0, Nat.zero_le _, rfl, rfl, fun j h => absurd h (by omega)⟩
    case round =>
      obtain ⟨k, hk, rfl, rfl, hno⟩ := hrel
      by_cases hkn : k < len
      · obtain ⟨bx, ox, hx, hltx, hcx⟩ := hs2.plain (by omega)
        simp only [Option.some.injEq, Addr.mk.injEq, and_true] at hx
        obtain ⟨rfl, rfl⟩ := hx
        have c1 : wr.cell? ⟨w.heap.size, k, none⟩ = some (.string (ss.getD k ByteArray.empty)) := by simpa using hcx k hkn
        clear hcx hltx
        have hsz := size_le_lens ss k
        obtain ⟨s, hsx⟩ : ∃ s, s = ss.getD k ByteArray.empty := ⟨_, rfl⟩
        have HSX : Hid _ := hsx
        rw [← hsx] at c1 hsz
        clear hsx
        go_wp2_with fail
        refine (hasComma_any s _ (by omega)).mono ?_
        rintro e w3 ⟨rfl, b, rfl, hcl⟩
        cases b with
        | true =>
          go_wp2
          go_ret
          exact ⟨rfl, hB2⟩
        | false =>
          have HCL : Hid _ := hcl rfl
          clear hcl
          go_wp2
          go_roundw
          case rel =>
            refine ⟨k + 1, by omega, by go_num, by first | rfl | trivial, fun j hj => ?_⟩
            by_cases e : j = k
            · subst e
              rw [← HSX.out]
              exact HCL.out
            · exact hno.out j (by omega)
          case measure => simp [intOf]; omega
      · obtain rfl : k = len := by omega
        go_wp2_with fail
        refine (zzcell_some _ _ _ _ _ hs2 (by omega)).mono ?_
        rintro e w4 ⟨rfl, hb4⟩
        have hs4 := hs2.below hb4
        have hBel4 : Below w.heap.size w w4 := hB2.trans (hb4.mono hB2.size)
        have z1 := cellOf_size ss
        rw [HLN.out] at z1
        go_wp2_with fail
        refine (splitComma_any _ _ (by omega)).mono ?_
        rintro e w5 ⟨⟨g, cp, R, rfl, hR, hsR, hRn⟩, hb5⟩
        obtain rfl : R = ss := pieces_back ss R (by rw [HLN.out]; omega) (fun j hj => hno.out j (by rw [← HLN.out]; exact hj)) hR
        have hs5 := hs4.below hb5
        have hBel5 : Below w.heap.size w w5 := hBel4.trans (hb5.mono hBel4.size)
        have hsR' := hsR
        rw [HLN.out] at hsR ⊢
        go_wp2_with fail
        refine (sameList_yes _ _ _ _ _ _ _ hsR hs5 (by omega)).mono ?_
        rintro e w6 ⟨rfl, hb6⟩
        have hBel6 : Below w.heap.size w w6 := hBel5.trans (hb6.mono hBel5.size)
        go_wp2
        go_ret
        exact ⟨rfl, hBel6⟩

end Go.Proofs.Qxb6001473a
