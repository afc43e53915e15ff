import Derived.Test.Qxb6001473aCell
namespace Go.Proofs.Qxb6001473a
open Go.ChangeShapes Go.WideShapes Go.ChangeAt Go.RowKit
set_option linter.unusedVariables false

set_option maxHeartbeats 800000 in
theorem zzBytes2 (a b : Option Addr) (la ca lb cb : Nat) (ss ts : List ByteArray) (w : World) (hs : Strs w a la ss) (ht : Strs w b lb ts) (hla : la ≤ ca) (hca : ca ≤ maxLen) (hlb : lb ≤ cb) (hcb : cb ≤ maxLen) :
    Calls Try.prog 13 #[.slice a la ca, .slice b lb cb] w fun e w' => w' = w ∧ Within e (la + lens ss + lb + lens ts) := by
  unfold maxLen at hca hcb
  by_cases h1 : 1048576 < la
  · go_enter Try.func13, Try.ntmps13
    go_wp2
    go_ret
    exact ⟨rfl, .no rfl⟩
  · have h1' : decide (1048576 < (la : Int)) = false := by simp; omega
    go_enter Try.func13, Try.ntmps13
    go_wp2
    go_loop [5, 6] (fun n i => ∃ k : Nat, k ≤ la ∧ i = .int .i64 k ∧ n = .int .i64 (la + lens (ss.take k) : Nat) ∧ la + lens (ss.take k) ≤ 1048576) (fun _ i => la - (intOf i).toNat)
    case atStart => exact ⟨0, Nat.zero_le _, rfl, rfl, by simp [lens]; omega⟩
    case round =>
      obtain ⟨k, hk, rfl, rfl, hb⟩ := hrel
      by_cases hlt : k < la
      · obtain ⟨b, off, rfl, hcell⟩ := hs.at' k hlt
        have HS : Hid _ := lens_take_succ ss k (by rw [hs.long]; exact hlt)
        go_wp2
        · go_ret
          exact ⟨rfl, .no rfl⟩
        · go_ret
          exact ⟨rfl, .no rfl⟩
        · have hle : (la : Int) + (lens (ss.take k) : Int) + ((ss[k]?.getD ByteArray.empty).size : Int) ≤ 1048576 := by assumption
          have HS' := HS.out
          rw [List.getD_eq_getElem?_getD] at HS'
          go_round
          case rel => exact ⟨k + 1, by omega, by go_num, by rw [HS']; go_num, by rw [HS']; omega⟩
          case measure => simp [intOf]; omega
      · have hA : lens (ss.take k) = lens ss := by rw [List.take_of_length_le (by rw [hs.long]; omega)]
        rw [hA] at hb ⊢
        clear hA
        by_cases h2 : 1048576 < lb
        · go_wp2
          go_ret
          exact ⟨rfl, .no rfl⟩
        have h2' : decide (1048576 < (lb : Int)) = false := by simp; omega
        by_cases h3 : 1048576 < la + lens ss + lb
        · go_wp2
          go_ret
          exact ⟨rfl, .no rfl⟩
        have h3' : decide (1048576 < (la : Int) + (lens ss : Int) + (lb : Int)) = false := by simp; omega
        go_wp2
        go_loop [5, 7] (fun n i => ∃ k : Nat, k ≤ lb ∧ i = .int .i64 k ∧ n = .int .i64 (la + lens ss + lb + lens (ts.take k) : Nat) ∧ la + lens ss + lb + lens (ts.take k) ≤ 1048576) (fun _ i => lb - (intOf i).toNat)
        case atStart => exact ⟨0, Nat.zero_le _, rfl, rfl, by have : lens (ts.take 0) = 0 := by { simp [lens] }; omega⟩
        case round =>
          obtain ⟨k, hk, rfl, rfl, hb⟩ := hrel
          by_cases hlt : k < lb
          · obtain ⟨b, off, rfl, hcell⟩ := ht.at' k hlt
            have HS : Hid _ := lens_take_succ ts k (by rw [ht.long]; exact hlt)
            go_wp2
            · go_ret
              exact ⟨rfl, .no rfl⟩
            · go_ret
              exact ⟨rfl, .no rfl⟩
            · have hle : (la : Int) + (lens ss : Int) + (lb : Int) + (lens (ts.take k) : Int) + ((ts[k]?.getD ByteArray.empty).size : Int) ≤ 1048576 := by assumption
              have HS' := HS.out
              rw [List.getD_eq_getElem?_getD] at HS'
              go_round
              case rel => exact ⟨k + 1, by omega, by go_num, by rw [HS']; go_num, by rw [HS']; omega⟩
              case measure => simp [intOf]; omega
          · have hB : lens (ts.take k) = lens ts := by rw [List.take_of_length_le (by rw [ht.long]; omega)]
            rw [hB] at hb
            clear hB
            go_wp2
            go_ret
            exact ⟨rfl, .yes rfl hb⟩

theorem map_take_snoc (ss : List ByteArray) (k : Nat) (h : k < ss.length) : (ss.take k).map Value.string ++ [Value.string (ss.getD k ByteArray.empty)] = (ss.take (k + 1)).map Value.string := by
  rw [List.take_succ_eq_append_getElem h, List.map_append]
  simp [h]

theorem lens_append (ss ts : List ByteArray) : lens (ss ++ ts) = lens ss + lens ts := by simp [lens]
theorem cellOf_size (ss : List ByteArray) : (cellOf ss).size ≤ 4 + ss.length + lens ss := by
  match ss with
  | [] => exact Nat.le_refl 4
  | [x] => show x.size ≤ _; simp [lens]
  | x :: y :: r =>
    have h := join_length (x :: y :: r)
    show (Array.size _) ≤ _
    simp only [List.size_toArray]
    omega

theorem cellOf_data (ss : List ByteArray) (h : 0 < ss.length) : (cellOf ss).data.toList = Lib.join (ss.map (·.data.toList)) [44] := by
  match ss, h with
  | [x], _ => rw [List.map_cons, List.map_nil, Lib.join_one]; rfl
  | x :: y :: r, _ => simp [cellOf, commaStr]
theorem join_both (A B : List (List UInt8)) (s : List UInt8) (ha : 0 < A.length) (hb : 0 < B.length) : Lib.join (A ++ B) s = Lib.join A s ++ s ++ Lib.join B s := by
  match A, B, ha, hb with
  | x :: r, y :: t, _, _ =>
    rw [List.cons_append, Lib.join_cons, Lib.join_cons, Lib.join_cons]
    simp [Lib.joinTail]
theorem cellOf_append (ss ts : List ByteArray) (ha : 0 < ss.length) (hb : 0 < ts.length) : ((cellOf (ss ++ ts)).toList == (cellOf ss ++ ⟨#[44]⟩ ++ cellOf ts).toList) = true := by
  rw [beq_iff_eq, Lib.toList_data, Lib.toList_data, cellOf_data _ (by simp; omega), List.map_append, join_both _ _ _ (by simpa using ha) (by simpa using hb), ← cellOf_data _ ha, ← cellOf_data _ hb]
  simp [ByteArray.data_append]

set_option maxHeartbeats 1600000 in
theorem concat_walk (a b : Option Addr) (la ca lb cb : Nat) (ss ts : List ByteArray) (w : World) (hs : Strs w a la ss) (ht : Strs w b lb ts) (hla : la ≤ ca) (hca : ca ≤ maxLen) (hlb : lb ≤ cb) (hcb : cb ≤ maxLen) :
    Calls Try.prog 5 #[.slice a la ca, .slice b lb cb] w fun e w' => e = .returned (.bool true) ∧ Below w.heap.size w w' := by
  have hqa := fun wx => run_neq_slice_nil_any (P := Try.prog) wx 22 9 a la ca 0 0 Try.underlying22
  have hqb := fun wx => run_neq_slice_nil_any (P := Try.prog) wx 22 9 b lb cb 0 0 Try.underlying22
  obtain ⟨i0, hi, hz0, hz1, hz2⟩ := info_parts Try.info9
  go_enter Try.func5, Try.ntmps5
  go_wp2_with fail
  refine (zzBytes2 a b la ca lb cb ss ts w hs ht hla hca hlb hcb).mono ?_
  unfold maxLen at hca hcb
  rintro e w' ⟨rfl, b', rfl, hb0⟩
  cases b' with
  | false =>
    go_wp2
    go_ret
    exact ⟨rfl, Below.refl _ _⟩
  | true =>
    have hb := hb0 rfl
    clear hb0
    by_cases h16 : 65536 < la
    · go_wp2
      go_ret
      exact ⟨rfl, Below.refl _ _⟩
    by_cases h17 : 65536 < lb
    · go_wp2
      go_ret
      exact ⟨rfl, Below.refl _ _⟩
    have d16 : decide (65536 < (la : Int)) = false := by simp; omega
    have d17 : decide (65536 < (lb : Int)) = false := by simp; omega
    go_wp2_with fail
    refine (bytesOf_any a la ca ss w' hs (by omega) (by omega)).mono ?_
    rintro e w ⟨rfl, rfl⟩
    go_wp2_with fail
    refine (bytesOf_any b lb cb ts w ht (by omega) (by omega)).mono ?_
    rintro e w' ⟨rfl, rfl⟩
    by_cases h20 : 1048576 < 8 * la + lens ss + (8 * lb + lens ts)
    · go_wp2
      go_ret
      exact ⟨rfl, Below.refl _ _⟩
    have d20 : decide (1048576 < 8 * (la : Int) + (lens ss : Int) + (8 * (lb : Int) + (lens ts : Int))) = false := by simp; omega
    by_cases ha0 : la = 0
    · go_wp2
      go_ret
      exact ⟨rfl, Below.refl _ _⟩
    by_cases hb0 : lb = 0
    · go_wp2
      go_ret
      exact ⟨rfl, Below.refl _ _⟩
    have da : ((la : Int) == 0) = false := by simp; omega
    have db : ((lb : Int) == 0) = false := by simp; omega
    obtain ⟨ba, offa, rfl, hlta, hcella⟩ := hs.plain (by omega)
    obtain ⟨bb, offb, rfl, hltb, hcellb⟩ := ht.plain (by omega)
    clear hcella hcellb hlta hltb
    go_wp2_with (first | (at_make; refine wpList_make_full _ rfl (.tmp 39) (.tmp 39) 22 rfl w'.heap.size 9 i0 (.string ByteArray.empty) 1 Try.underlying22 hi hz0 hz1 .i64 .i64 _ _ la rfl rfl rfl rfl ?b2 ?b3 ?b4 ?_) | fail)
    case b2 => rw [hz2]; omega
    case b3 => unfold maxLen; omega
    case b4 => exact Nat.le_refl _
    intro w1 hown1 hgrow1
    have hbel1 : Below w'.heap.size w' w1 := (Below.refl _ _).grown hgrow1 (Nat.le_refl _) (by simp)
    have HR1 : Hid (w1.heap[w'.heap.size]? = some (.cells (List.replicate la (Value.string ByteArray.empty)).toArray 9 (0, 0))) := by
      refine row_of_own (base := w'.heap.size) (n := la) ?_
      rw [← toList_madeCells_one]; simpa using hown1
    clear hown1 hgrow1
    have K1 : Hid ((ss.map Value.string).length = Nat.min la la) := show _ = _ by simp [hs.long]
    have K2 : Hid (∀ j v, (ss.map Value.string)[j]? = some v → w1.cell? ((⟨ba, offa, none⟩ : Addr).add j) = some v) := (hs.below hbel1).src
    have K3 : Hid (0 + (ss.map Value.string).length ≤ (List.replicate la (Value.string ByteArray.empty)).length) := show _ ≤ _ by simp [hs.long]
    have K4 : Hid (∀ v ∈ ss.map Value.string, v.oneCell' = true) := show ∀ v ∈ ss.map Value.string, _ by simp [Value.oneCell']
    have K5 : Hid (splice (List.replicate la (Value.string ByteArray.empty)) 0 (ss.map Value.string) = ss.map Value.string) := splice_whole _ _ (by simp [hs.long])
    go_wp2_with (first | (refine wpList_copy_splice rfl (.tmp 41) (.tmp 42) 22 22 rfl 9 Try.underlying22 Try.size9 _ _ _ _ _ _ rfl rfl w'.heap.size 0 (List.replicate la (Value.string ByteArray.empty)) 9 HR1.out (ss.map Value.string) K1.out (fun _ => ⟨rfl, _, rfl, K2.out⟩) K3.out K4.out w'.heap.size w' hbel1 (Nat.le_refl _) ?_) | fail)
    intro w2 HG2 hB2
    have hrow2 : Hid (w2.heap[w'.heap.size]? = some (.cells (ss.map Value.string).toArray 9 (0, 0))) := by
      have e := HG2.out
      rw [K5.out] at e
      exact e
    clear hbel1 HR1 K1 K2 K3 K4 K5 HG2
    have hsA : Strs w2 (some ⟨w'.heap.size, 0, none⟩) la ss := strs_of_row hs.long hrow2.out
    have ht2 := ht.below hB2
    have hln := hs.long
    have HLA : Hid _ := hln
    have hln2 := ht.long
    have HLB : Hid _ := hln2
    clear hln hln2 hrow2 hs ht
    -- the second copy
    go_wp2_with (first | (at_make; refine wpList_make_full _ rfl (.tmp 48) (.tmp 48) 22 rfl w2.heap.size 9 i0 (.string ByteArray.empty) 1 Try.underlying22 hi hz0 hz1 .i64 .i64 _ _ lb rfl rfl rfl rfl ?b2 ?b3 ?b4 ?_) | fail)
    case b2 => rw [hz2]; omega
    case b3 => unfold maxLen; omega
    case b4 => exact Nat.le_refl _
    intro w3 hown3 hgrow3
    have hbel3 : Below w2.heap.size w2 w3 := (Below.refl _ _).grown hgrow3 (Nat.le_refl _) (by simp)
    have HR3 : Hid (w3.heap[w2.heap.size]? = some (.cells (List.replicate lb (Value.string ByteArray.empty)).toArray 9 (0, 0))) := by
      refine row_of_own (base := w2.heap.size) (n := lb) ?_
      rw [← toList_madeCells_one]; simpa using hown3
    clear hown3 hgrow3
    have K1 : Hid ((ts.map Value.string).length = Nat.min lb lb) := show _ = _ by simp [ht2.long]
    have K2 : Hid (∀ j v, (ts.map Value.string)[j]? = some v → w3.cell? ((⟨bb, offb, none⟩ : Addr).add j) = some v) := (ht2.below hbel3).src
    have K3 : Hid (0 + (ts.map Value.string).length ≤ (List.replicate lb (Value.string ByteArray.empty)).length) := show _ ≤ _ by simp [ht2.long]
    have K4 : Hid (∀ v ∈ ts.map Value.string, v.oneCell' = true) := show ∀ v ∈ ts.map Value.string, _ by simp [Value.oneCell']
    have K5 : Hid (splice (List.replicate lb (Value.string ByteArray.empty)) 0 (ts.map Value.string) = ts.map Value.string) := splice_whole _ _ (by simp [ht2.long])
    go_wp2_with (first | (refine wpList_copy_splice rfl (.tmp 50) (.tmp 51) 22 22 rfl 9 Try.underlying22 Try.size9 _ _ _ _ _ _ rfl rfl w2.heap.size 0 (List.replicate lb (Value.string ByteArray.empty)) 9 HR3.out (ts.map Value.string) K1.out (fun _ => ⟨rfl, _, rfl, K2.out⟩) K3.out K4.out w2.heap.size w2 hbel3 (Nat.le_refl _) ?_) | fail)
    intro w4 HG4 hB4
    have hsB : Strs w4 (some ⟨w2.heap.size, 0, none⟩) lb ts := by
      have e := HG4.out
      rw [K5.out] at e
      exact strs_of_row ht2.long e
    have hsA4 := hsA.below hB4
    have hBel4 : Below w'.heap.size w' w4 := hB2.trans (hB4.mono hB2.size)
    clear hbel3 HR3 K1 K2 K3 K4 K5 HG4 hsA ht2 hB2 hB4
    -- the list of both
    go_wp2_with (first | (at_make; refine wpList_make_own _ rfl (.const (.int .i64 0)) (.tmp 58) 22 rfl w4.heap.size 9 i0 (.string ByteArray.empty) 1 Try.underlying22 hi hz0 hz1 .i64 .i64 _ (la + lb) rfl rfl ?b1 ?b2 ?b3 ?b4 ?_) | fail)
    case b1 => simp
    case b2 => rw [hz2]; omega
    case b3 => unfold maxLen; omega
    case b4 => exact Nat.le_refl _
    intro w5 hown5 hgrow5
    have hbel5 : Below w4.heap.size w4 w5 := (Below.refl _ _).grown hgrow5 (Nat.le_refl _) (by simp)
    clear hgrow5
    go_wp2_with fail
    go_loopw [7, 8] (fun v i wr => ∃ k : Nat, k ≤ la ∧ i = .int .i64 k ∧ v = .slice (some ⟨w4.heap.size, 0, none⟩) k (la + lb) ∧ wr.ownsRow w4.heap.size 9 1 (.slice (some ⟨w4.heap.size, 0, none⟩) k (la + lb)) k ((ss.take k).map Value.string) ∧ Below w4.heap.size w4 wr) (fun _ i _ => la - (intOf i).toNat)
    case atStart => exact ⟨0, Nat.zero_le _, rfl, rfl, hown5, hbel5⟩
    case round =>
      obtain ⟨k, hk, rfl, rfl, hown, hbel⟩ := hrel
      by_cases hkn : k < la
      · obtain ⟨bx, ox, hx, hltx, hcx⟩ := (hsA4.below hbel).plain (by omega)
        simp only [Option.some.injEq, Addr.mk.injEq, and_true] at hx
        obtain ⟨rfl, rfl⟩ := hx
        have c1 : wr.cell? ⟨w'.heap.size, k, none⟩ = some (.string (ss.getD k ByteArray.empty)) := by simpa using hcx k hkn
        clear hcx hltx
        have HT : Hid ((ss.take k).map Value.string ++ [Value.string (ss.getD k ByteArray.empty)] = (ss.take (k + 1)).map Value.string) := map_take_snoc ss k (by rw [HLA.out]; exact hkn)
        obtain ⟨s, hsx⟩ : ∃ s, s = ss.getD k ByteArray.empty := ⟨_, rfl⟩
        rw [← hsx] at c1 HT
        clear hsx
        obtain ⟨xs, hxs⟩ : ∃ xs, xs = (ss.take k).map Value.string := ⟨_, rfl⟩
        rw [← hxs] at hown HT
        clear hxs
        go_wp2_with (first | (at_builtin; refine wpList_append_fits _ rfl (.tmp 66) (.tmp 71) 22 rfl w4.heap.size 9 i0 1 Try.underlying22 hi hz1 w4.heap.size k (la + lb) _ rfl (hown.alloc _) ⟨wr.heap.size, 0, none⟩ 1 1 [.string s] rfl rfl (cell_one_new _ _ _) (by intro u hu; simp at hu; subst hu; rfl) (by omega) ?_) | fail)
        intro w6 hown6 hgrow6
        have hbel6 : Below w4.heap.size w4 w6 := (hbel.alloc hbel.size _).grown hgrow6 (by have := hbel.size; simp; omega) (by simp)
        have R : Hid _ := hown6
        clear hown6 hgrow6 hown hbel c1
        go_wp2
        go_roundw
        case rel =>
          have R' := R.out
          rw [HT.out] at R'
          exact ⟨k + 1, by omega, by go_num, rfl, R', hbel6⟩
        case measure => simp [intOf]; omega
      · obtain rfl : k = la := by omega
        have hown' : wr.ownsRow w4.heap.size 9 1 (.slice (some ⟨w4.heap.size, 0, none⟩) k (k + lb)) k ((ss ++ ts.take 0).map Value.string) := by
          rw [List.take_of_length_le (by rw [HLA.out]; omega)] at hown
          simpa using hown
        clear hown hown5 hbel5
        go_wp2_with fail
        go_loopw [7, 9] (fun v i wr => ∃ j : Nat, j ≤ lb ∧ i = .int .i64 j ∧ v = .slice (some ⟨w4.heap.size, 0, none⟩) (k + j) (k + lb) ∧ wr.ownsRow w4.heap.size 9 1 (.slice (some ⟨w4.heap.size, 0, none⟩) (k + j) (k + lb)) (k + j) ((ss ++ ts.take j).map Value.string) ∧ Below w4.heap.size w4 wr) (fun _ i _ => lb - (intOf i).toNat)
        case atStart => exact ⟨0, Nat.zero_le _, rfl, rfl, hown', hbel⟩
        case round =>
          obtain ⟨j, hj, rfl, rfl, hown, hbel⟩ := hrel
          by_cases hkn : j < lb
          · obtain ⟨bx, ox, hx, hltx, hcx⟩ := (hsB.below hbel).plain (by omega)
            simp only [Option.some.injEq, Addr.mk.injEq, and_true] at hx
            obtain ⟨rfl, rfl⟩ := hx
            have c1 : wr.cell? ⟨w2.heap.size, j, none⟩ = some (.string (ts.getD j ByteArray.empty)) := by simpa using hcx j hkn
            clear hcx hltx
            have HT : Hid ((ss ++ ts.take j).map Value.string ++ [Value.string (ts.getD j ByteArray.empty)] = (ss ++ ts.take (j + 1)).map Value.string) := by
              have := map_take_snoc ts j (by rw [HLB.out]; exact hkn)
              show _ = _
              rw [List.map_append, List.append_assoc, this, ← List.map_append]
            obtain ⟨s, hsx⟩ : ∃ s, s = ts.getD j ByteArray.empty := ⟨_, rfl⟩
            rw [← hsx] at c1 HT
            clear hsx
            obtain ⟨xs, hxs⟩ : ∃ xs, xs = (ss ++ ts.take j).map Value.string := ⟨_, rfl⟩
            rw [← hxs] at hown HT
            clear hxs
            go_wp2_with (first | (at_builtin; refine wpList_append_fits _ rfl (.tmp 79) (.tmp 84) 22 rfl w4.heap.size 9 i0 1 Try.underlying22 hi hz1 w4.heap.size (k + j) (k + lb) _ rfl (hown.alloc _) ⟨wr.heap.size, 0, none⟩ 1 1 [.string s] rfl rfl (cell_one_new _ _ _) (by intro u hu; simp at hu; subst hu; rfl) (by omega) ?_) | fail)
            intro w6 hown6 hgrow6
            have hbel6 : Below w4.heap.size w4 w6 := (hbel.alloc hbel.size _).grown hgrow6 (by have := hbel.size; simp; omega) (by simp)
            have R : Hid _ := hown6
            clear hown6 hgrow6 hown hbel c1
            go_wp2
            go_roundw
            case rel =>
              have R' := R.out
              rw [HT.out] at R'
              exact ⟨j + 1, by omega, by go_num, rfl, R', hbel6⟩
            case measure => simp [intOf]; omega
          · obtain rfl : j = lb := by omega
            rw [List.take_of_length_le (by rw [HLB.out]; omega)] at hown
            have hAB := strs_of_own hown
            have hsA5 := hsA4.below hbel
            have hsB5 := hsB.below hbel
            have hBel5 : Below w'.heap.size w' wr := hBel4.trans (hbel.mono hBel4.size)
            clear hown hown' hsA4 hsB hbel hBel4
            go_wp2_with fail
            refine (zzcell_some _ _ _ _ _ hAB (by rw [lens_append]; omega)).mono ?_
            rintro e w7 ⟨rfl, hb7⟩
            have hsA7 := hsA5.below hb7
            have hsB7 := hsB5.below hb7
            have hBel7 : Below w'.heap.size w' w7 := hBel5.trans (hb7.mono hBel5.size)
            clear hAB hsA5 hsB5 hb7 hBel5
            go_wp2_with fail
            refine (zzcell_some _ _ _ _ _ hsA7 (by omega)).mono ?_
            rintro e w8 ⟨rfl, hb8⟩
            have hsB8 := hsB7.below hb8
            have hBel8 : Below w'.heap.size w' w8 := hBel7.trans (hb8.mono hBel7.size)
            clear hsA7 hsB7 hb8 hBel7
            have z1 := cellOf_size ss
            have z2 := cellOf_size ts
            have hsum := fun wx => run_string_add_sum (P := Try.prog) (w := wx) (cellOf ss) ⟨#[44]⟩ (by show _ + 1 ≤ _; rw [HLA.out] at z1; omega)
            go_wp2_with fail
            refine (zzcell_some _ _ _ _ _ hsB8 (by omega)).mono ?_
            rintro e w9 ⟨rfl, hb9⟩
            have hBel9 : Below w'.heap.size w' w9 := hBel8.trans (hb9.mono hBel8.size)
            clear hsB8 hb9 hBel8 hsum
            have hsum2 := fun wx => run_string_add_sum (P := Try.prog) (w := wx) (cellOf ss ++ ⟨#[44]⟩) (cellOf ts) (by rw [ByteArray.size_append]; show _ + 1 + _ ≤ _; rw [HLA.out] at z1; rw [HLB.out] at z2; omega)
            have hfin : ((cellOf (ss ++ ts)).toList == (cellOf ss ++ ⟨#[44]⟩ ++ cellOf ts).toList) = true :=
              cellOf_append ss ts (by rw [HLA.out]; omega) (by rw [HLB.out]; omega)
            go_wp2
            go_ret
            exact ⟨rfl, hBel9⟩

end Go.Proofs.Qxb6001473a
