import Derived.Test.Qxb6001473aCell
namespace Go.Proofs.Qxb6001473a
open Go.ChangeShapes Go.WideShapes Go.ChangeAt Go.RowKit
set_option linter.unusedVariables false

theorem cellOf_many (y z : ByteArray) (r : List ByteArray) : ((cellOf (y :: z :: r)).toList == [110, 111, 110, 101]) = false := by
  rw [beq_eq_false_iff_ne]
  intro h
  have h44 : (44 : UInt8) ∈ (cellOf (y :: z :: r)).toList := by
    have e : (cellOf (y :: z :: r)).toList = Lib.join ((y :: z :: r).map (·.data.toList)) [44] := by
      rw [Lib.toList_data]
      simp [cellOf, commaStr]
    rw [e, List.map_cons, Lib.join_cons]
    simp [Lib.joinTail]
  rw [h] at h44
  simp at h44

set_option maxHeartbeats 400000 in
theorem none_walk (a : Option Addr) (len cap : Nat) (ss : List ByteArray) (w : World) (hs : Strs w a len ss) (hl : len ≤ cap) (hc : cap ≤ maxLen) :
    Calls Try.prog 3 #[.slice a len cap] w fun e w' => e = .returned (.bool true) ∧ Below w.heap.size w w' := by
  have hq := fun wx => run_neq_slice_nil_any (P := Try.prog) wx 22 9 a len cap 0 0 Try.underlying22
  obtain ⟨i0, hi, hz0, hz1, hz2⟩ := info_parts Try.info9
  go_enter Try.func3, Try.ntmps3
  go_wp2_with fail
  refine (zzBytes1 a len cap ss w hs hl hc).mono ?_
  unfold maxLen at hc
  rintro e w' ⟨rfl, b, rfl, hb0⟩
  cases b with
  | false =>
    go_wp2
    go_ret
    exact ⟨rfl, Below.refl _ _⟩
  | true =>
    have hb := hb0 rfl
    clear hb0
    by_cases h16 : 65536 < len
    · go_wp2
      go_ret
      exact ⟨rfl, Below.refl _ _⟩
    go_wp2_with fail
    refine (bytesOf_any a len cap ss w' hs (by omega) hb).mono ?_
    rintro e w ⟨rfl, rfl⟩
    by_cases h20 : 1048576 < 8 * len + lens ss
    · go_wp2
      go_ret
      exact ⟨rfl, Below.refl _ _⟩
    cases a with
    | none =>
      obtain rfl : len = 0 := by
        rcases Nat.eq_zero_or_pos len with h | h
        · exact h
        · obtain ⟨b, off, h', _⟩ := hs.at' 0 h
          cases h'
      go_wp2_with fail
      refine (zzcell_nil cap w).mono ?_
      rintro e w' ⟨rfl, hb2⟩
      have hE : (noneStr.toList == [110, 111, 110, 101]) = true := by rw [Lib.toList_data]; decide
      go_wp2
      go_ret
      exact ⟨rfl, hb2⟩
    | some x =>
      go_wp2_with (first | (at_make; refine wpList_make_full _ rfl (.tmp 19) (.tmp 19) 22 rfl w.heap.size 9 i0 (.string ByteArray.empty) 1 Try.underlying22 hi hz0 hz1 .i64 .i64 _ _ len rfl rfl rfl rfl ?b2 ?b3 ?b4 ?_) | fail)
      case b2 => rw [hz2]; omega
      case b3 => unfold maxLen; omega
      case b4 => exact Nat.le_refl _
      intro w1 hown1 hgrow1
      have hbel1 : Below w.heap.size w w1 := (Below.refl _ _).grown hgrow1 (Nat.le_refl _) (by simp)
      have hrow1 : w1.heap[w.heap.size]? = some (.cells (List.replicate len (Value.string ByteArray.empty)).toArray 9 (0, 0)) := by
        refine row_of_own (base := w.heap.size) (n := len) ?_
        rw [← toList_madeCells_one]; simpa using hown1
      have HR1 : Hid _ := hrow1
      clear hown1 hgrow1 hrow1
      have K1 : Hid ((ss.map Value.string).length = Nat.min len len) := show _ = _ by simp [hs.long]
      have K2 : Hid (∀ j v, (ss.map Value.string)[j]? = some v → w1.cell? (x.add j) = some v) := (hs.below hbel1).src
      have K3 : Hid (0 + (ss.map Value.string).length ≤ (List.replicate len (Value.string ByteArray.empty)).length) := show _ ≤ _ by simp [hs.long]
      have K4 : Hid (∀ v ∈ ss.map Value.string, v.oneCell' = true) := show ∀ v ∈ ss.map Value.string, _ by simp [Value.oneCell']
      have K5 : Hid (splice (List.replicate len (Value.string ByteArray.empty)) 0 (ss.map Value.string) = ss.map Value.string) := splice_whole _ _ (by simp [hs.long])
      go_wp2_with (first | (refine wpList_copy_splice rfl (.tmp 21) (.tmp 22) 22 22 rfl 9 Try.underlying22 Try.size9 _ _ _ _ _ _ rfl rfl w.heap.size 0 (List.replicate len (Value.string ByteArray.empty)) 9 HR1.out (ss.map Value.string) K1.out (fun _ => ⟨rfl, x, rfl, K2.out⟩) K3.out K4.out w.heap.size w hbel1 (Nat.le_refl _) ?_) | fail)
      intro w2 HG2 hB2
      go_wp2_with fail
      have hs2 : Strs w2 (some ⟨w.heap.size, 0, none⟩) len ss := by
        have e := HG2.out
        rw [K5.out] at e
        exact strs_of_row hs.long e
      refine (zzcell_some _ _ _ _ _ hs2 (by omega)).mono ?_
      rintro e w3 ⟨rfl, hb3⟩
      have hs3 := hs2.below hb3
      have hbel3 : Below w.heap.size w w3 := hB2.trans (hb3.mono hB2.size)
      clear hbel1 HR1 K1 K2 K3 K4 K5 HG2 hB2 hs2
      have hln := hs.long
      match ss, hln with
      | [], hln =>
        obtain rfl : len = 0 := by simpa using hln.symm
        have hE : ((cellOf []).toList == [110, 111, 110, 101]) = true := by rw [Lib.toList_data]; decide
        go_wp2
        go_ret
        exact ⟨rfl, hbel3⟩
      | [y], hln =>
        obtain rfl : len = 1 := by simpa using hln.symm
        have hE : (cellOf [y]).toList = y.toList := rfl
        obtain ⟨b, off, hx, hlt, hcell⟩ := hs3.plain (by omega)
        have hc0 : w3.cell? ⟨w.heap.size, 0, none⟩ = some (.string y) := by
          simp only [Option.some.injEq, Addr.mk.injEq, and_true] at hx
          obtain ⟨rfl, rfl⟩ := hx
          simpa using hcell 0 (by omega)
        clear hcell hlt hx
        go_wp2
        go_ret
        exact ⟨rfl, hbel3⟩
      | y :: z :: r, hln =>
        have hE : ((cellOf (y :: z :: r)).toList == [110, 111, 110, 101]) = false := cellOf_many y z r
        have e0 : ((len : Int) == 0) = false := by simp at hln; simp; omega
        have e1 : ((len : Int) == 1) = false := by simp at hln; simp; omega
        go_wp2
        go_ret
        exact ⟨rfl, hbel3⟩

end Go.Proofs.Qxb6001473a
