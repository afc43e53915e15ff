import Derived.Test.Qxb6001473aBase
import Derived.Test.Qxb6001473aShelf
import Derived.WalkSpells
import Derived.WalkLawsBesides
import Derived.Lib.Join
import Derived.Laws.CopyOwn
namespace Go.Proofs.Qxb6001473a
open Go.ChangeShapes Go.WideShapes Go.ChangeAt Go.RowKit
set_option linter.unusedVariables false

theorem Try.info9 : (Try.prog.info? 9).map (fun i => (i.zero, i.size, i.bytes)) = some (some (.string ByteArray.empty), 1, 16) := by kernel_rfl
theorem Try.info30 : (Try.prog.info? 30).map (fun i => (i.zero, i.size, i.bytes)) = some (some (.string ByteArray.empty), 1, 16) := by kernel_rfl

/-- 'none' -/
def noneStr : ByteArray := ⟨#[110, 111, 110, 101]⟩
def commaStr : ByteArray := ⟨#[44]⟩
/-- The Cell of a list of scopes. -/
def cellOf : List ByteArray → ByteArray
  | [] => noneStr
  | [x] => x
  | ss => ⟨(Lib.join (ss.map (·.data.toList)) commaStr.data.toList).toArray⟩

/-- The first k strings are written, the rest is empty. -/
def fill (ss : List ByteArray) (k : Nat) : List Value := (ss.take k).map Value.string ++ List.replicate (ss.length - k) (.string ByteArray.empty)

theorem fill_zero (ss : List ByteArray) : fill ss 0 = List.replicate ss.length (.string ByteArray.empty) := by simp [fill]
theorem fill_all (ss : List ByteArray) : fill ss ss.length = ss.map Value.string := by simp [fill]
theorem fill_length (ss : List ByteArray) (k : Nat) (h : k ≤ ss.length) : (fill ss k).length = ss.length := by simp [fill]; omega
theorem fill_get (ss : List ByteArray) (k j : Nat) (h : k ≤ ss.length) : (fill ss k)[j]? = if j < k then (ss[j]?).map Value.string else if j < ss.length then some (.string ByteArray.empty) else none := by
  unfold fill
  by_cases h1 : j < k
  · rw [if_pos h1, List.getElem?_append_left (by simp; omega), List.getElem?_map, List.getElem?_take, if_pos h1]
  · rw [if_neg h1, List.getElem?_append_right (by simp; omega), List.getElem?_replicate]
    simp only [List.length_map, List.length_take, Nat.min_eq_left h]
    by_cases h2 : j < ss.length
    · rw [if_pos h2, if_pos (by omega)]
    · rw [if_neg h2, if_neg (by omega)]
theorem fill_set (ss : List ByteArray) (k : Nat) (h : k < ss.length) : (fill ss k).set k (.string (ss.getD k ByteArray.empty)) = fill ss (k + 1) := by
  apply List.ext_getElem?
  intro j
  rw [List.getElem?_set, fill_length ss k (by omega), fill_get ss k j (by omega), fill_get ss (k + 1) j h]
  by_cases hj : k = j
  · subst hj
    rw [if_pos rfl, if_pos h, if_pos (by omega)]
    simp [h]
  · rw [if_neg hj]
    by_cases h1 : j < k
    · rw [if_pos h1, if_pos (by omega)]
    · rw [if_neg h1, if_neg (show ¬ j < k + 1 by omega)]
theorem fill_at (ss : List ByteArray) (k : Nat) (h : k < ss.length) : (fill ss k)[k]? = some (.string ByteArray.empty) := by
  rw [fill_get ss k k (by omega), if_neg (by omega), if_pos h]

theorem strs_of_own {w : World} {base e g n : Nat} {ss : List ByteArray} (h : w.ownsRow base e 1 (.slice (some ⟨g, 0, none⟩) n n) n (ss.map Value.string)) : Strs w (some ⟨g, 0, none⟩) n ss := by
  have hl : ss.length = n := by simpa using h.1
  refine ⟨hl, fun i hi => ⟨g, 0, rfl, ?_⟩⟩
  rw [Nat.zero_add, h.cellAt i (by omega)]
  simp [hl, hi]

theorem join_length (ss : List ByteArray) : (Lib.join (ss.map (·.data.toList)) commaStr.data.toList).length ≤ ss.length + lens ss := by
  cases ss with
  | nil => simp [Lib.join_nil]
  | cons x r =>
    rw [List.map_cons, Lib.join_cons]
    have h : ∀ r : List ByteArray, (Lib.joinTail commaStr.data.toList (r.map (·.data.toList))).length ≤ r.length + lens r := by
      intro r
      induction r with
      | nil => simp [Lib.joinTail]
      | cons y r ih =>
        have e : Lib.joinTail commaStr.data.toList ((y :: r).map (·.data.toList)) = commaStr.data.toList ++ y.data.toList ++ Lib.joinTail commaStr.data.toList (r.map (·.data.toList)) := by simp [Lib.joinTail]
        rw [e, List.length_append, List.length_append]
        have e2 : commaStr.data.toList.length = 1 := rfl
        have e3 : y.data.toList.length = y.size := rfl
        have e4 : lens (y :: r) = y.size + lens r := by simp [lens]
        rw [e2, e3, e4, List.length_cons]
        omega
    have h' := h r
    have e3 : x.data.toList.length = x.size := rfl
    have e4 : lens (x :: r) = x.size + lens r := by simp [lens]
    rw [List.length_append, e3, e4, List.length_cons]
    omega

theorem join_any (g n cap : Nat) (ss : List ByteArray) (w : World) (hs : Strs w (some ⟨g, 0, none⟩) n ss) (h2 : 2 ≤ n) (hl : n ≤ cap) (hb : n + lens ss ≤ 4194304) :
    Calls Try.prog 15 #[.slice (some ⟨g, 0, none⟩) n cap, .string commaStr] w fun e w' => e = .returned (.string (cellOf ss)) ∧ Below w.heap.size w w' := by
  obtain ⟨b, off, hx, hlt, hcell⟩ := hs.plain (by omega)
  simp only [Option.some.injEq, Addr.mk.injEq, and_true] at hx
  obtain ⟨rfl, rfl⟩ := hx
  have hln := hs.long
  subst hln
  have e : cellOf ss = ⟨(Lib.join (ss.map (·.data.toList)) commaStr.data.toList).toArray⟩ := by
    match ss, h2 with
    | x :: y :: r, _ => rfl
  rw [e]
  refine Try.strings_Join g 0 cap ss commaStr w (fun j x hj => ?_) hlt (by omega) hl (by have := join_length ss; omega)
  have hj' := (List.getElem?_eq_some_iff.1 hj).1
  rw [hcell j hj', List.getD_eq_getElem?_getD, hj]
  rfl

set_option maxHeartbeats 400000 in
theorem cell_many (a : Option Addr) (n cap : Nat) (ss : List ByteArray) (w : World) (hs : Strs w a n ss) (h2 : 2 ≤ n) (hb : n + lens ss ≤ 4194304) :
    Calls Try.prog 14 #[.slice a n cap] w fun e w' => e = .returned (.string (cellOf ss)) ∧ Below w.heap.size w w' := by
  obtain ⟨b, off, rfl, hlt, hcell⟩ := hs.plain (by omega)
  obtain ⟨i0, hi, hz0, hz1, hz2⟩ := info_parts Try.info9
  have e0 : ((n : Int) == 0) = false := by simp; omega
  have e1 : ((n : Int) == 1) = false := by simp; omega
  have hln := hs.long
  have HLN : Hid _ := hln
  clear hln
  go_enter Try.func14, Try.ntmps14
  go_wp2_with (first | (at_make; refine wpList_make_full _ rfl (.tmp 16) (.tmp 16) 22 rfl w.heap.size 9 i0 (.string ByteArray.empty) 1 Try.underlying22 hi hz0 hz1 .i64 .i64 _ _ n rfl rfl rfl rfl ?b2 ?b3 ?b4 ?_) | fail)
  case b2 => rw [hz2]; omega
  case b3 => unfold maxLen; omega
  case b4 => exact Nat.le_refl _
  intro w1 hown1 hgrow1
  have hbel1 : Below w.heap.size w w1 := (Below.refl _ _).grown hgrow1 (Nat.le_refl _) (by simp)
  have hown2 : w1.ownsRow w.heap.size 9 1 (.slice (some ⟨w.heap.size, 0, none⟩) n n) n (fill ss 0) := by
    rw [fill_zero, HLN.out, ← toList_madeCells_one]; simpa using hown1
  clear hown1 hgrow1
  go_wp2_with fail
  go_loopw [20] (fun i wr => ∃ k : Nat, k ≤ n ∧ i = .int .i64 k ∧ wr.ownsRow w.heap.size 9 1 (.slice (some ⟨w.heap.size, 0, none⟩) n n) n (fill ss k) ∧ Below w.heap.size w wr) (fun i _ => n - (intOf i).toNat)
  case atStart => exact ⟨0, Nat.zero_le _, rfl, hown2, hbel1⟩
  case round =>
    obtain ⟨k, hk, rfl, hown, hbel⟩ := hrel
    by_cases hkn : k < n
    · have c1 : wr.cell? ⟨b, off + k, none⟩ = some (.string (ss.getD k ByteArray.empty)) := (hbel.cell hlt).trans (hcell k hkn)
      have c2 : wr.cell? ⟨w.heap.size, k, none⟩ = some (.string ByteArray.empty) := by rw [hown.cellAt k (by omega), fill_at ss k (by rw [HLN.out]; exact hkn)]
      have c3 : wr.frozen? ⟨w.heap.size, k, none⟩ = false := hown.frozenAt k
      have R1 : Hid _ := (hown.stored k (.string (ss.getD k ByteArray.empty))).1
      have R2 : Hid _ := hbel.setCell (p := ⟨w.heap.size, k, none⟩) (Nat.le_refl _) (.string (ss.getD k ByteArray.empty))
      clear hown hbel
      go_wp2
      go_roundw
      case rel =>
        have R1' := R1.out
        rw [fill_set ss k (by rw [HLN.out]; exact hkn)] at R1'
        rw [List.getD_eq_getElem?_getD] at R1'
        have R2' := R2.out
        rw [List.getD_eq_getElem?_getD] at R2'
        exact ⟨k + 1, by omega, by go_num, R1', R2'⟩
      case measure => simp [intOf]; omega
    · obtain rfl : k = n := by omega
      have hown' : wr.ownsRow w.heap.size 9 1 (.slice (some ⟨w.heap.size, 0, none⟩) k k) k (ss.map Value.string) := by
        have e := fill_all ss
        rw [HLN.out] at e
        rw [← e]; exact hown
      have hst := strs_of_own hown'
      clear hown hown'
      go_wp2_with fail
      refine (join_any _ _ _ _ _ hst h2 (Nat.le_refl _) hb).mono ?_
      rintro e w' ⟨rfl, hb2⟩
      go_wp2
      go_ret
      exact ⟨rfl, hbel.trans (hb2.mono hbel.size)⟩

set_option maxHeartbeats 400000 in
theorem cell_any (a : Option Addr) (n cap : Nat) (ss : List ByteArray) (w : World) (hs : Strs w a n ss) (hb : n + lens ss ≤ 4194304) :
    Calls Try.prog 14 #[.slice a n cap] w fun e w' => e = .returned (.string (cellOf ss)) ∧ Below w.heap.size w w' := by
  rcases Nat.lt_or_ge n 2 with h | h
  · have hln := hs.long
    match ss, hln with
    | [], hln =>
      obtain rfl : n = 0 := by simpa using hln.symm
      go_enter Try.func14, Try.ntmps14
      go_wp2
      go_ret
      exact ⟨rfl, Below.refl _ _⟩
    | [x], hln =>
      obtain rfl : n = 1 := by simpa using hln.symm
      obtain ⟨b, off, rfl, hlt, hcell⟩ := hs.plain (by omega)
      have hc0 : w.cell? ⟨b, off, none⟩ = some (.string x) := by simpa using hcell 0 (by omega)
      clear hcell
      go_enter Try.func14, Try.ntmps14
      go_wp2
      go_ret
      exact ⟨rfl, Below.refl _ _⟩
    | x :: y :: r, hln => simp at hln; omega
  · exact cell_many a n cap ss w hs h hb

set_option maxHeartbeats 400000 in
theorem zzcell_nil (cap : Nat) (w : World) :
    Calls Try.prog 8 #[.slice none 0 cap] w fun e w' => e = .returned (.string noneStr) ∧ Below w.heap.size w w' := by
  have hq := fun wx => run_neq_slice_nil_any (P := Try.prog) wx 22 9 none 0 cap 0 0 Try.underlying22
  go_enter Try.func8, Try.ntmps8
  go_wp2_with fail
  refine (cell_any _ _ _ [] _ ⟨rfl, fun i hi => absurd hi (by simp)⟩ (by simp [lens])).mono ?_
  rintro e w' ⟨rfl, hb⟩
  go_wp2
  go_ret
  exact ⟨rfl, hb⟩

set_option maxHeartbeats 400000 in
theorem zzcell_some (x : Addr) (n cap : Nat) (ss : List ByteArray) (w : World) (hs : Strs w (some x) n ss) (hb : n + lens ss ≤ 4194304) :
    Calls Try.prog 8 #[.slice (some x) n cap] w fun e w' => e = .returned (.string (cellOf ss)) ∧ Below w.heap.size w w' := by
  have hq := fun wx => run_neq_slice_nil_any (P := Try.prog) wx 22 9 (some x) n cap 0 0 Try.underlying22
  obtain ⟨i0, hi, hz0, hz1, hz2⟩ := info_parts Try.info30
  have HLN : Hid _ := hs.long
  go_enter Try.func8, Try.ntmps8
  go_wp2_with (first | (at_make; refine wpList_make_full _ rfl (.tmp 8) (.tmp 8) 29 rfl w.heap.size 30 i0 (.string ByteArray.empty) 1 Try.underlying29 hi hz0 hz1 .i64 .i64 _ _ n rfl rfl rfl rfl ?b2 ?b3 ?b4 ?_) | fail)
  case b2 => rw [hz2]; omega
  case b3 => unfold maxLen; omega
  case b4 => exact Nat.le_refl _
  intro w1 hown1 hgrow1
  have hbel1 : Below w.heap.size w w1 := (Below.refl _ _).grown hgrow1 (Nat.le_refl _) (by simp)
  have hown2 : w1.ownsRow w.heap.size 30 1 (.slice (some ⟨w.heap.size, 0, none⟩) n n) n (fill ss 0) := by
    rw [fill_zero, HLN.out, ← toList_madeCells_one]; simpa using hown1
  clear hown1 hgrow1
  go_wp2_with fail
  go_loopw [4] (fun i wr => ∃ k : Nat, k ≤ n ∧ i = .int .i64 k ∧ wr.ownsRow w.heap.size 30 1 (.slice (some ⟨w.heap.size, 0, none⟩) n n) n (fill ss k) ∧ Below w.heap.size w wr) (fun i _ => n - (intOf i).toNat)
  case atStart => exact ⟨0, Nat.zero_le _, rfl, hown2, hbel1⟩
  case round =>
    obtain ⟨k, hk, rfl, hown, hbel⟩ := hrel
    by_cases hkn : k < n
    · obtain ⟨b, off, hx, hlt, hcell⟩ := hs.plain (by omega)
      simp only [Option.some.injEq] at hx
      subst hx
      have c1 : wr.cell? ⟨b, off + k, none⟩ = some (.string (ss.getD k ByteArray.empty)) := (hbel.cell hlt).trans (hcell k hkn)
      have c2 : wr.cell? ⟨w.heap.size, k, none⟩ = some (.string ByteArray.empty) := by rw [hown.cellAt k (by omega), fill_at ss k (by rw [HLN.out]; exact hkn)]
      have c3 : wr.frozen? ⟨w.heap.size, k, none⟩ = false := hown.frozenAt k
      have R1 : Hid _ := (hown.stored k (.string (ss.getD k ByteArray.empty))).1
      have R2 : Hid _ := hbel.setCell (p := ⟨w.heap.size, k, none⟩) (Nat.le_refl _) (.string (ss.getD k ByteArray.empty))
      clear hown hbel hcell
      go_wp2
      go_roundw
      case rel =>
        have R1' := R1.out
        rw [fill_set ss k (by rw [HLN.out]; exact hkn)] at R1'
        rw [List.getD_eq_getElem?_getD] at R1'
        have R2' := R2.out
        rw [List.getD_eq_getElem?_getD] at R2'
        exact ⟨k + 1, by omega, by go_num, R1', R2'⟩
      case measure => simp [intOf]; omega
    · obtain rfl : k = n := by omega
      have hown' : wr.ownsRow w.heap.size 30 1 (.slice (some ⟨w.heap.size, 0, none⟩) k k) k (ss.map Value.string) := by
        have e := fill_all ss
        rw [HLN.out] at e
        rw [← e]; exact hown
      have hst := strs_of_own hown'
      clear hown hown'
      go_wp2_with fail
      refine (cell_any _ _ _ _ _ hst hb).mono ?_
      rintro e w' ⟨rfl, hb2⟩
      go_wp2
      go_ret
      exact ⟨rfl, hbel.trans (hb2.mono hbel.size)⟩

theorem Try.size9 : (Try.prog.info? 9).map (·.size) = some 1 := by kernel_rfl

theorem row_of_own {w : World} {base e g n : Nat} {xs : List Value} (h : w.ownsRow base e 1 (.slice (some ⟨g, 0, none⟩) n n) n xs) : w.heap[g]? = some (.cells xs.toArray e (0, 0)) := by
  rcases h.2 with ⟨h', _⟩ | ⟨g', cap', cur, h', _, hg, _, _, hcs, htake⟩
  · simp at h'
  · simp only [Value.slice.injEq, Option.some.injEq, Addr.mk.injEq, and_true, true_and] at h'
    obtain ⟨rfl, rfl⟩ := h'
    rw [List.take_of_length_le (by simp; omega)] at htake
    rw [hg, ← htake]

theorem strs_of_row {w : World} {e g n : Nat} {ss : List ByteArray} (hn : ss.length = n) (h : w.heap[g]? = some (.cells (ss.map Value.string).toArray e (0, 0))) : Strs w (some ⟨g, 0, none⟩) n ss := by
  refine ⟨hn, fun i hi => ⟨g, 0, rfl, ?_⟩⟩
  rw [Nat.zero_add, cell_of_row w g i _ e (0, 0) h]
  simp [hn, hi]

theorem Strs.src {w : World} {x : Addr} {n : Nat} {ss : List ByteArray} (h : Strs w (some x) n ss) : ∀ j v, (ss.map Value.string)[j]? = some v → w.cell? (x.add j) = some v := by
  intro j v hv
  rw [List.getElem?_map, Option.map_eq_some_iff] at hv
  obtain ⟨s, hs, rfl⟩ := hv
  have hj := (List.getElem?_eq_some_iff.1 hs).1
  obtain ⟨b, off, hx, hc⟩ := h.at' j (by rw [← h.long]; exact hj)
  simp only [Option.some.injEq] at hx
  subst hx
  rw [Go.WideShapes.add_plain, hc, List.getD_eq_getElem?_getD, hs]
  rfl

theorem splice_whole {α : Type} (L cs : List α) (h : cs.length = L.length) : splice L 0 cs = cs := by
  simp [splice, List.drop_of_length_le (Nat.le_of_eq h.symm)]


end Go.Proofs.Qxb6001473a
