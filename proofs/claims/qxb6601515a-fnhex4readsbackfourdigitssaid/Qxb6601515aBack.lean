import Derived.Test.Qxb6601515aMatch
namespace Go.Proofs.Qxb6601515a
open Go.ChangeShapes Go.WideShapes Go.ChangeAt Go.RowKit
set_option linter.unusedVariables false

/-- The nibble as a digit. -/
def hexc (nib : Int) (up : Bool) : Int := if nib < 10 then 48 + nib else if up = true then 65 + nib - 10 else 97 + nib - 10

theorem hexc_back (nib : Int) (up : Bool) (h0 : 0 ≤ nib) (h1 : nib ≤ 15) : dok (hexc nib up) = true ∧ dval (hexc nib up) = nib ∧ 0 ≤ hexc nib up ∧ hexc nib up ≤ 255 := by
  unfold hexc
  by_cases h : nib < 10
  · rw [if_pos h]
    have := dig_num (c := 48 + nib) (by omega) (by omega)
    exact ⟨this.2, by rw [this.1]; omega, by omega, by omega⟩
  · rw [if_neg h]
    cases up with
    | true =>
      rw [if_pos rfl]
      have := dig_up (c := 65 + nib - 10) (by omega) (by omega)
      exact ⟨this.2, by rw [this.1]; omega, by omega, by omega⟩
    | false =>
      rw [if_neg (by simp)]
      have := dig_low (c := 97 + nib - 10) (by omega) (by omega)
      exact ⟨this.2, by rw [this.1]; omega, by omega, by omega⟩

theorem ret1 {k : IntKind} {a b : Int} (h : a = b) : Ending.returned (.int k a) = .returned (.int k b) := by rw [h]

set_option maxHeartbeats 400000 in
theorem char_any (nib : Int) (up : Bool) (w : World) (h0 : 0 ≤ nib) (h1 : nib ≤ 15) :
    Calls Try.prog 13 #[.int .i64 nib, .bool up] w fun e w' => e = .returned (.int .u8 (hexc nib up)) ∧ w' = w := by
  by_cases h : nib < 10
  · have E : Hid (hexc nib up = 48 + nib) := show _ = _ by unfold hexc; rw [if_pos h]
    go_enter Try.func13, Try.ntmps13
    go_wp2
    go_ret
    exact ⟨ret1 E.out.symm, rfl⟩
  · cases up with
    | true =>
      have E : Hid (hexc nib true = 65 + nib - 10) := show _ = _ by unfold hexc; rw [if_neg h, if_pos rfl]
      go_enter Try.func13, Try.ntmps13
      go_wp2
      go_ret
      exact ⟨ret1 E.out.symm, rfl⟩
    | false =>
      have E : Hid (hexc nib false = 97 + nib - 10) := show _ = _ by unfold hexc; rw [if_neg h, if_neg (by simp)]
      go_enter Try.func13, Try.ntmps13
      go_wp2
      go_ret
      exact ⟨ret1 E.out.symm, rfl⟩

/-- The k-th nibble of v, from the left. -/
def nibble (v : Int) (k : Nat) : Int := v / (16 ^ (3 - k)) % 16

/-- The first k digits are written. -/
structure Written (v : Int) (n k : Nat) (zs : List Int) : Prop where
  long : zs.length = n
  range : ∀ i, 0 ≤ zs.getD i 0 ∧ zs.getD i 0 ≤ 255
  good : ∀ j, j < k → dok (zs.getD j 0) = true ∧ dval (zs.getD j 0) = nibble v j

theorem Written.start (v : Int) (n : Nat) : Written v n 0 (List.replicate n 0) :=
  ⟨by simp, fun i => by rw [List.getD_eq_getElem?_getD, List.getElem?_replicate]; split <;> simp, fun j h => absurd h (by omega)⟩

theorem Written.step {v : Int} {n k : Nat} {zs : List Int} (h : Written v n k zs) (hk : k < n) (nib : Int) (up : Bool) (hn : nib = nibble v k) (h0 : 0 ≤ nib) (h1 : nib ≤ 15) : Written v n (k + 1) (zs.set k (hexc nib up)) := by
  have hb := hexc_back nib up h0 h1
  refine ⟨by simpa using h.long, fun i => ?_, fun j hj => ?_⟩
  · rw [List.getD_eq_getElem?_getD, List.getElem?_set]
    have hr := h.range i
    rw [List.getD_eq_getElem?_getD] at hr
    by_cases e : k = i
    · subst e
      rw [if_pos rfl, if_pos (by rw [h.long]; exact hk)]
      exact hb.2.2
    · rw [if_neg e]
      exact hr
  · rw [List.getD_eq_getElem?_getD, List.getElem?_set]
    by_cases e : k = j
    · subst e
      rw [if_pos rfl, if_pos (by rw [h.long]; exact hk)]
      exact ⟨hb.1, by rw [← hn]; exact hb.2.1⟩
    · rw [if_neg e]
      have hg := h.good j (by omega)
      rw [List.getD_eq_getElem?_getD] at hg
      exact hg

theorem Written.val {v : Int} {n : Nat} {zs : List Int} (h : Written v n 4 zs) (h0 : 0 ≤ v) (h1 : v ≤ 65535) : hval zs = v ∧ hok zs = true := by
  have ho : hok zs = true := hok_all (fun j hj => (h.good j hj).1)
  refine ⟨?_, ho⟩
  have e0 : dval (zs.getD 0 0) = v / 4096 % 16 := (h.good 0 (by omega)).2
  have e1 : dval (zs.getD 1 0) = v / 256 % 16 := (h.good 1 (by omega)).2
  have e2 : dval (zs.getD 2 0) = v / 16 % 16 := (h.good 2 (by omega)).2
  have e3 : dval (zs.getD 3 0) = v / 1 % 16 := (h.good 3 (by omega)).2
  rw [hval_four zs ho, e0, e1, e2, e3]
  omega

theorem splice_map {α β : Type} (f : α → β) (L cs : List α) (k : Nat) : splice (L.map f) k (cs.map f) = (splice L k cs).map f := by
  simp [splice]

theorem splice_get {α : Type} (L cs : List α) (k i : Nat) (d : α) (hk : k + cs.length ≤ L.length) : (splice L k cs).getD i d = if k ≤ i ∧ i < k + cs.length then cs.getD (i - k) d else L.getD i d := by
  simp only [List.getD_eq_getElem?_getD, splice]
  by_cases h1 : i < k
  · rw [List.getElem?_append_left (by simp; omega), List.getElem?_take, if_pos h1, if_neg (by omega)]
  · rw [List.getElem?_append_right (by simp; omega)]
    simp only [List.length_take, Nat.min_eq_left (show k ≤ L.length by omega)]
    by_cases h2 : i < k + cs.length
    · rw [List.getElem?_append_left (by omega), if_pos (by omega)]
    · rw [List.getElem?_append_right (by omega), List.getElem?_drop, if_neg (by omega)]
      congr 2
      omega

theorem Written.spliced {v : Int} {m : Nat} {zs ts : List Int} (h : Written v (4 + m) 4 zs) (hl : ts.length = m) (hr : ∀ i, 0 ≤ ts.getD i 0 ∧ ts.getD i 0 ≤ 255) : Written v (4 + m) 4 (splice zs 4 ts) := by
  have hle : 4 + ts.length ≤ zs.length := by rw [hl, h.long]; exact Nat.le_refl _
  refine ⟨by rw [length_splice _ _ _ hle, h.long], fun i => ?_, fun j hj => ?_⟩
  · rw [splice_get _ _ _ _ _ hle]
    split
    · exact hr _
    · exact h.range i
  · rw [splice_get _ _ _ _ _ hle, if_neg (by omega)]
    exact h.good j hj

theorem wraps_i64 (n : Int) (h₀ : 0 ≤ n) (h₁ : n < 2 ^ 63) : IntKind.i64.wrap n = n := by rw [IntKind.wrap_i64]; omega
theorem i64_and15 (x : Int) (h₀ : 0 ≤ x) (h₁ : x ≤ 65535) : bits .and .i64 x 15 = x % 16 := bits_mask .i64 63 (by decide) wraps_i64 4 (by decide) x h₀ (by omega)

set_option maxHeartbeats 1600000 in
theorem back_walk (v m : Int) (a : Option Addr) (len cap : Nat) (ts : List Int) (w : World) (hv0 : 0 ≤ v) (hv1 : v ≤ 65535) (hm0 : 0 ≤ m) (hm1 : m ≤ 255) (hs : Bytes w a len ts) (hl : len ≤ cap) (hc : cap ≤ maxLen) :
    Calls Try.prog 4 #[.int .u16 v, .int .u8 m, .slice a len cap] w fun e w' => e = .returned (.bool true) ∧ Below w.heap.size w w' := by
  obtain ⟨i0, hi, hz0, hz1, hz2⟩ := info_parts Try.info5
  unfold maxLen at hc
  by_cases h20 : 1048576 < len
  · go_enter Try.func4, Try.ntmps4
    go_wp2
    go_ret
    exact ⟨rfl, Below.refl _ _⟩
  have d20 : decide (1048576 < (len : Int)) = false := by simp; omega
  by_cases h21 : 1048572 < len
  · go_enter Try.func4, Try.ntmps4
    go_wp2
    go_ret
    exact ⟨rfl, Below.refl _ _⟩
  have d21 : decide (1048572 < (len : Int)) = false := by simp; omega
  go_enter Try.func4, Try.ntmps4
  go_wp2_with (first | (go_at_call 12; go_in) | (at_make; refine wpList_make_full _ rfl (.tmp 22) (.tmp 22) 22 rfl w.heap.size 5 i0 (.int .u8 0) 1 Try.underlying22 hi hz0 hz1 .i64 .i64 _ _ (4 + len) rfl rfl (by simp) (by simp) ?b2 ?b3 ?b4 ?_) | fail)
  case b2 => rw [hz2]; omega
  case b3 => unfold maxLen; omega
  case b4 => exact Nat.le_refl _
  intro w1 hown1 hgrow1
  have hbel1 : Below w.heap.size w w1 := (Below.refl _ _).grown hgrow1 (Nat.le_refl _) (by simp)
  have hown2 : w1.ownsRow w.heap.size 5 1 (.slice (some ⟨w.heap.size, 0, none⟩) (4 + len) (4 + len)) (4 + len) ((List.replicate (4 + len) (0 : Int)).map (Value.int .u8)) := by
    rw [List.map_replicate, ← toList_madeCells_one]; simpa using hown1
  clear hown1 hgrow1
  go_wp2_with fail
  go_loopw [8] (fun i wr => ∃ (k : Nat) (zs : List Int), k ≤ 4 ∧ i = .int .i64 k ∧ Hid (Written v (4 + len) k zs) ∧ wr.ownsRow w.heap.size 5 1 (.slice (some ⟨w.heap.size, 0, none⟩) (4 + len) (4 + len)) (4 + len) (zs.map (Value.int .u8)) ∧ Below w.heap.size w wr) (fun i _ => 4 - (intOf i).toNat)
  case atStart => exact ⟨0, _, Nat.zero_le _, rfl, Written.start _ _, hown2, hbel1⟩
  case round =>
    obtain ⟨k, zs, hk, rfl, hW, hown, hbel⟩ := hrel
    by_cases hk4 : k < 4
    · have c2 : wr.cell? ⟨w.heap.size, k, none⟩ = some (.int .u8 (zs.getD k 0)) := by
        rw [hown.cellAt k (by omega), List.getElem?_map, List.getD_eq_getElem?_getD, List.getElem?_eq_getElem (by rw [hW.out.long]; omega)]
        rfl
      have c3 : wr.frozen? ⟨w.heap.size, k, none⟩ = false := hown.frozenAt k
      rcases (by omega : k = 0 ∨ k = 1 ∨ k = 2 ∨ k = 3) with rfl | rfl | rfl | rfl
      · go_wp2_with fail
        generalize hnb : bits BinOp.and IntKind.i64 (v / 4096) 15 = nb
        generalize (bits BinOp.and IntKind.u8 m 1 != 0) = up
        have hnb1 : nb = nibble v 0 := by rw [← hnb, i64_and15 _ (by omega) (by omega), nibble]; first | rfl | simp
        have hnb2 : 0 ≤ nb ∧ nb ≤ 15 := by rw [← hnb, i64_and15 _ (by omega) (by omega)]; omega
        have S1 : Hid _ := (hown.stored 0 (.int .u8 (hexc nb up))).1
        have S2 : Hid _ := hbel.setCell (p := ⟨w.heap.size, 0, none⟩) (Nat.le_refl _) (.int .u8 (hexc nb up))
        have S3 : Hid _ := hW.out.step (by omega) nb up hnb1 hnb2.1 hnb2.2
        clear hnb hnb1 hown hbel hown2 hbel1 hW
        refine (char_any nb up _ hnb2.1 hnb2.2).mono ?_
        rintro e w' ⟨rfl, rfl⟩
        generalize hexc nb up = c at *
        go_wp2
        go_roundw
        case rel => exact ⟨0 + 1, zs.set 0 c, by omega, by go_num, S3, by rw [List.map_set]; exact S1.out, S2.out⟩
        case measure => simp [intOf]
      · go_wp2_with fail
        generalize hnb : bits BinOp.and IntKind.i64 (v / 256) 15 = nb
        generalize (bits BinOp.and IntKind.u8 m 2 != 0) = up
        have hnb1 : nb = nibble v 1 := by rw [← hnb, i64_and15 _ (by omega) (by omega), nibble]; first | rfl | simp
        have hnb2 : 0 ≤ nb ∧ nb ≤ 15 := by rw [← hnb, i64_and15 _ (by omega) (by omega)]; omega
        have S1 : Hid _ := (hown.stored 1 (.int .u8 (hexc nb up))).1
        have S2 : Hid _ := hbel.setCell (p := ⟨w.heap.size, 1, none⟩) (Nat.le_refl _) (.int .u8 (hexc nb up))
        have S3 : Hid _ := hW.out.step (by omega) nb up hnb1 hnb2.1 hnb2.2
        clear hnb hnb1 hown hbel hown2 hbel1 hW
        refine (char_any nb up _ hnb2.1 hnb2.2).mono ?_
        rintro e w' ⟨rfl, rfl⟩
        generalize hexc nb up = c at *
        go_wp2
        go_roundw
        case rel => exact ⟨1 + 1, zs.set 1 c, by omega, by go_num, S3, by rw [List.map_set]; exact S1.out, S2.out⟩
        case measure => simp [intOf]
      · go_wp2_with fail
        generalize hnb : bits BinOp.and IntKind.i64 (v / 16) 15 = nb
        generalize (bits BinOp.and IntKind.u8 m 4 != 0) = up
        have hnb1 : nb = nibble v 2 := by rw [← hnb, i64_and15 _ (by omega) (by omega), nibble]; first | rfl | simp
        have hnb2 : 0 ≤ nb ∧ nb ≤ 15 := by rw [← hnb, i64_and15 _ (by omega) (by omega)]; omega
        have S1 : Hid _ := (hown.stored 2 (.int .u8 (hexc nb up))).1
        have S2 : Hid _ := hbel.setCell (p := ⟨w.heap.size, 2, none⟩) (Nat.le_refl _) (.int .u8 (hexc nb up))
        have S3 : Hid _ := hW.out.step (by omega) nb up hnb1 hnb2.1 hnb2.2
        clear hnb hnb1 hown hbel hown2 hbel1 hW
        refine (char_any nb up _ hnb2.1 hnb2.2).mono ?_
        rintro e w' ⟨rfl, rfl⟩
        generalize hexc nb up = c at *
        go_wp2
        go_roundw
        case rel => exact ⟨2 + 1, zs.set 2 c, by omega, by go_num, S3, by rw [List.map_set]; exact S1.out, S2.out⟩
        case measure => simp [intOf]
      · go_wp2_with fail
        generalize hnb : bits BinOp.and IntKind.i64 (v) 15 = nb
        generalize (bits BinOp.and IntKind.u8 m 8 != 0) = up
        have hnb1 : nb = nibble v 3 := by rw [← hnb, i64_and15 _ (by omega) (by omega), nibble]; first | rfl | simp
        have hnb2 : 0 ≤ nb ∧ nb ≤ 15 := by rw [← hnb, i64_and15 _ (by omega) (by omega)]; omega
        have S1 : Hid _ := (hown.stored 3 (.int .u8 (hexc nb up))).1
        have S2 : Hid _ := hbel.setCell (p := ⟨w.heap.size, 3, none⟩) (Nat.le_refl _) (.int .u8 (hexc nb up))
        have S3 : Hid _ := hW.out.step (by omega) nb up hnb1 hnb2.1 hnb2.2
        clear hnb hnb1 hown hbel hown2 hbel1 hW
        refine (char_any nb up _ hnb2.1 hnb2.2).mono ?_
        rintro e w' ⟨rfl, rfl⟩
        generalize hexc nb up = c at *
        go_wp2
        go_roundw
        case rel => exact ⟨3 + 1, zs.set 3 c, by omega, by go_num, S3, by rw [List.map_set]; exact S1.out, S2.out⟩
        case measure => simp [intOf]
    · obtain rfl : k = 4 := by omega
      clear hown2 hbel1
      by_cases hl0 : len = 0
      · subst hl0
        have hB : Bytes wr (some ⟨w.heap.size, 0, none⟩) (4 + 0) zs := bytes_of_row hW.out.long hW.out.range (row_of_own hown)
        have HV : Hid _ := hW.out.val hv0 hv1
        clear hown hs hW
        go_wp2_with (first | (refine wpList_copy_nothing rfl (.tmp 48) (.tmp 49) 22 22 rfl 5 Try.underlying22 Try.size5 _ _ _ _ _ _ rfl rfl rfl ?_) | fail)
        refine (zzhex4_long _ _ _ _ _ hB (by omega) (Nat.le_refl _) (by omega)).mono ?_
        rintro e w' ⟨rfl, rfl⟩
        rw [HV.out.1, HV.out.2]
        go_wp2
        go_ret
        exact ⟨rfl, hbel⟩
      · have HR : Hid _ := row_of_own hown
        have K1 : Hid ((ts.map (Value.int .u8)).length = Nat.min len len) := show _ = _ by simp [hs.long]
        obtain ⟨ba, offa, rfl, _, _⟩ := hs.plain (by omega)
        have K2 : Hid (∀ j v, (ts.map (Value.int .u8))[j]? = some v → wr.cell? ((⟨ba, offa, none⟩ : Addr).add j) = some v) := (hs.below hbel).src
        have K3 : Hid (4 + (ts.map (Value.int .u8)).length ≤ (zs.map (Value.int .u8)).length) := show _ ≤ _ by simp [hs.long, hW.out.long]
        have K4 : Hid (∀ v ∈ ts.map (Value.int .u8), v.oneCell' = true) := show ∀ v ∈ ts.map (Value.int .u8), _ by simp [Value.oneCell']
        have K5 : Hid (splice (zs.map (Value.int .u8)) 4 (ts.map (Value.int .u8)) = (splice zs 4 ts).map (Value.int .u8)) := splice_map _ _ _ _
        have HW2 := hW.out.spliced (ts := ts) hs.long hs.range
        have HV : Hid _ := HW2.val hv0 hv1
        have HW3 : Hid _ := HW2
        clear hown HW2
        go_wp2_with (first | (refine wpList_copy_splice rfl (.tmp 48) (.tmp 49) 22 22 rfl 5 Try.underlying22 Try.size5 _ _ _ _ _ _ rfl rfl w.heap.size 4 (zs.map (Value.int .u8)) 5 HR.out (ts.map (Value.int .u8)) K1.out (fun _ => ⟨rfl, _, rfl, K2.out⟩) K3.out K4.out w.heap.size w hbel (Nat.le_refl _) ?_) | fail)
        intro w2 HG2 hB2
        have hB : Bytes w2 (some ⟨w.heap.size, 0, none⟩) (4 + len) (splice zs 4 ts) := by
          have e := HG2.out
          rw [K5.out] at e
          exact bytes_of_row HW3.out.long HW3.out.range e
        clear K1 K2 K3 K4 K5 HG2 hbel HR
        go_wp2_with fail
        refine (zzhex4_long _ _ _ _ _ hB (by omega) (Nat.le_refl _) (by omega)).mono ?_
        rintro e w' ⟨rfl, rfl⟩
        rw [HV.out.1, HV.out.2]
        go_wp2
        go_ret
        exact ⟨rfl, hB2⟩

end Go.Proofs.Qxb6601515a
