import Derived.Test.Qxb6601515aBase
namespace Go.Proofs.Qxb6601515a
open Go.ChangeShapes Go.WideShapes Go.ChangeAt Go.RowKit
set_option linter.unusedVariables false

theorem Try.info5 : (Try.prog.info? 5).map (fun i => (i.zero, i.size, i.bytes)) = some (some (.int .u8 0), 1, 1) := by kernel_rfl
theorem Try.size5 : (Try.prog.info? 5).map (·.size) = some 1 := by kernel_rfl

theorem row_of_own {w : World} {base e g n : Nat} {xs : List Value} (h : w.ownsRow base e 1 (.slice (some ⟨g, 0, none⟩) n n) n xs) : w.heap[g]? = some (.cells xs.toArray e (0, 0)) := by
  rcases h.2 with ⟨h', _⟩ | ⟨g', cap', cur, h', _, hg, _, _, hcs, htake⟩
  · simp at h'
  · simp only [Value.slice.injEq, Option.some.injEq, Addr.mk.injEq, and_true, true_and] at h'
    obtain ⟨rfl, rfl⟩ := h'
    rw [List.take_of_length_le (by simp; omega)] at htake
    rw [hg, ← htake]

theorem bytes_of_row {w : World} {e g n : Nat} {zs : List Int} (hn : zs.length = n) (hr : ∀ i, 0 ≤ zs.getD i 0 ∧ zs.getD i 0 ≤ 255) (h : w.heap[g]? = some (.cells (zs.map (Value.int .u8)).toArray e (0, 0))) : Bytes w (some ⟨g, 0, none⟩) n zs := by
  refine ⟨hn, fun i hi => ⟨g, 0, rfl, ?_⟩, hr⟩
  rw [Nat.zero_add, cell_of_row w g i _ e (0, 0) h]
  simp [hn, hi]

theorem Bytes.src {w : World} {x : Addr} {n : Nat} {zs : List Int} (h : Bytes w (some x) n zs) : ∀ j v, (zs.map (Value.int .u8))[j]? = some v → w.cell? (x.add j) = some v := by
  intro j v hv
  rw [List.getElem?_map, Option.map_eq_some_iff] at hv
  obtain ⟨s, hs, rfl⟩ := hv
  have hj := (List.getElem?_eq_some_iff.1 hs).1
  obtain ⟨b, off, hx, hc⟩ := h.at' j (by rw [← h.long]; exact hj)
  simp only [Option.some.injEq] at hx
  subst hx
  rw [Go.WideShapes.add_plain, hc, List.getD_eq_getElem?_getD, hs]
  rfl

theorem splice_whole {α : Type} (L cs : List α) (h : cs.length = L.length) : splice L 0 cs = cs := by
  simp [splice, List.drop_of_length_le (Nat.le_of_eq h.symm)]

/-- The rest of the law behind the copy. -/
def Post (w : World) (e : Ending) (w' : World) : Prop := e = .returned (.bool true) ∧ Below w.heap.size w w'

theorem hval_four (zs : List Int) (h : hok zs = true) : hval zs = dval (zs.getD 0 0) * 4096 + dval (zs.getD 1 0) * 256 + dval (zs.getD 2 0) * 16 + dval (zs.getD 3 0) := by
  rw [hval, if_pos h]
  simp only [acc]
  omega
theorem hval_zero (zs : List Int) (h : hok zs = false) : hval zs = 0 := by
  rw [hval, h]; rfl

set_option maxHeartbeats 1600000 in
theorem match_walk (a : Option Addr) (len cap : Nat) (zs : List Int) (w : World) (hs : Bytes w a len zs) (hl : len ≤ cap) (hc : cap ≤ maxLen) :
    Calls Try.prog 3 #[.slice a len cap] w fun e w' => e = .returned (.bool true) ∧ Below w.heap.size w w' := by
  have hq := fun wx => run_neq_slice_nil_any (P := Try.prog) wx 22 5 a len cap 0 0 Try.underlying22
  obtain ⟨i0, hi, hz0, hz1, hz2⟩ := info_parts Try.info5
  unfold maxLen at hc
  by_cases h20 : 1048576 < len
  · go_enter Try.func3, Try.ntmps3
    go_wp2
    go_ret
    exact ⟨rfl, Below.refl _ _⟩
  have d20 : decide (1048576 < (len : Int)) = false := by simp; omega
  cases a with
  | none =>
    obtain rfl : len = 0 := by
      rcases Nat.eq_zero_or_pos len with h | h
      · exact h
      · obtain ⟨b, off, h', _⟩ := hs.at' 0 h
        cases h'
    go_enter Try.func3, Try.ntmps3
    go_wp2_with (first | (go_at_call 9; go_in) | (go_at_call 10; refine (zzhex4_short _ _ _ _ (by omega)).mono ?_; rintro e w' ⟨rfl, rfl⟩) | fail)
    go_ret
    exact ⟨rfl, Below.refl _ _⟩
  | some x =>
    go_enter Try.func3, Try.ntmps3
    go_wp2_with (first | (go_at_call 9; go_in) | (at_make; refine wpList_make_full _ rfl (.tmp 24) (.tmp 24) 22 rfl w.heap.size 5 i0 (.int .u8 0) 1 Try.underlying22 hi hz0 hz1 .i64 .i64 _ _ len rfl rfl rfl rfl ?b2 ?b3 ?b4 ?_) | fail)
    case b2 => rw [hz2]; omega
    case b3 => unfold maxLen; omega
    case b4 => exact Nat.le_refl _
    intro w1 hown1 hgrow1
    have hbel1 : Below w.heap.size w w1 := (Below.refl _ _).grown hgrow1 (Nat.le_refl _) (by simp)
    have HR1 : Hid (w1.heap[w.heap.size]? = some (.cells (List.replicate len (Value.int .u8 0)).toArray 5 (0, 0))) := by
      refine row_of_own (base := w.heap.size) (n := len) ?_
      rw [← toList_madeCells_one]; simpa using hown1
    clear hown1 hgrow1
    have K1 : Hid ((zs.map (Value.int .u8)).length = Nat.min len len) := show _ = _ by simp [hs.long]
    have K2 : Hid (∀ j v, (zs.map (Value.int .u8))[j]? = some v → w1.cell? (x.add j) = some v) := (hs.below hbel1).src
    have K3 : Hid (0 + (zs.map (Value.int .u8)).length ≤ (List.replicate len (Value.int .u8 0)).length) := show _ ≤ _ by simp [hs.long]
    have K4 : Hid (∀ v ∈ zs.map (Value.int .u8), v.oneCell' = true) := show ∀ v ∈ zs.map (Value.int .u8), _ by simp [Value.oneCell']
    have K5 : Hid (splice (List.replicate len (Value.int .u8 0)) 0 (zs.map (Value.int .u8)) = zs.map (Value.int .u8)) := splice_whole _ _ (by simp [hs.long])
    go_wp2_with (first | (refine wpList_copy_splice rfl (.tmp 26) (.tmp 27) 22 22 rfl 5 Try.underlying22 Try.size5 _ _ _ _ _ _ rfl rfl w.heap.size 0 (List.replicate len (Value.int .u8 0)) 5 HR1.out (zs.map (Value.int .u8)) K1.out (fun _ => ⟨rfl, _, rfl, K2.out⟩) K3.out K4.out w.heap.size w hbel1 (Nat.le_refl _) ?_) | fail)
    intro w2 HG2 hB2
    have hs2 : Bytes w2 (some ⟨w.heap.size, 0, none⟩) len zs := by
      have e := HG2.out
      rw [K5.out] at e
      exact bytes_of_row hs.long hs.range e
    clear hbel1 HR1 K1 K2 K3 K4 K5 HG2 hs
    by_cases h4 : len < 4
    · go_wp2_with (first | (go_at_call 10; refine (zzhex4_short _ _ _ _ h4).mono ?_; rintro e w' ⟨rfl, rfl⟩) | fail)
      go_ret
      exact ⟨rfl, hB2⟩
    have d4 : decide ((len : Int) < 4) = false := by simp; omega
    go_wp2_with fail
    refine (zzhex4_long _ _ _ _ _ hs2 (by omega) (Nat.le_refl _) (by omega)).mono ?_
    rintro e w3 ⟨rfl, rfl⟩
    obtain ⟨bx, ox, hx, hltx, hcx⟩ := hs2.plain (by omega)
    simp only [Option.some.injEq, Addr.mk.injEq, and_true] at hx
    obtain ⟨rfl, rfl⟩ := hx
    have c0 : w3.cell? ⟨w.heap.size, 0, none⟩ = some (.int .u8 (zs.getD 0 0)) := by simpa using hcx 0 (by omega)
    have c1 : w3.cell? ⟨w.heap.size, 1, none⟩ = some (.int .u8 (zs.getD 1 0)) := by simpa using hcx 1 (by omega)
    have c2 : w3.cell? ⟨w.heap.size, 2, none⟩ = some (.int .u8 (zs.getD 2 0)) := by simpa using hcx 2 (by omega)
    have c3 : w3.cell? ⟨w.heap.size, 3, none⟩ = some (.int .u8 (zs.getD 3 0)) := by simpa using hcx 3 (by omega)
    have r0 := hs2.range 0
    have r1 := hs2.range 1
    have r2 := hs2.range 2
    have r3 := hs2.range 3
    clear hcx hltx hs2
    have V1 : Hid _ := hval_four zs
    have V2 : Hid _ := hval_zero zs
    have O : Hid (hok zs = (dok (zs.getD 0 0) && dok (zs.getD 1 0) && dok (zs.getD 2 0) && dok (zs.getD 3 0))) := rfl
    generalize zs.getD 0 0 = z0 at *
    generalize zs.getD 1 0 = z1 at *
    generalize zs.getD 2 0 = z2 at *
    generalize zs.getD 3 0 = z3 at *
    go_wp2_with fail
    refine (digit_any z0 _ r0.1 r0.2).mono ?_
    rintro e w4 ⟨rfl, rfl⟩
    go_wp2_with fail
    refine (digit_any z1 _ r1.1 r1.2).mono ?_
    rintro e w3 ⟨rfl, rfl⟩
    go_wp2_with fail
    refine (digit_any z2 _ r2.1 r2.2).mono ?_
    rintro e w4 ⟨rfl, rfl⟩
    go_wp2_with fail
    refine (digit_any z3 _ r3.1 r3.2).mono ?_
    rintro e w3 ⟨rfl, rfl⟩
    clear c0 c1 c2 c3 r0 r1 r2 r3
    have e0 := dval_range z0
    have e1 := dval_range z1
    have e2 := dval_range z2
    have e3 := dval_range z3
    generalize dval z0 = d0 at *
    generalize dval z1 = d1 at *
    generalize dval z2 = d2 at *
    generalize dval z3 = d3 at *
    generalize dok z0 = o0 at *
    generalize dok z1 = o1 at *
    generalize dok z2 = o2 at *
    generalize dok z3 = o3 at *
    generalize hval zs = v at *
    generalize hok zs = o at *
    cases o with
    | true =>
      have O' := O.out
      simp only [Bool.true_eq, Bool.and_eq_true] at O'
      obtain ⟨⟨⟨rfl, rfl⟩, rfl⟩, rfl⟩ := O'
      have hv := V1.out rfl
      have hvb : (v == d0 * 4096 + d1 * 256 + d2 * 16 + d3) = true := by rw [beq_iff_eq]; exact hv
      clear V1 V2 O hv
      go_wp2
      go_ret
      exact ⟨rfl, hB2⟩
    | false =>
      have hv := V2.out rfl
      subst hv
      have O' := O.out
      clear V1 V2 O
      cases o0 with
      | false =>
        clear O'
        go_wp2
        go_ret
        exact ⟨rfl, hB2⟩
      | true =>
        cases o1 with
        | false =>
          clear O'
          go_wp2
          go_ret
          exact ⟨rfl, hB2⟩
        | true =>
          cases o2 with
          | false =>
            clear O'
            go_wp2
            go_ret
            exact ⟨rfl, hB2⟩
          | true =>
            cases o3 with
            | true => simp at O'
            | false =>
              clear O'
              go_wp2
              go_ret
              exact ⟨rfl, hB2⟩

/-- A slice of bytes that came in. -/
theorem came {H : Type} {enc : TypeId × Value → H} {W : World} {held : Bool} {a : Option Addr} {n cap : Nat} {d : DataW H} {p : List MemPlace}
    (h : DataW.Trod enc Try.prog W 0 (fun _ => true) held 22 (.slice a n cap) d p) : ∃ zs, Bytes W a n zs ∧ n ≤ cap ∧ cap ≤ maxLen := by
  obtain ⟨fuel, hf⟩ := h
  rcases open_ints Try.underlying22 Try.underlying5 (by kernel_rfl) hf with ⟨hcs, _⟩ | ⟨x, l, c, zs, hcs, _, hl, hm, hz, _, hcell, hwz⟩
  · simp [Value.cells] at hcs
    obtain ⟨rfl, rfl, rfl⟩ := hcs
    exact ⟨[], ⟨rfl, fun i hi => absurd hi (by simp), fun i => by simp⟩, Nat.le_refl _, Nat.zero_le _⟩
  · simp [Value.cells] at hcs
    obtain ⟨rfl, rfl, rfl⟩ := hcs
    simp only [if_true] at hz
    refine ⟨zs.take n, ⟨by simp; omega, fun i hi => ?_, fun i => ?_⟩, hl, hm⟩
    · obtain ⟨b, off, spot⟩ := x
      have h0 := hcell i (by omega)
      have hspot : spot = none := by simpa [Addr.add] using World.cell?_spot (hcell 0 (by omega))
      subst hspot
      refine ⟨b, off, rfl, ?_⟩
      rw [Go.WideShapes.add_plain] at h0
      rw [h0]
      simp [hi]
    · have hw := range_u8 hwz i
      rw [List.getD_eq_getElem?_getD, List.getElem?_take]
      split
      · exact hw
      · simp

end Go.Proofs.Qxb6601515a
