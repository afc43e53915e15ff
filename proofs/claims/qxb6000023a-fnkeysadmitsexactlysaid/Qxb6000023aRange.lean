import Derived.Test.Qxb6000023aKeys
namespace Go.Proofs.Qxb6000023a
open Go.ChangeShapes Go.WideShapes Go.ChangeAt Go.RowKit
set_option linter.unusedVariables false

theorem put4 {wx : World} {g : Nat} (g0 : wx.heap[g]? = some (.cells #[.pointer none, .pointer none, .bool false, .int .i64 0] 27 (0, 0))) (p q : Option Addr) {r : Option Addr} {bd : Option (List Int × Bool)} (h : BoundAt wx r bd) :
    BoundAt ((((wx.setCell ⟨g, 0, none⟩ (.pointer p)).setCell ⟨g, 1, none⟩ (.pointer q)).setCell ⟨g, 2, none⟩ (.bool false)).setCell ⟨g, 3, none⟩ (.int .i64 0)) r bd := by
  have g1 : (wx.setCell ⟨g, 0, none⟩ (.pointer p)).heap[g]? = some (.cells #[.pointer p, .pointer none, .bool false, .int .i64 0] 27 (0, 0)) := by
    rw [heap_setCell_same _ _ _ _ _ _ g0]; rfl
  have g2 : ((wx.setCell ⟨g, 0, none⟩ (.pointer p)).setCell ⟨g, 1, none⟩ (.pointer q)).heap[g]? = some (.cells #[.pointer p, .pointer q, .bool false, .int .i64 0] 27 (0, 0)) := by
    rw [heap_setCell_same _ _ _ _ _ _ g1]; rfl
  have g3 : (((wx.setCell ⟨g, 0, none⟩ (.pointer p)).setCell ⟨g, 1, none⟩ (.pointer q)).setCell ⟨g, 2, none⟩ (.bool false)).heap[g]? = some (.cells #[.pointer p, .pointer q, .bool false, .int .i64 0] 27 (0, 0)) := by
    rw [heap_setCell_same _ _ _ _ _ _ g2]; rfl
  exact (((h.put g0 0 _).put g1 1 _).put g2 2 _).put g3 3 _

theorem below4 {w wx : World} {g : Nat} (h : Below w.heap.size w wx) (hg : w.heap.size ≤ g) (p q : Option Addr) :
    Below w.heap.size w ((((wx.setCell ⟨g, 0, none⟩ (.pointer p)).setCell ⟨g, 1, none⟩ (.pointer q)).setCell ⟨g, 2, none⟩ (.bool false)).setCell ⟨g, 3, none⟩ (.int .i64 0)) :=
  (((h.setCell (p := ⟨g, 0, none⟩) hg _).setCell (p := ⟨g, 1, none⟩) hg _).setCell (p := ⟨g, 2, none⟩) hg _).setCell (p := ⟨g, 3, none⟩) hg _

set_option maxRecDepth 100000 in
set_option maxHeartbeats 1600000 in
theorem zzkeys_any (la ha pa : Option Addr) (ln lc hn hc pn pc : Nat) (L H P : List Int) (lx hx : Bool) (w : World) (hL : Val w la ln lc L) (hH : Val w ha hn hc H) (hP : Val w pa pn pc P) :
    Calls Try.prog 8 #[.slice la ln lc, .slice ha hn hc, .bool lx, .bool hx, .slice pa pn pc] w fun e w' => KeysPost e w' (lowB la.isSome L lx pa.isSome P) (uppB ha.isSome H hx pa.isSome P) ∧ Below w.heap.size w w' := by
  have hnew := heap_alloc_new w (.cells #[.pointer none, .pointer none, .bool false, .int .i64 0] 27)
  have hal : Below w.heap.size w (w.alloc (.cells #[.pointer none, .pointer none, .bool false, .int .i64 0] 27)) := (Below.refl _ _).alloc (Nat.le_refl _) _
  go_enter Try.func8, Try.ntmps8
  go_wp2_with fail
  generalize w.alloc (.cells #[.pointer none, .pointer none, .bool false, .int .i64 0] 27) = W at *
  refine (keys_any la ha pa ln lc hn hc pn pc L H P lx hx W (hL.below hal) (hH.below hal) (hP.below hal)).mono ?_
  rintro e w1 ⟨hK, hb⟩
  have hg : w1.heap[w.heap.size]? = some (.cells #[.pointer none, .pointer none, .bool false, .int .i64 0] 27 (0, 0)) := (hb.block _ (lt_block hnew)).trans hnew
  have hbel : Below w.heap.size w w1 := hal.trans (hb.mono hal.size)
  have s0 : w1.cell? ⟨w.heap.size, 0, none⟩ = some (.pointer none) := by rw [cell_of_row _ _ _ _ _ _ hg]; rfl
  have s1 : w1.cell? ⟨w.heap.size, 1, none⟩ = some (.pointer none) := by rw [cell_of_row _ _ _ _ _ _ hg]; rfl
  have s2 : w1.cell? ⟨w.heap.size, 2, none⟩ = some (.bool false) := by rw [cell_of_row _ _ _ _ _ _ hg]; rfl
  have s3 : w1.cell? ⟨w.heap.size, 3, none⟩ = some (.int .i64 0) := by rw [cell_of_row _ _ _ _ _ _ hg]; rfl
  have f0 : w1.frozen? ⟨w.heap.size, 0, none⟩ = false := frozen_of_row _ _ _ _ _ hg
  have f1 : w1.frozen? ⟨w.heap.size, 1, none⟩ = false := frozen_of_row _ _ _ _ _ hg
  have f2 : w1.frozen? ⟨w.heap.size, 2, none⟩ = false := frozen_of_row _ _ _ _ _ hg
  have f3 : w1.frozen? ⟨w.heap.size, 3, none⟩ = false := frozen_of_row _ _ _ _ _ hg
  clear hL hH hP hnew hal hb
  obtain ⟨lw, hlw⟩ : ∃ lw, lowB la.isSome L lx pa.isSome P = lw := ⟨_, rfl⟩
  have HLW := hid hlw
  rw [hlw] at hK
  clear hlw
  cases lw with
  | none =>
    have he : e = .returned (.tuple #[.agg #[.pointer none, .pointer none, .bool false, .int .i64 0], .bool false]) := hK
    subst he
    have HB := hid (below4 hbel (Nat.le_refl _) none none)
    clear hK hg hbel
    go_wp2_with fail
    exact bodyPost_ret (v := .tuple #[.agg #[.pointer none, .pointer none, .bool false, .int .i64 0], .bool false]) (by simp [results, Try.results8, go_sem, s0, s1, s2, s3]) rfl ⟨by rw [HLW.out]; rfl, HB.out⟩
  | some l =>
    obtain ⟨pl, pu, rfl, hl, hu⟩ := hK
    have HB := hid (below4 hbel (Nat.le_refl _) pl pu)
    have HL := hid (put4 hg pl pu hl)
    have HU := hid (put4 hg pl pu hu)
    clear hg hbel hl hu
    go_wp2_with fail
    exact bodyPost_ret (v := .tuple #[.agg #[.pointer pl, .pointer pu, .bool false, .int .i64 0], .bool true]) (by simp [results, Try.results8, go_sem, s0, s1, s2, s3]) rfl ⟨by rw [HLW.out]; exact ⟨pl, pu, rfl, HL.out, HU.out⟩, HB.out⟩

def lowOk (lw : Option (List Int × Bool)) (K : List Int) : Bool := match lw with | none => true | some (q, ex) => !(decide (cmpL K q < 0) || (cmpL K q == 0 && ex))
def upOk (up : Option (List Int × Bool)) (K : List Int) : Bool := match up with | none => true | some (q, ex) => !(decide (0 < cmpL K q) || (cmpL K q == 0 && ex))

theorem box_mid {w wx : World} {v0 v1 v2 v3 : Value} (h : wx.heap[w.heap.size]? = some (.cells #[v0, v1, v2, v3] 27 (0, 0))) : wx.cell? ⟨w.heap.size, 0, none⟩ = some v0 ∧ wx.cell? ⟨w.heap.size, 1, none⟩ = some v1 := by
  constructor
  · rw [cell_of_row _ _ _ _ _ _ h]; rfl
  · rw [cell_of_row _ _ _ _ _ _ h]; rfl

set_option maxRecDepth 100000 in
set_option maxHeartbeats 1600000 in
theorem inRange_any (pl pu ka : Option Addr) (kn kc : Nat) (K : List Int) (lw up : Option (List Int × Bool)) (w : World) (hl : BoundAt w pl lw) (hu : BoundAt w pu up) (hK : Bytes w ka kn K) (hkn : kn ≤ 2097152) :
    Calls Try.prog 13 #[.agg #[.pointer pl, .pointer pu, .bool false, .int .i64 0], .slice ka kn kc] w fun e w' => e = .returned (.bool (lowOk lw K && upOk up K)) ∧ Below w.heap.size w w' := by
  have hnew := heap_alloc_new w (.cells #[.pointer pl, .pointer pu, .bool false, .int .i64 0] 27)
  have hal : Below w.heap.size w (w.alloc (.cells #[.pointer pl, .pointer pu, .bool false, .int .i64 0] 27)) := (Below.refl _ _).alloc (Nat.le_refl _) _
  go_enter Try.func13, Try.ntmps13
  go_upto_if 9 with fail
  generalize w.alloc (.cells #[.pointer pl, .pointer pu, .bool false, .int .i64 0] 27) = W at *
  go_cut [5] (fun s5 wx => wx.heap[w.heap.size]? = some (.cells #[.pointer pl, .pointer pu, .bool false, .int .i64 0] 27 (0, 0)) ∧ Hid (lowOk lw K = true) ∧ Below w.heap.size w wx)
  case first =>
    cases lw with
    | none =>
      obtain rfl : pl = none := hl
      go_wp2_with fail
      go_meet
      exact ⟨hnew, rfl, hal⟩
    | some y =>
      obtain ⟨q, ex⟩ := y
      obtain ⟨g, a, n, c, rfl, c0, c1, hB, hn⟩ := hl.below hal
      have hKW := hK.below hal
      have b0 := (box_mid hnew).1
      clear hl hu
      go_wp2_with fail
      refine (cmp_any ka a kn n kc c K q W hKW hB hkn hn).mono ?_
      rintro e w1 ⟨rfl, hb⟩
      have hnew1 : w1.heap[w.heap.size]? = some (.cells #[.pointer (some ⟨g, 0, none⟩), .pointer pu, .bool false, .int .i64 0] 27 (0, 0)) := (hb.block _ (lt_block hnew)).trans hnew
      have hbel : Below w.heap.size w w1 := hal.trans (hb.mono hal.size)
      have d0 := (box_mid hnew1).1
      have d1 : w1.cell? ⟨g, 1, none⟩ = some (.bool ex) := (hb.cell (World.block_lt_of_cell? W _ c1)).trans c1
      have HN := hid hnew1
      have HB := hid hbel
      clear hB hKW hK hnew hnew1 hbel hal hb b0 c0 c1
      rcases cmpL_range K q with hz | hz | hz
      · have HS : Hid (lowOk (some (q, ex)) K = false) := show _ = _ by rw [lowOk, hz]; rfl
        rw [hz]
        clear hz
        go_wp2_with fail
        go_ret
        exact ⟨retb (by rw [HS.out, Bool.false_and]), HB.out⟩
      · cases ex with
        | true =>
          have HS : Hid (lowOk (some (q, true)) K = false) := show _ = _ by rw [lowOk, hz]; rfl
          rw [hz]
          clear hz
          go_wp2_with fail
          go_ret
          exact ⟨retb (by rw [HS.out, Bool.false_and]), HB.out⟩
        | false =>
          have HS : Hid (lowOk (some (q, false)) K = true) := show _ = _ by rw [lowOk, hz]; rfl
          rw [hz]
          clear hz
          go_wp2_with fail
          go_meet
          exact ⟨HN.out, HS, HB.out⟩
      · have HS : Hid (lowOk (some (q, ex)) K = true) := show _ = _ by rw [lowOk, hz]; rfl
        rw [hz]
        clear hz
        go_wp2_with fail
        go_meet
        exact ⟨HN.out, HS, HB.out⟩
  case rest =>
    clear hnew hal
    obtain ⟨hnew, HL, hbel⟩ := hcut
    have b1 := (box_mid hnew).2
    cases up with
    | none =>
      obtain rfl : pu = none := hu
      go_wp2_with fail
      go_ret
      exact ⟨retb (by rw [HL.out]; rfl), hbel⟩
    | some y =>
      obtain ⟨q, ex⟩ := y
      obtain ⟨g, a, n, c, rfl, c0, c1, hB, hn⟩ := hu.below hbel
      have hKW := hK.below hbel
      clear hl hu
      go_wp2_with fail
      refine (cmp_any ka a kn n kc c K q wc hKW hB hkn hn).mono ?_
      rintro e w1 ⟨rfl, hb⟩
      have hnew1 : w1.heap[w.heap.size]? = some (.cells #[.pointer pl, .pointer (some ⟨g, 0, none⟩), .bool false, .int .i64 0] 27 (0, 0)) := (hb.block _ (lt_block hnew)).trans hnew
      have hbel1 : Below w.heap.size w w1 := hbel.trans (hb.mono hbel.size)
      have d0 := (box_mid hnew1).2
      have d1 : w1.cell? ⟨g, 1, none⟩ = some (.bool ex) := (hb.cell (World.block_lt_of_cell? wc _ c1)).trans c1
      have HB := hid hbel1
      clear hB hKW hK hnew hnew1 hbel hbel1 hb b1 c0 c1
      rcases cmpL_range K q with hz | hz | hz
      · have HS : Hid (upOk (some (q, ex)) K = true) := show _ = _ by rw [upOk, hz]; rfl
        rw [hz]
        clear hz
        go_wp2_with fail
        go_ret
        exact ⟨retb (by rw [HL.out, HS.out]; rfl), HB.out⟩
      · cases ex with
        | true =>
          have HS : Hid (upOk (some (q, true)) K = false) := show _ = _ by rw [upOk, hz]; rfl
          rw [hz]
          clear hz
          go_wp2_with fail
          go_ret
          exact ⟨retb (by rw [HL.out, HS.out]; rfl), HB.out⟩
        | false =>
          have HS : Hid (upOk (some (q, false)) K = true) := show _ = _ by rw [upOk, hz]; rfl
          rw [hz]
          clear hz
          go_wp2_with fail
          go_ret
          exact ⟨retb (by rw [HL.out, HS.out]; rfl), HB.out⟩
      · have HS : Hid (upOk (some (q, ex)) K = false) := show _ = _ by rw [upOk, hz]; rfl
        rw [hz]
        clear hz
        go_wp2_with fail
        go_ret
        exact ⟨retb (by rw [HL.out, HS.out]; rfl), HB.out⟩

end Go.Proofs.Qxb6000023a
