import Derived.Test.Qxb6000023aWalkA
namespace Go.Proofs.Qxb6000023a
open Go.ChangeShapes Go.WideShapes Go.ChangeAt Go.RowKit
set_option linter.unusedVariables false

set_option maxRecDepth 100000 in
set_option maxHeartbeats 3200000 in
theorem law_none_none (la ha pa ka : Option Addr) (ln lc hn hc pn pc kn kc : Nat) (L H P K : List Int) (lx hx : Bool) (w : World) (hL : Bytes w la ln L) (hH : Bytes w ha hn H) (hP : Bytes w pa pn P) (hK : Bytes w ka kn K) (hyp : lowB la.isSome L lx pa.isSome P ≠ none) (hla : la.isSome = false) (hha : ha.isSome = false) :
    Calls Try.prog 3 #[.slice la ln lc, .slice ha hn hc, .bool lx, .bool hx, .slice pa pn pc, .slice ka kn kc] w fun e w' => e = .returned (.bool true) ∧ Below w.heap.size w w' := by
  have HHYP := hid hyp
  clear hyp
  have HLA := hid hla
  have HHA := hid hha
  clear hla hha
  go_enter Try.func3, Try.ntmps3
  go_wp2_with fail
  refine (zzBytes_any la ha pa ka ln lc hn hc pn pc kn kc lx hx w).mono ?_
  rintro e w0 ⟨⟨b, rfl⟩, rfl⟩
  cases b with
  | false =>
    go_wp2
    go_ret
    exact ⟨rfl, Below.refl _ _⟩
  | true =>
    by_cases q1 : 262144 < ln
    · go_wp2
      go_ret
      exact ⟨rfl, Below.refl _ _⟩
    have e1 : decide (262144 < (ln : Int)) = false := by simp; omega
    by_cases q2 : 262144 < hn
    · go_wp2
      go_ret
      exact ⟨rfl, Below.refl _ _⟩
    have e2 : decide (262144 < (hn : Int)) = false := by simp; omega
    by_cases q3 : 262144 < pn
    · go_wp2
      go_ret
      exact ⟨rfl, Below.refl _ _⟩
    have e3 : decide (262144 < (pn : Int)) = false := by simp; omega
    by_cases q4 : 262144 < kn
    · go_wp2
      go_ret
      exact ⟨rfl, Below.refl _ _⟩
    have e4 : decide (262144 < (kn : Int)) = false := by simp; omega
    go_wp2_with fail
    refine (clone_any la ln lc L w0 hL (by omega)).mono ?_
    rintro e w1 ⟨⟨la', lc', rfl, vL, fL⟩, b1⟩
    have hH1 := hH.below b1
    have hP1 := hP.below b1
    have hK1 := hK.below b1
    clear hL hH hP hK
    go_wp2_with fail
    refine (clone_any ha hn hc H w1 hH1 (by omega)).mono ?_
    rintro e w2 ⟨⟨ha', hc', rfl, vH, fH⟩, b2⟩
    have vL2 := vL.below b2
    have hP2 := hP1.below b2
    have hK2 := hK1.below b2
    have B2 : Below w0.heap.size w0 w2 := b1.trans (b2.mono b1.size)
    clear hH1 hP1 hK1 vL b1 b2
    go_wp2_with fail
    refine (clone_any pa pn pc P w2 hP2 (by omega)).mono ?_
    rintro e w3 ⟨⟨pa', pc', rfl, vP, fP⟩, b3⟩
    have vL3 := vL2.below b3
    have vH3 := vH.below b3
    have hK3 := hK2.below b3
    have B3 : Below w0.heap.size w0 w3 := B2.trans (b3.mono B2.size)
    clear vL2 hP2 hK2 vH b3 B2
    go_wp2_with fail
    refine (clone_any ka kn kc K w3 hK3 (by omega)).mono ?_
    rintro e w4 ⟨⟨ka', kc', rfl, vK, fK⟩, b4⟩
    have vL4 := vL3.below b4
    have vH4 := vH3.below b4
    have vP4 := vP.below b4
    have B4 : Below w0.heap.size w0 w4 := B3.trans (b4.mono B3.size)
    clear vL3 vH3 hK3 vP b4 B3 fK
    go_wp2_with fail
    refine (zzkeys_any la' ha' pa' ln lc' hn hc' pn pc' L H P lx hx w4 vL4 vH4 vP4).mono ?_
    rintro e w5 ⟨hKP, b5⟩
    have vL5 := vL4.below b5
    have vH5 := vH4.below b5
    have vP5 := vP4.below b5
    have vK5 := vK.below b5
    have B5 : Below w0.heap.size w0 w5 := B4.trans (b5.mono B4.size)
    clear vL4 vH4 vP4 vK b5 B4
    have hIL := bytes_inB vL5.bytes
    have hIH := bytes_inB vH5.bytes
    have hIP := bytes_inB vP5.bytes
    have hIK := bytes_inB vK5.bytes
    have hNL : la'.isSome = false → L = [] := fun h => by
      cases la' with
      | none => exact vL5.bytes.nil.2
      | some _ => cases h
    have hNH : ha'.isSome = false → H = [] := fun h => by
      cases ha' with
      | none => exact vH5.bytes.nil.2
      | some _ => cases h
    have hNP : pa'.isSome = false → P = [] := fun h => by
      cases pa' with
      | none => exact vP5.bytes.nil.2
      | some _ => cases h
    obtain ⟨lw, hlw⟩ : ∃ lw, lowB la'.isSome L lx pa'.isSome P = lw := ⟨_, rfl⟩
    obtain ⟨up, hup⟩ : ∃ up, uppB ha'.isSome H hx pa'.isSome P = up := ⟨_, rfl⟩
    rw [hlw, hup] at hKP
    have HLW := hid hlw
    have HUP := hid hup
    have HFL := hid fL
    have HFH := hid fH
    have HC0 : Hid (lowB la'.isSome L lx pa'.isSome P = lowB la.isSome L lx pa.isSome P) := show _ = _ by rw [fL, fP]
    clear hlw hup e1 e2 e3 e4 fL fH fP
    cases lw with
    | none =>
      have h1 := HC0.out
      rw [HLW.out] at h1
      exact absurd h1.symm HHYP.out
    | some l =>
      obtain ⟨pl, pu, rfl, hbl, hbu⟩ := hKP
      have I1 : lowOk l K = lowerV la'.isSome lx L P K := lower_ok la'.isSome lx pa'.isSome L P K l hIL hIP hIK hNL hNP HLW.out
      have I2 : upOk up K = upperV ha'.isSome hx H P K := by rw [← HUP.out]; exact upper_ok ha'.isSome hx pa'.isSome H P K hIH hIP hIK hNH hNP
      have HI1 := hid I1
      have HI2 := hid I2
      clear I1 I2 HUP
      clear hIL hIH hIP hIK hNL hNH hNP
      have hnew := heap_alloc_new w5 (.cells #[.pointer pl, .pointer pu, .bool false, .int .i64 0] 27)
      have hal : Below w5.heap.size w5 (w5.alloc (.cells #[.pointer pl, .pointer pu, .bool false, .int .i64 0] 27)) := (Below.refl _ _).alloc (Nat.le_refl _) _
      go_wp2_with fail
      generalize w5.alloc (.cells #[.pointer pl, .pointer pu, .bool false, .int .i64 0] 27) = W at *
      have vL6 := vL5.below hal
      have vH6 := vH5.below hal
      have vP6 := vP5.below hal
      have vK6 := vK5.below hal
      have hbl6 := hbl.below hal
      have hbu6 := hbu.below hal
      clear hbl hbu
      have B6 : Below w0.heap.size w0 W := B5.trans (hal.mono B5.size)
      clear vL5 vH5 vP5 vK5 B5
      refine (concat2_any pa' la' pn ln pc' lc' P L W vP6.bytes vL6.bytes (by omega) (by omega)).mono ?_
      rintro e w6 ⟨rfl, hPL, b6⟩
      have hrr6 : w6.heap[w5.heap.size]? = some (.cells #[.pointer pl, .pointer pu, .bool false, .int .i64 0] 27 (0, 0)) := (b6.block _ (lt_block hnew)).trans hnew
      have vH7 := vH6.below b6
      have vP7 := vP6.below b6
      have vK7 := vK6.below b6
      have hbl7 := hbl6.below b6
      have hbu7 := hbu6.below b6
      clear hbl6 hbu6
      have B7 : Below w0.heap.size w0 w6 := B6.trans (b6.mono B6.size)
      clear hnew hal vH6 vP6 vK6 vL6 b6 B6
      obtain ⟨gl, hgl⟩ : ∃ gl, gl = W.heap.size := ⟨_, rfl⟩
      rw [← hgl] at hPL ⊢
      clear hgl
      go_wp2_with fail
      refine (concat2_any pa' ha' pn hn pc' hc' P H w6 vP7.bytes vH7.bytes (by omega) (by omega)).mono ?_
      rintro e w7 ⟨rfl, hPH, b7⟩
      have hrr : w7.heap[w5.heap.size]? = some (.cells #[.pointer pl, .pointer pu, .bool false, .int .i64 0] 27 (0, 0)) := (b7.block _ (lt_block hrr6)).trans hrr6
      have hPL7 := hPL.below b7
      have hP8 := vP7.bytes.below b7
      have hK8 := vK7.bytes.below b7
      have hbl8 := hbl7.below b7
      have hbu8 := hbu7.below b7
      clear hbl7 hbu7
      have B8 : Below w0.heap.size w0 w7 := B7.trans (b7.mono B7.size)
      clear hrr6 vH7 vP7 vK7 hPL b7 B7
      obtain ⟨gh, hgh⟩ : ∃ gh, gh = w6.heap.size := ⟨_, rfl⟩
      rw [← hgh] at hPH ⊢
      clear hgh
      have hqn := fun wx => run_neq_slice_nil_any (P := Try.prog) wx 22 5 la' ln lc' 0 0 Try.underlying22
      have hqe := fun wx => Lib.run_eql_slice_nil (P := Try.prog) wx 22 5 la' ln lc' 0 0 Try.underlying22
      have hqh := fun wx => Lib.run_eql_slice_nil (P := Try.prog) wx 22 5 ha' hn hc' 0 0 Try.underlying22
      go_upto_region 12 with fail
      go_cut [17] (fun s17 wx => s17 = .bool true ∧ w7 = wx)
      case first =>
        cases la' with
        | none =>
          go_wp2_with fail
          go_meet
          exact ⟨rfl, rfl⟩
        | some x =>
          have h1 := HFL.out
          rw [HLA.out] at h1
          cases h1
      case rest =>
        obtain ⟨rfl, hw7⟩ := hcut
        subst hw7
        clear HLW
        go_upto_if 103 with fail
        go_cut [18] (fun s18 wx => s18 = .bool (lowerV la'.isSome lx L P K) ∧ Below w7.heap.size w7 wx)
        case first =>
          cases la' with
          | none =>
            go_wp2_with fail
            refine (cmp_any ka' pa' kn pn kc' pc' K P w7 hK8 hP8 (by omega) (by omega)).mono ?_
            rintro e w8 ⟨rfl, hb⟩
            have HV : Hid (lowerV false lx L P K = decide (0 ≤ cmpL K P)) := rfl
            generalize cmpL K P = z at *
            go_wp2_with fail
            go_meet
            exact ⟨congrArg Value.bool HV.out.symm, hb⟩
          | some x =>
            have h1 := HFL.out
            rw [HLA.out] at h1
            cases h1
        case rest =>
          obtain ⟨rfl, b8⟩ := hcut
          have hK8b := hK8.below b8
          have hP8b := hP8.below b8
          have hPH8b := hPH.below b8
          have hbl9 := hbl8.below b8
          have hbu9 := hbu8.below b8
          have hrr9 : wc.heap[w5.heap.size]? = some (.cells #[.pointer pl, .pointer pu, .bool false, .int .i64 0] 27 (0, 0)) := (b8.block _ (lt_block hrr)).trans hrr
          have B9 : Below w0.heap.size w0 wc := B8.trans (b8.mono B8.size)
          clear hK8 hP8 hPH hPL7 hbl8 hbu8 hrr B8 b8 hqn hqe
          generalize lowerV la'.isSome lx L P K = V1 at *
          go_upto_if 125 with fail
          go_cut [19] (fun s19 wx => s19 = .bool (upperV ha'.isSome hx H P K) ∧ Below wc.heap.size wc wx)
          case first =>
            cases ha' with
            | none =>
              go_wp2_with fail
              refine (cmp_any ka' pa' kn pn kc' pc' K P wc hK8b hP8b (by omega) (by omega)).mono ?_
              rintro e w8 ⟨rfl, hb⟩
              have HV : Hid (upperV false hx H P K = (decide (cmpL K P < 0) || pre P K)) := rfl
              generalize cmpL K P = z at *
              by_cases hz : z < 0
              · have HW : Hid (upperV false hx H P K = true) := show _ = _ by rw [HV.out]; simp [hz]
                go_wp2_with fail
                go_meet
                exact ⟨congrArg Value.bool HW.out.symm, hb⟩
              · have dz : decide (z < 0) = false := by simpa using hz
                have HW : Hid (upperV false hx H P K = pre P K) := show _ = _ by rw [HV.out, dz]; rfl
                go_wp2_with fail
                refine (pre_any ka' pa' kn pn kc' pc' K P w8 (hK8b.below hb) (hP8b.below hb) (by omega) (by omega)).mono ?_
                rintro e w9 ⟨rfl, hb2⟩
                have hb3 := hb.trans (hb2.mono hb.size)
                generalize pre P K = y at *
                go_wp2_with fail
                go_meet
                exact ⟨congrArg Value.bool HW.out.symm, hb3⟩
            | some x =>
              have h1 := HFH.out
              rw [HHA.out] at h1
              cases h1
          case rest =>
            obtain ⟨rfl, b9⟩ := hcut
            have hKz := hK8b.below b9
            have hblz := hbl9.below b9
            have hbuz := hbu9.below b9
            have hrrz : wc.heap[w5.heap.size]? = some (.cells #[.pointer pl, .pointer pu, .bool false, .int .i64 0] 27 (0, 0)) := (b9.block _ (lt_block hrr9)).trans hrr9
            have Bz : Below w0.heap.size w0 wc := B9.trans (b9.mono B9.size)
            clear hK8b hP8b hPH8b hbl9 hbu9 hrr9 B9 b9 hqh
            generalize upperV ha'.isSome hx H P K = V2 at *
            have c0 : wc.cell? ⟨w5.heap.size, 0, none⟩ = some (.pointer pl) := by rw [cell_of_row _ _ _ _ _ _ hrrz]; rfl
            have c1 : wc.cell? ⟨w5.heap.size, 1, none⟩ = some (.pointer pu) := by rw [cell_of_row _ _ _ _ _ _ hrrz]; rfl
            have c2 : wc.cell? ⟨w5.heap.size, 2, none⟩ = some (.bool false) := by rw [cell_of_row _ _ _ _ _ _ hrrz]; rfl
            have c3 : wc.cell? ⟨w5.heap.size, 3, none⟩ = some (.int .i64 0) := by rw [cell_of_row _ _ _ _ _ _ hrrz]; rfl
            clear hrrz
            go_wp2_with fail
            refine (inRange_any pl pu ka' kn kc' K l up wc hblz hbuz hKz (by omega)).mono ?_
            rintro e w9 ⟨rfl, hb⟩
            have Bf : Below w0.heap.size w0 w9 := Bz.trans (hb.mono Bz.size)
            rw [HI1.out, HI2.out]
            clear HI1 HI2 c0 c1 c2 c3 hKz hblz hbuz Bz hb
            cases V1 with
            | true =>
              go_wp2_with fail
              go_ret
              exact ⟨rfl, Bf⟩
            | false =>
              go_wp2_with fail
              go_ret
              exact ⟨rfl, Bf⟩


end Go.Proofs.Qxb6000023a
