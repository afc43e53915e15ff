import Derived.Test.Qxb6601515aRows
import Derived.WalkKit
import Derived.ProofKit
import Derived.OpenShut
import Derived.ShutString
import Derived.ChangeOld
import Derived.Below
import Derived.WalkSpells
import Derived.WalkLawsBesides
import Derived.Laws.CopyOwn
namespace Go.Proofs.Qxb6601515a
open Go.ChangeShapes Go.WideShapes Go.ChangeAt Go.RowKit
set_option linter.unusedVariables false

/-- The value of a hexadecimal digit; -1 of any other byte. -/
def dv (c : Int) : Int := if 48 ≤ c ∧ c ≤ 57 then c - 48 else if 97 ≤ c ∧ c ≤ 102 then c - 87 else if 65 ≤ c ∧ c ≤ 70 then c - 55 else -1

theorem dv_range (c : Int) : -1 ≤ dv c ∧ dv c ≤ 15 := by unfold dv; omega

def dval (c : Int) : Int := if dv c = -1 then 0 else dv c
def dok (c : Int) : Bool := decide (dv c ≠ -1)

def digs : List UInt8 := [48, 49, 50, 51, 52, 53, 54, 55, 56, 57, 97, 98, 99, 100, 101, 102, 65, 66, 67, 68, 69, 70]

theorem byte_at (t : ByteArray) (k : Nat) (h : k < t.size) : t.data.toList[k]? = some t[k] := by
  have hl : t.data.toList.length = t.size := rfl
  rw [List.getElem?_eq_getElem (by omega)]
  rfl

theorem digs_at (k : Nat) (hk : k < (ByteArray.mk #[48, 49, 50, 51, 52, 53, 54, 55, 56, 57, 97, 98, 99, 100, 101, 102, 65, 66, 67, 68, 69, 70]).size) :
    (ByteArray.mk #[48, 49, 50, 51, 52, 53, 54, 55, 56, 57, 97, 98, 99, 100, 101, 102, 65, 66, 67, 68, 69, 70])[k] = digs.getD k 0 := by
  have h := byte_at _ k hk
  rw [List.getD_eq_getElem?_getD]
  have e : digs[k]? = (ByteArray.mk #[48, 49, 50, 51, 52, 53, 54, 55, 56, 57, 97, 98, 99, 100, 101, 102, 65, 66, 67, 68, 69, 70]).data.toList[k]? := rfl
  rw [e, h]
  rfl

theorem digs_dv : ∀ k : Fin 22, dval ((digs.getD k 0).toNat : Int) = (if k.val < 16 then (k.val : Int) else (k.val : Int) - 6) ∧ dok ((digs.getD k 0).toNat : Int) = true := by decide

theorem found {k : Nat} {c : Int} (hk : k < (ByteArray.mk #[48, 49, 50, 51, 52, 53, 54, 55, 56, 57, 97, 98, 99, 100, 101, 102, 65, 66, 67, 68, 69, 70]).size)
    (h : (((ByteArray.mk #[48, 49, 50, 51, 52, 53, 54, 55, 56, 57, 97, 98, 99, 100, 101, 102, 65, 66, 67, 68, 69, 70])[k].toNat : Int) == c) = true) :
    dval c = (if k < 16 then (k : Int) else (k : Int) - 6) ∧ dok c = true := by
  rw [digs_at, beq_iff_eq] at h
  subst h
  exact digs_dv ⟨k, hk⟩

theorem none_found {c : Int} (h : ∀ j, j < 22 → ((digs.getD j 0).toNat : Int) ≠ c) : dval c = 0 ∧ dok c = false := by
  have g : ∀ j : Nat, j < 22 → ((digs.getD j 0).toNat : Int) ≠ c := h
  have e : dv c = -1 := by
    have h0 : (48 : Int) ≠ c := g 0 (by omega)
    have h1 : (49 : Int) ≠ c := g 1 (by omega)
    have h2 : (50 : Int) ≠ c := g 2 (by omega)
    have h3 : (51 : Int) ≠ c := g 3 (by omega)
    have h4 : (52 : Int) ≠ c := g 4 (by omega)
    have h5 : (53 : Int) ≠ c := g 5 (by omega)
    have h6 : (54 : Int) ≠ c := g 6 (by omega)
    have h7 : (55 : Int) ≠ c := g 7 (by omega)
    have h8 : (56 : Int) ≠ c := g 8 (by omega)
    have h9 : (57 : Int) ≠ c := g 9 (by omega)
    have ha : (97 : Int) ≠ c := g 10 (by omega)
    have hb : (98 : Int) ≠ c := g 11 (by omega)
    have hc : (99 : Int) ≠ c := g 12 (by omega)
    have hd : (100 : Int) ≠ c := g 13 (by omega)
    have he : (101 : Int) ≠ c := g 14 (by omega)
    have hf : (102 : Int) ≠ c := g 15 (by omega)
    have hA : (65 : Int) ≠ c := g 16 (by omega)
    have hB : (66 : Int) ≠ c := g 17 (by omega)
    have hC : (67 : Int) ≠ c := g 18 (by omega)
    have hD : (68 : Int) ≠ c := g 19 (by omega)
    have hE : (69 : Int) ≠ c := g 20 (by omega)
    have hF : (70 : Int) ≠ c := g 21 (by omega)
    unfold dv
    rw [if_neg (by omega), if_neg (by omega), if_neg (by omega)]
  simp [dval, dok, e]

theorem ret2 {k : IntKind} {a b : Int} {x y : Bool} (h : a = b) (h' : x = y) : Ending.returned (.tuple #[.int k a, .bool x]) = .returned (.tuple #[.int k b, .bool y]) := by rw [h, h']

set_option maxHeartbeats 400000 in
theorem digit_any (c : Int) (w : World) (h0 : 0 ≤ c) (h1 : c ≤ 255) :
    Calls Try.prog 11 #[.int .u8 c] w fun e w' => e = .returned (.tuple #[.int .i32 (dval c), .bool (dok c)]) ∧ w' = w := by
  go_enter Try.func11, Try.ntmps11
  go_wp2
  go_loop [4] (fun i => ∃ k : Nat, k ≤ 22 ∧ i = .int .i64 k ∧ Hid (∀ j, j < k → ((digs.getD j 0).toNat : Int) ≠ c)) (fun i => 22 - (intOf i).toNat)
  case atStart => exact ⟨0, Nat.zero_le _, rfl, fun j h => absurd h (by omega)⟩
  case round =>
    obtain ⟨k, hk, rfl, hn⟩ := hrel
    by_cases hlt : k < 22
    · have hq := fun h => found (k := k) (c := c) hlt h
      have HQ : Hid _ := hq
      clear hq
      go_wp2
      · go_ret2
        have hf := HQ.out ‹_›
        rw [if_pos (by omega)] at hf
        exact ⟨ret2 hf.1.symm hf.2.symm, rfl⟩
      · go_ret2
        have hf := HQ.out ‹_›
        rw [if_neg (by omega)] at hf
        exact ⟨ret2 hf.1.symm hf.2.symm, rfl⟩
      · go_round
        case rel =>
          refine ⟨k + 1, by omega, by go_num, fun j hj => ?_⟩
          by_cases e : j = k
          · subst e
            rw [← digs_at j hlt]
            have hne : ((((ByteArray.mk #[48, 49, 50, 51, 52, 53, 54, 55, 56, 57, 97, 98, 99, 100, 101, 102, 65, 66, 67, 68, 69, 70])[j]'hlt).toNat : Int) == c) = false := by assumption
            exact beq_eq_false_iff_ne.1 hne
          · exact hn.out j (by omega)
        case measure => simp [intOf]; omega
    · obtain rfl : k = 22 := by omega
      go_wp2
      go_ret2
      have hf := none_found hn.out
      exact ⟨ret2 hf.1.symm hf.2.symm, rfl⟩

/-- A slice value (its address, its length) leads to the bytes zs in w. -/
structure Bytes (w : World) (a : Option Addr) (n : Nat) (zs : List Int) : Prop where
  long : zs.length = n
  at' : ∀ i, i < n → ∃ b off, a = some ⟨b, off, none⟩ ∧ w.cell? ⟨b, off + i, none⟩ = some (.int .u8 (zs.getD i 0))
  range : ∀ i, 0 ≤ zs.getD i 0 ∧ zs.getD i 0 ≤ 255

theorem Bytes.below {w w' : World} {a : Option Addr} {n : Nat} {zs : List Int} (h : Bytes w a n zs) (hb : Below w.heap.size w w') : Bytes w' a n zs := by
  refine ⟨h.long, fun i hi => ?_, h.range⟩
  obtain ⟨b, off, ha, hc⟩ := h.at' i hi
  exact ⟨b, off, ha, (hb.cell (World.block_lt_of_cell? w _ hc)).trans hc⟩

theorem Bytes.plain {w : World} {a : Option Addr} {n : Nat} {zs : List Int} (h : Bytes w a n zs) (hp : 0 < n) :
    ∃ b off, a = some ⟨b, off, none⟩ ∧ b < w.heap.size ∧ ∀ i, i < n → w.cell? ⟨b, off + i, none⟩ = some (.int .u8 (zs.getD i 0)) := by
  obtain ⟨b, off, rfl, hc⟩ := h.at' 0 hp
  refine ⟨b, off, rfl, World.block_lt_of_cell? w _ hc, fun i hi => ?_⟩
  obtain ⟨b', off', e, hc'⟩ := h.at' i hi
  simp at e
  obtain ⟨rfl, rfl⟩ := e
  exact hc'

/-- What the digits read so far come to. -/
def acc (zs : List Int) : Nat → Int
  | 0 => 0
  | k + 1 => acc zs k * 16 + dval (zs.getD k 0)
def hok (zs : List Int) : Bool := dok (zs.getD 0 0) && dok (zs.getD 1 0) && dok (zs.getD 2 0) && dok (zs.getD 3 0)
def hval (zs : List Int) : Int := if hok zs = true then acc zs 4 else 0

theorem dval_range (c : Int) : 0 ≤ dval c ∧ dval c ≤ 15 := by
  have := dv_range c
  unfold dval
  split <;> omega
theorem acc_range (zs : List Int) : 0 ≤ acc zs 0 ∧ acc zs 0 ≤ 0 ∧ 0 ≤ acc zs 1 ∧ acc zs 1 ≤ 15 ∧ 0 ≤ acc zs 2 ∧ acc zs 2 ≤ 255 ∧ 0 ≤ acc zs 3 ∧ acc zs 3 ≤ 4095 ∧ 0 ≤ acc zs 4 ∧ acc zs 4 ≤ 65535 := by
  have h0 := dval_range (zs.getD 0 0)
  have h1 := dval_range (zs.getD 1 0)
  have h2 := dval_range (zs.getD 2 0)
  have h3 := dval_range (zs.getD 3 0)
  simp only [acc]
  omega
theorem acc_lt (zs : List Int) (k : Nat) (h : k < 4) : 0 ≤ acc zs k ∧ acc zs k ≤ 4095 := by
  have := acc_range zs
  match k, h with
  | 0, _ => omega
  | 1, _ => omega
  | 2, _ => omega
  | 3, _ => omega

theorem i32_or4 (x y : Int) (hx₀ : 0 ≤ x) (hx₁ : x ≤ 4095) (h₀ : 0 ≤ y) (h₁ : y ≤ 15) : bits .or .i32 (x * 16) y = x * 16 + y :=
  bits_join .i32 31 (by decide) wraps_i32 4 (x * 16) y (by omega) (by show x * 16 % 16 = 0; omega) (by show x * 16 < 2147483648; omega) h₀ (by show y < 16; omega) (by show y < 2147483648; omega)

theorem hok_all {zs : List Int} (h : ∀ j, j < 4 → dok (zs.getD j 0) = true) : hok zs = true := by
  simp only [hok, h 0 (by omega), h 1 (by omega), h 2 (by omega), h 3 (by omega), Bool.and_self]
theorem hok_no {zs : List Int} {k : Nat} (hk : k < 4) (h : dok (zs.getD k 0) = false) : hok zs = false := by
  match k, hk, h with
  | 0, _, h => simp only [hok, h, Bool.false_and]
  | 1, _, h => simp only [hok, h, Bool.false_and, Bool.and_false]
  | 2, _, h => simp only [hok, h, Bool.false_and, Bool.and_false]
  | 3, _, h => simp only [hok, h, Bool.and_false]

theorem dig_num {c : Int} (h : 48 ≤ c) (h' : c ≤ 57) : dval c = c - 48 ∧ dok c = true := by
  have e : dv c = c - 48 := by unfold dv; rw [if_pos ⟨h, h'⟩]
  constructor
  · rw [dval, e, if_neg (by omega)]
  · rw [dok, e]; simp; omega
theorem dig_low {c : Int} (h : 97 ≤ c) (h' : c ≤ 102) : dval c = c - 97 + 10 ∧ dok c = true := by
  have e : dv c = c - 87 := by unfold dv; rw [if_neg (by omega), if_pos ⟨h, h'⟩]
  constructor
  · rw [dval, e, if_neg (by omega)]; omega
  · rw [dok, e]; simp; omega
theorem dig_up {c : Int} (h : 65 ≤ c) (h' : c ≤ 70) : dval c = c - 65 + 10 ∧ dok c = true := by
  have e : dv c = c - 55 := by unfold dv; rw [if_neg (by omega), if_neg (by omega), if_pos ⟨h, h'⟩]
  constructor
  · rw [dval, e, if_neg (by omega)]; omega
  · rw [dok, e]; simp; omega
theorem dig_not {c : Int} (h1 : ¬ (48 ≤ c ∧ c ≤ 57)) (h2 : ¬ (97 ≤ c ∧ c ≤ 102)) (h3 : ¬ (65 ≤ c ∧ c ≤ 70)) : dok c = false := by
  have e : dv c = -1 := by unfold dv; rw [if_neg h1, if_neg h2, if_neg h3]
  rw [dok, e]; rfl
theorem ok_step {zs : List Int} {k : Nat} {c : Int} (h : ∀ j, j < k → dok (zs.getD j 0) = true) (hc : c = zs.getD k 0) (hd : dok c = true) : ∀ j, j < k + 1 → dok (zs.getD j 0) = true := by
  intro j hj
  by_cases e : j = k
  · subst e; rw [← hc]; exact hd
  · exact h j (by omega)

set_option maxHeartbeats 800000 in
theorem hex4_long (a : Option Addr) (n cap : Nat) (zs : List Int) (w : World) (hs : Bytes w a n zs) (h4 : 4 ≤ n) (hl : n ≤ cap) (hc : n ≤ 4194304) :
    Calls Try.prog 22 #[.slice a n cap] w fun e w' => e = .returned (.tuple #[.int .i32 (hval zs), .bool (hok zs)]) ∧ w' = w := by
  obtain ⟨b, off, rfl, hlt, hcell⟩ := hs.plain (by omega)
  have d4 : decide ((n : Int) < 4) = false := by simp; omega
  go_enter Try.func22, Try.ntmps22
  go_wp2
  go_loop [2, 13] (fun v i => ∃ k : Nat, k ≤ 4 ∧ i = .int .i64 k ∧ v = .int .i32 (acc zs k) ∧ Hid (∀ j, j < k → dok (zs.getD j 0) = true)) (fun _ i => 4 - (intOf i).toNat)
  case atStart => exact ⟨0, Nat.zero_le _, rfl, rfl, fun j h => absurd h (by omega)⟩
  case round =>
    obtain ⟨k, hk, rfl, rfl, hok⟩ := hrel
    by_cases hlt : k < 4
    · have c1 := hcell k (by omega)
      have hr := hs.range k
      have ha := acc_lt zs k hlt
      have HA : Hid (acc zs (k + 1) = acc zs k * 16 + dval (zs.getD k 0)) := rfl
      obtain ⟨c, hcx⟩ : ∃ c, c = zs.getD k 0 := ⟨_, rfl⟩
      have HCX : Hid _ := hcx
      rw [← hcx] at c1 hr HA
      clear hcx
      obtain ⟨v, hv⟩ : ∃ v, v = acc zs k := ⟨_, rfl⟩
      have HV : Hid _ := hv
      rw [← hv] at ha HA ⊢
      clear hv hcell
      by_cases q1 : 48 ≤ c ∧ c ≤ 57
      · obtain ⟨q2, q3⟩ := q1
        have E := dig_num q2 q3
        have HE : Hid _ := E
        clear E
        have HO : Hid _ := i32_or4 v (c - 48) ha.1 ha.2 (by omega) (by omega)
        go_wp2
        go_round
        case rel => exact ⟨k + 1, by omega, by go_num, by rw [HO.out, HA.out, HE.out.1], ok_step hok.out HCX.out HE.out.2⟩
        case measure => simp [intOf]; omega
      by_cases q4 : 97 ≤ c ∧ c ≤ 102
      · obtain ⟨q2, q3⟩ := q4
        have E := dig_low q2 q3
        have HE : Hid _ := E
        clear E q1
        have HO : Hid _ := i32_or4 v (c - 97 + 10) ha.1 ha.2 (by omega) (by omega)
        go_wp2
        go_round
        case rel => exact ⟨k + 1, by omega, by go_num, by rw [HO.out, HA.out, HE.out.1], ok_step hok.out HCX.out HE.out.2⟩
        case measure => simp [intOf]; omega
      by_cases q5 : 65 ≤ c ∧ c ≤ 70
      · obtain ⟨q2, q3⟩ := q5
        have E := dig_up q2 q3
        have HE : Hid _ := E
        clear E q1 q4
        have HO : Hid _ := i32_or4 v (c - 65 + 10) ha.1 ha.2 (by omega) (by omega)
        go_wp2
        go_round
        case rel => exact ⟨k + 1, by omega, by go_num, by rw [HO.out, HA.out, HE.out.1], ok_step hok.out HCX.out HE.out.2⟩
        case measure => simp [intOf]; omega
      have E := dig_not q1 q4 q5
      have HE : Hid _ := hok_no (zs := zs) hlt (by rw [← HCX.out]; exact E)
      clear E
      go_wp2
      all_goals first | (exfalso; omega) | skip
      all_goals
        go_ret2
        exact ⟨ret2 (by rw [hval, HE.out]; rfl) HE.out.symm, rfl⟩
    · obtain rfl : k = 4 := by omega
      have HE : Hid _ := hok_all hok.out
      clear hcell
      go_wp2
      go_ret2
      exact ⟨ret2 (by rw [hval, if_pos HE.out]) HE.out.symm, rfl⟩

set_option maxHeartbeats 400000 in
theorem hex4_short (a : Option Addr) (n cap : Nat) (w : World) (h4 : n < 4) :
    Calls Try.prog 22 #[.slice a n cap] w fun e w' => e = .returned (.tuple #[.int .i32 0, .bool false]) ∧ w' = w := by
  go_enter Try.func22, Try.ntmps22
  go_wp2
  go_ret2
  exact ⟨rfl, rfl⟩

set_option maxHeartbeats 400000 in
theorem zzhex4_long (a : Option Addr) (n cap : Nat) (zs : List Int) (w : World) (hs : Bytes w a n zs) (h4 : 4 ≤ n) (hl : n ≤ cap) (hc : n ≤ 4194304) :
    Calls Try.prog 10 #[.slice a n cap] w fun e w' => e = .returned (.tuple #[.int .i32 (hval zs), .bool (hok zs)]) ∧ w' = w := by
  go_enter Try.func10, Try.ntmps10
  go_wp2_with fail
  refine (hex4_long a n cap zs w hs h4 hl hc).mono ?_
  rintro e w' ⟨rfl, rfl⟩
  go_wp2
  go_ret2
  exact ⟨rfl, rfl⟩

set_option maxHeartbeats 400000 in
theorem zzhex4_short (a : Option Addr) (n cap : Nat) (w : World) (h4 : n < 4) :
    Calls Try.prog 10 #[.slice a n cap] w fun e w' => e = .returned (.tuple #[.int .i32 0, .bool false]) ∧ w' = w := by
  go_enter Try.func10, Try.ntmps10
  go_wp2_with fail
  refine (hex4_short a n cap w h4).mono ?_
  rintro e w' ⟨rfl, rfl⟩
  go_wp2
  go_ret2
  exact ⟨rfl, rfl⟩

end Go.Proofs.Qxb6601515a
