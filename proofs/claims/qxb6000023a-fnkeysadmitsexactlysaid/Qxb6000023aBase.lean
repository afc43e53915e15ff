import Derived.Test.Qxb6000023aRows
import Derived.Test.Qxb6000023aPlain
import Derived.WalkKit
import Derived.ProofKit
import Derived.OpenShut
import Derived.ShutString
import Derived.ChangeOld
import Derived.Below
import Derived.WalkSpells
import Derived.WalkLawsBesides
import Derived.Deep.QuietTactic
import Derived.BigQuiet
namespace Go.Proofs.Qxb6000023a
open Go.ChangeShapes Go.WideShapes Go.ChangeAt Go.RowKit
set_option linter.unusedVariables false

/-- A slice value (its address, its length) leads to the bytes zs in w. -/
structure Bytes (w : World) (a : Option Addr) (n : Nat) (zs : List Int) : Prop where
  long : zs.length = n
  at' : ∀ i, i < n → ∃ b off, a = some ⟨b, off, none⟩ ∧ w.cell? ⟨b, off + i, none⟩ = some (.int .u8 (zs.getD i 0))
  range : ∀ i, 0 ≤ zs.getD i 0 ∧ zs.getD i 0 ≤ 255

theorem Bytes.below {w w' : World} {a : Option Addr} {n : Nat} {zs : List Int} (h : Bytes w a n zs) (hb : Below w.heap.size w w') : Bytes w' a n zs := by
  refine ⟨h.long, fun i hi => ?_, h.range⟩
  obtain ⟨b, off, ha, hc⟩ := h.at' i hi
  exact ⟨b, off, ha, (hb.cell (World.block_lt_of_cell? w _ hc)).trans hc⟩

theorem Bytes.plain {w : World} {a : Option Addr} {n : Nat} {zs : List Int} (h : Bytes w a n zs) (hp : 0 < n) :
    ∃ b off, a = some ⟨b, off, none⟩ ∧ b < w.heap.size ∧ ∀ i, i < n → w.cell? ⟨b, off + i, none⟩ = some (.int .u8 (zs.getD i 0)) := by
  obtain ⟨b, off, rfl, hc⟩ := h.at' 0 hp
  refine ⟨b, off, rfl, World.block_lt_of_cell? w _ hc, fun i hi => ?_⟩
  obtain ⟨b', off', e, hc'⟩ := h.at' i hi
  simp at e
  obtain ⟨rfl, rfl⟩ := e
  exact hc'

theorem Try.info5 : (Try.prog.info? 5).map (fun i => (i.zero, i.size, i.bytes)) = some (some (.int .u8 0), 1, 1) := by kernel_rfl
theorem Try.size5 : (Try.prog.info? 5).map (·.size) = some 1 := by kernel_rfl

theorem row_of_own {w : World} {base e g n : Nat} {xs : List Value} (h : w.ownsRow base e 1 (.slice (some ⟨g, 0, none⟩) n n) n xs) : w.heap[g]? = some (.cells xs.toArray e (0, 0)) := by
  rcases h.2 with ⟨h', _⟩ | ⟨g', cap', cur, h', _, hg, _, _, hcs, htake⟩
  · simp at h'
  · simp only [Value.slice.injEq, Option.some.injEq, Addr.mk.injEq, and_true, true_and] at h'
    obtain ⟨rfl, rfl⟩ := h'
    rw [List.take_of_length_le (by simp; omega)] at htake
    rw [hg, ← htake]

theorem bytes_of_row {w : World} {e g n : Nat} {zs : List Int} (hn : zs.length = n) (hr : ∀ i, 0 ≤ zs.getD i 0 ∧ zs.getD i 0 ≤ 255) (h : w.heap[g]? = some (.cells (zs.map (Value.int .u8)).toArray e (0, 0))) : Bytes w (some ⟨g, 0, none⟩) n zs := by
  refine ⟨hn, fun i hi => ⟨g, 0, rfl, ?_⟩, hr⟩
  rw [Nat.zero_add, cell_of_row w g i _ e (0, 0) h]
  simp [hn, hi]

theorem Bytes.src {w : World} {x : Addr} {n : Nat} {zs : List Int} (h : Bytes w (some x) n zs) : ∀ j v, (zs.map (Value.int .u8))[j]? = some v → w.cell? (x.add j) = some v := by
  intro j v hv
  rw [List.getElem?_map, Option.map_eq_some_iff] at hv
  obtain ⟨s, hs, rfl⟩ := hv
  have hj := (List.getElem?_eq_some_iff.1 hs).1
  obtain ⟨b, off, hx, hc⟩ := h.at' j (by rw [← h.long]; exact hj)
  simp only [Option.some.injEq] at hx
  subst hx
  rw [Go.WideShapes.add_plain, hc, List.getD_eq_getElem?_getD, hs]
  rfl

/-- A slice of bytes that came in. -/
theorem came {H : Type} {enc : TypeId × Value → H} {W : World} {held : Bool} {a : Option Addr} {n cap : Nat} {d : DataW H} {p : List MemPlace}
    (h : DataW.Trod enc Try.prog W 0 (fun _ => true) held 22 (.slice a n cap) d p) : ∃ zs, Bytes W a n zs ∧ n ≤ cap ∧ cap ≤ maxLen := by
  obtain ⟨fuel, hf⟩ := h
  rcases open_ints Try.underlying22 Try.underlying5 (by kernel_rfl) hf with ⟨hcs, _⟩ | ⟨x, l, c, zs, hcs, _, hl, hm, hz, _, hcell, hwz⟩
  · simp [Value.cells] at hcs
    obtain ⟨rfl, rfl, rfl⟩ := hcs
    exact ⟨[], ⟨rfl, fun i hi => absurd hi (by simp), fun i => by simp⟩, Nat.le_refl _, Nat.zero_le _⟩
  · simp [Value.cells] at hcs
    obtain ⟨rfl, rfl, rfl⟩ := hcs
    simp only [if_true] at hz
    refine ⟨zs.take n, ⟨by simp; omega, fun i hi => ?_, fun i => ?_⟩, hl, hm⟩
    · obtain ⟨b, off, spot⟩ := x
      have h0 := hcell i (by omega)
      have hspot : spot = none := by simpa [Addr.add] using World.cell?_spot (hcell 0 (by omega))
      subst hspot
      refine ⟨b, off, rfl, ?_⟩
      rw [Go.WideShapes.add_plain] at h0
      rw [h0]
      simp [hi]
    · have hw := range_u8 hwz i
      rw [List.getD_eq_getElem?_getD, List.getElem?_take]
      split
      · exact hw
      · simp


set_option maxHeartbeats 400000 in
theorem allFF_any (a : Option Addr) (n cap : Nat) (zs : List Int) (w : World) (hs : Bytes w a n zs) (hn : n ≤ 2097152) :
    Calls Try.prog 10 #[.slice a n cap] w fun e w' => e = .returned (.bool (allF zs)) ∧ w' = w := by
  go_enter Try.func10, Try.ntmps10
  go_wp2
  go_loop [3] (fun i => ∃ k : Nat, k ≤ n ∧ i = .int .i64 k ∧ Hid (allF zs = allF (zs.drop k))) (fun i => n - (intOf i).toNat)
  case atStart => exact ⟨0, Nat.zero_le _, rfl, rfl⟩
  case round =>
    obtain ⟨k, hk, rfl, hq⟩ := hrel
    by_cases hlt : k < n
    · obtain ⟨b, off, rfl, hcell⟩ := hs.at' k hlt
      have HD : Hid _ := allF_drop zs k (by rw [hs.long]; exact hlt)
      obtain ⟨c, hc⟩ : ∃ c, c = zs.getD k 0 := ⟨_, rfl⟩
      rw [← hc] at hcell HD
      clear hc
      by_cases h : c = 255
      · have h' : (c != 255) = false := by simpa using h
        have H : Hid _ := h
        clear h
        go_wp2
        go_round
        case rel => exact ⟨k + 1, by omega, by go_num, by show _ = _; rw [hq.out, HD.out, H.out]; simp⟩
        case measure => simp [intOf]; omega
      · have h' : (c != 255) = true := by simpa using h
        have H : Hid (allF zs = false) := by
          show _ = _
          rw [hq.out, HD.out]
          simp [h]
        clear h
        go_wp2
        go_ret
        exact ⟨by rw [H.out]; rfl, rfl⟩
    · have H : Hid (allF zs = true) := by
        show _ = _
        rw [hq.out, List.drop_of_length_le (by rw [hs.long]; omega)]
        rfl
      go_wp2
      go_ret
      exact ⟨by rw [H.out]; rfl, rfl⟩

theorem ret1 {k : IntKind} {a b : Int} (h : a = b) : Ending.returned (.int k a) = .returned (.int k b) := by rw [h]
theorem retb {a b : Bool} (h : a = b) : Ending.returned (.bool a) = .returned (.bool b) := by rw [h]

theorem cmpL_end (A B : List Int) (k : Nat) (h : A.length ≤ k ∨ B.length ≤ k) (ha : k ≤ A.length) (hb : k ≤ B.length) : cmpL (A.drop k) (B.drop k) = if A.length < B.length then -1 else if B.length < A.length then 1 else 0 := by
  by_cases h1 : A.length < B.length
  · obtain rfl : k = A.length := by omega
    rw [if_pos h1, List.drop_of_length_le (Nat.le_refl _), List.drop_eq_getElem_cons h1]
    rfl
  · rw [if_neg h1]
    by_cases h2 : B.length < A.length
    · obtain rfl : k = B.length := by omega
      rw [if_pos h2, List.drop_of_length_le (l := B) (Nat.le_refl _), List.drop_eq_getElem_cons h2]
      rfl
    · rw [if_neg h2, List.drop_of_length_le (by omega), List.drop_of_length_le (by omega)]
      rfl

set_option maxHeartbeats 800000 in
theorem cmp_le (a b : Option Addr) (n m ca cb : Nat) (A B : List Int) (w : World) (hs : Bytes w a n A) (ht : Bytes w b m B) (hn : n ≤ 2097152) (hm : m ≤ 2097152) (h1 : n ≤ m) :
    Calls Try.prog 11 #[.slice a n ca, .slice b m cb] w fun e w' => e = .returned (.int .i64 (cmpL A B)) ∧ Below w.heap.size w w' := by
  have d0 : decide (m < n) = false := by simp; omega
  go_enter Try.func11, Try.ntmps11
  go_wp2
  go_loopw [6] (fun i wr => ∃ k : Nat, k ≤ n ∧ i = .int .i64 k ∧ Hid (cmpL A B = cmpL (A.drop k) (B.drop k)) ∧ Below w.heap.size w wr) (fun i _ => n - (intOf i).toNat)
  case atStart => exact ⟨0, Nat.zero_le _, rfl, rfl, Below.refl _ _⟩
  case round =>
    obtain ⟨k, hk, rfl, hq, hbel⟩ := hrel
    by_cases hlt : k < n
    · obtain ⟨b1, off1, rfl, hc1⟩ := (hs.below hbel).at' k (by omega)
      obtain ⟨b2, off2, rfl, hc2⟩ := (ht.below hbel).at' k (by omega)
      have HD : Hid _ := cmpL_drop A B k (by rw [hs.long]; omega) (by rw [ht.long]; omega)
      have r1 := hs.range k
      have r2 := ht.range k
      have i1 : (k : Int) < (n : Int) := by omega
      have i2 : (k : Int) < (m : Int) := by omega
      obtain ⟨x, hx⟩ : ∃ x, x = A.getD k 0 := ⟨_, rfl⟩
      obtain ⟨y, hy⟩ : ∃ y, y = B.getD k 0 := ⟨_, rfl⟩
      rw [← hx] at hc1 HD r1
      rw [← hy] at hc2 HD r2
      clear hx hy hs ht
      by_cases hxy : x < y
      · have HE : Hid (cmpL A B = -1) := show _ = _ by rw [hq.out, HD.out, if_pos hxy]
        go_wp2
        go_quiet (fail)
        go_wp2
        go_ret
        exact ⟨ret1 HE.out.symm, below_drewN hbel _⟩
      by_cases hyx : y < x
      · have HE : Hid (cmpL A B = 1) := show _ = _ by rw [hq.out, HD.out, if_neg hxy, if_pos hyx]
        have dxy : decide (x < y) = false := by simpa using hxy
        go_wp2
        go_quiet (fail)
        go_wp2
        go_quiet (fail)
        go_wp2
        go_ret
        exact ⟨ret1 HE.out.symm, below_drewN (below_drewN hbel _) _⟩
      · have HE : Hid (cmpL A B = cmpL (A.drop (k + 1)) (B.drop (k + 1))) := show _ = _ by rw [hq.out, HD.out, if_neg hxy, if_neg hyx]
        have dxy : decide (x < y) = false := by simpa using hxy
        have dyx : decide (y < x) = false := by simpa using hyx
        go_wp2
        go_quiet (fail)
        go_wp2
        go_quiet (fail)
        go_wp2
        go_roundw
        case rel => exact ⟨k + 1, by omega, by go_num, HE, below_drewN hbel _⟩
        case measure => simp [intOf]; omega
    · have HE := cmpL_end A B k (by rw [hs.long, ht.long]; omega) (by rw [hs.long]; omega) (by rw [ht.long]; omega)
      rw [← hq.out, hs.long, ht.long] at HE
      have HF : Hid _ := HE
      clear HE hq
      by_cases h2 : n < m
      · go_wp2
        go_ret
        exact ⟨ret1 (by rw [HF.out, if_pos h2]), hbel⟩
      · have d2 : decide (n < m) = false := by simpa using h2
        go_wp2
        go_ret
        exact ⟨ret1 (by rw [HF.out, if_neg h2, if_neg (by omega)]), hbel⟩

set_option maxHeartbeats 800000 in
theorem cmp_gt (a b : Option Addr) (n m ca cb : Nat) (A B : List Int) (w : World) (hs : Bytes w a n A) (ht : Bytes w b m B) (hn : n ≤ 2097152) (hm : m ≤ 2097152) (h1 : m < n) :
    Calls Try.prog 11 #[.slice a n ca, .slice b m cb] w fun e w' => e = .returned (.int .i64 (cmpL A B)) ∧ Below w.heap.size w w' := by
  have d0 : decide (m < n) = true := by simp; omega
  go_enter Try.func11, Try.ntmps11
  go_wp2
  go_loopw [6] (fun i wr => ∃ k : Nat, k ≤ m ∧ i = .int .i64 k ∧ Hid (cmpL A B = cmpL (A.drop k) (B.drop k)) ∧ Below w.heap.size w wr) (fun i _ => m - (intOf i).toNat)
  case atStart => exact ⟨0, Nat.zero_le _, rfl, rfl, Below.refl _ _⟩
  case round =>
    obtain ⟨k, hk, rfl, hq, hbel⟩ := hrel
    by_cases hlt : k < m
    · obtain ⟨b1, off1, rfl, hc1⟩ := (hs.below hbel).at' k (by omega)
      obtain ⟨b2, off2, rfl, hc2⟩ := (ht.below hbel).at' k (by omega)
      have HD : Hid _ := cmpL_drop A B k (by rw [hs.long]; omega) (by rw [ht.long]; omega)
      have r1 := hs.range k
      have r2 := ht.range k
      have i1 : (k : Int) < (n : Int) := by omega
      have i2 : (k : Int) < (m : Int) := by omega
      obtain ⟨x, hx⟩ : ∃ x, x = A.getD k 0 := ⟨_, rfl⟩
      obtain ⟨y, hy⟩ : ∃ y, y = B.getD k 0 := ⟨_, rfl⟩
      rw [← hx] at hc1 HD r1
      rw [← hy] at hc2 HD r2
      clear hx hy hs ht
      by_cases hxy : x < y
      · have HE : Hid (cmpL A B = -1) := show _ = _ by rw [hq.out, HD.out, if_pos hxy]
        go_wp2
        go_quiet (fail)
        go_wp2
        go_ret
        exact ⟨ret1 HE.out.symm, below_drewN hbel _⟩
      by_cases hyx : y < x
      · have HE : Hid (cmpL A B = 1) := show _ = _ by rw [hq.out, HD.out, if_neg hxy, if_pos hyx]
        have dxy : decide (x < y) = false := by simpa using hxy
        go_wp2
        go_quiet (fail)
        go_wp2
        go_quiet (fail)
        go_wp2
        go_ret
        exact ⟨ret1 HE.out.symm, below_drewN (below_drewN hbel _) _⟩
      · have HE : Hid (cmpL A B = cmpL (A.drop (k + 1)) (B.drop (k + 1))) := show _ = _ by rw [hq.out, HD.out, if_neg hxy, if_neg hyx]
        have dxy : decide (x < y) = false := by simpa using hxy
        have dyx : decide (y < x) = false := by simpa using hyx
        go_wp2
        go_quiet (fail)
        go_wp2
        go_quiet (fail)
        go_wp2
        go_roundw
        case rel => exact ⟨k + 1, by omega, by go_num, HE, below_drewN hbel _⟩
        case measure => simp [intOf]; omega
    · have HE := cmpL_end A B k (by rw [hs.long, ht.long]; omega) (by rw [hs.long]; omega) (by rw [ht.long]; omega)
      rw [← hq.out, hs.long, ht.long] at HE
      have HF : Hid _ := HE
      clear HE hq
      have d2 : decide (n < m) = false := by simp; omega
      go_wp2
      go_ret
      exact ⟨ret1 (by rw [HF.out, if_neg (by omega), if_pos h1]), hbel⟩

theorem cmp_any (a b : Option Addr) (n m ca cb : Nat) (A B : List Int) (w : World) (hs : Bytes w a n A) (ht : Bytes w b m B) (hn : n ≤ 2097152) (hm : m ≤ 2097152) :
    Calls Try.prog 11 #[.slice a n ca, .slice b m cb] w fun e w' => e = .returned (.int .i64 (cmpL A B)) ∧ Below w.heap.size w w' := by
  rcases Nat.lt_or_ge m n with h | h
  · exact cmp_gt a b n m ca cb A B w hs ht hn hm h
  · exact cmp_le a b n m ca cb A B w hs ht hn hm h

set_option maxHeartbeats 800000 in
/-- Does A (k) begin with B (p)? -/
theorem pre_any (a b : Option Addr) (n m ca cb : Nat) (A B : List Int) (w : World) (hs : Bytes w a n A) (ht : Bytes w b m B) (hn : n ≤ 2097152) (hm : m ≤ 2097152) :
    Calls Try.prog 12 #[.slice a n ca, .slice b m cb] w fun e w' => e = .returned (.bool (pre B A)) ∧ Below w.heap.size w w' := by
  by_cases h0 : n < m
  · have HE : Hid (pre B A = false) := pre_long B A (by rw [hs.long, ht.long]; exact h0)
    go_enter Try.func12, Try.ntmps12
    go_wp2
    go_ret
    exact ⟨retb HE.out.symm, Below.refl _ _⟩
  have d0 : decide (n < m) = false := by simpa using h0
  go_enter Try.func12, Try.ntmps12
  go_wp2
  go_loopw [5] (fun i wr => ∃ k : Nat, k ≤ m ∧ i = .int .i64 k ∧ Hid (pre B A = pre (B.drop k) (A.drop k)) ∧ Below w.heap.size w wr) (fun i _ => m - (intOf i).toNat)
  case atStart => exact ⟨0, Nat.zero_le _, rfl, rfl, Below.refl _ _⟩
  case round =>
    obtain ⟨k, hk, rfl, hq, hbel⟩ := hrel
    by_cases hlt : k < m
    · obtain ⟨b1, off1, rfl, hc1⟩ := (hs.below hbel).at' k (by omega)
      obtain ⟨b2, off2, rfl, hc2⟩ := (ht.below hbel).at' k (by omega)
      have HD : Hid _ := pre_drop B A k (by rw [ht.long]; omega) (by rw [hs.long]; omega)
      have i1 : (k : Int) < (n : Int) := by omega
      have i2 : (k : Int) < (m : Int) := by omega
      obtain ⟨x, hx⟩ : ∃ x, x = A.getD k 0 := ⟨_, rfl⟩
      obtain ⟨y, hy⟩ : ∃ y, y = B.getD k 0 := ⟨_, rfl⟩
      rw [← hx] at hc1 HD
      rw [← hy] at hc2 HD
      clear hx hy hs ht
      by_cases hxy : y = x
      · have HE : Hid (pre B A = pre (B.drop (k + 1)) (A.drop (k + 1))) := show _ = _ by rw [hq.out, HD.out, hxy]; simp
        have dxy : (x != y) = false := by simp [hxy]
        clear hxy
        go_wp2
        go_quiet (fail)
        go_wp2
        go_roundw
        case rel => exact ⟨k + 1, by omega, by go_num, HE, below_drewN hbel _⟩
        case measure => simp [intOf]; omega
      · have HE : Hid (pre B A = false) := show _ = _ by rw [hq.out, HD.out]; simp [hxy]
        have dxy : (x != y) = true := by simp; exact fun e => hxy e.symm
        clear hxy
        go_wp2
        go_quiet (fail)
        go_wp2
        go_ret
        exact ⟨retb HE.out.symm, below_drewN hbel _⟩
    · have HE : Hid (pre B A = true) := show _ = _ by rw [hq.out, List.drop_of_length_le (l := B) (by rw [ht.long]; omega)]; exact pre_nil _
      go_wp2
      go_ret
      exact ⟨retb HE.out.symm, hbel⟩

/-- The first k bytes are written, the rest is zero. -/
def fill (n : Nat) (zs : List Int) (k : Nat) : List Value := (zs.take k ++ List.replicate (n - k) 0).map (Value.int .u8)
theorem fill_zero (n : Nat) (zs : List Int) : fill n zs 0 = List.replicate n (.int .u8 0) := by simp [fill]
theorem fill_all (zs : List Int) : fill zs.length zs zs.length = zs.map (Value.int .u8) := by simp [fill]
theorem fill_get (n : Nat) (zs : List Int) (k : Nat) (h : k < n) (hz : n = zs.length) : (fill n zs k)[k]? = some (.int .u8 0) := by
  subst hz
  rw [fill, List.getElem?_map, List.getElem?_append_right (by simp; omega)]
  simp only [List.length_take, Nat.min_eq_left (Nat.le_of_lt h), Nat.sub_self, List.getElem?_replicate]
  rw [if_pos (by omega)]
  rfl
theorem fill_set (n : Nat) (zs : List Int) (k : Nat) (h : k < n) (hz : n = zs.length) : (fill n zs k).set k (.int .u8 (zs.getD k 0)) = fill n zs (k + 1) := by
  subst hz
  unfold fill
  rw [← List.map_set]
  congr 1
  rw [List.set_append_right _ _ (by simp; omega)]
  simp only [List.length_take, Nat.min_eq_left (Nat.le_of_lt h), Nat.sub_self]
  rw [List.take_succ_eq_append_getElem h, List.append_assoc]
  congr 1
  rw [show zs.length - k = (zs.length - (k + 1)) + 1 by omega, List.replicate_succ]
  simp [h]

theorem bytes_of_own {w : World} {base e g n cap : Nat} {zs : List Int} (hr : ∀ i, 0 ≤ zs.getD i 0 ∧ zs.getD i 0 ≤ 255) (h : w.ownsRow base e 1 (.slice (some ⟨g, 0, none⟩) n cap) n (zs.map (Value.int .u8))) : Bytes w (some ⟨g, 0, none⟩) n zs := by
  have hl : zs.length = n := by simpa using h.1
  refine ⟨hl, fun i hi => ⟨g, 0, rfl, ?_⟩, hr⟩
  rw [Nat.zero_add, h.cellAt i (by omega)]
  simp [hl, hi]

set_option maxHeartbeats 400000 in
theorem clone_nil (cap : Nat) (w : World) : Calls Try.prog 7 #[.slice none 0 cap] w fun e w' => e = .returned (.slice none 0 0) ∧ w' = w := by
  have hq := fun wx => Lib.run_eql_slice_nil (P := Try.prog) wx 22 5 none 0 cap 0 0 Try.underlying22
  go_enter Try.func7, Try.ntmps7
  go_wp2
  go_ret
  exact ⟨rfl, rfl⟩

set_option maxHeartbeats 800000 in
theorem clone_some (x : Addr) (n cap : Nat) (zs : List Int) (w : World) (hs : Bytes w (some x) n zs) (hn : n ≤ 2097152) :
    Calls Try.prog 7 #[.slice (some x) n cap] w fun e w' => e = .returned (.slice (some ⟨w.heap.size, 0, none⟩) n n) ∧ Bytes w' (some ⟨w.heap.size, 0, none⟩) n zs ∧ Below w.heap.size w w' := by
  have hq := fun wx => Lib.run_eql_slice_nil (P := Try.prog) wx 22 5 (some x) n cap 0 0 Try.underlying22
  obtain ⟨i0, hi, hz0, hz1, hz2⟩ := info_parts Try.info5
  have HLN : Hid _ := hs.long
  go_enter Try.func7, Try.ntmps7
  go_wp2_with (first | (at_make; refine wpList_make_full _ rfl (.tmp 8) (.tmp 8) 22 rfl w.heap.size 5 i0 (.int .u8 0) 1 Try.underlying22 hi hz0 hz1 .i64 .i64 _ _ n rfl rfl rfl rfl ?b2 ?b3 ?b4 ?_) | fail)
  case b2 => rw [hz2]; omega
  case b3 => unfold maxLen; omega
  case b4 => exact Nat.le_refl _
  intro w1 hown1 hgrow1
  have hbel1 : Below w.heap.size w w1 := (Below.refl _ _).grown hgrow1 (Nat.le_refl _) (by simp)
  have hown2 : w1.ownsRow w.heap.size 5 1 (.slice (some ⟨w.heap.size, 0, none⟩) n n) n (fill n zs 0) := by
    rw [fill_zero, ← toList_madeCells_one]; simpa using hown1
  clear hown1 hgrow1
  go_wp2_with fail
  go_loopw [4] (fun i wr => ∃ k : Nat, k ≤ n ∧ i = .int .i64 k ∧ wr.ownsRow w.heap.size 5 1 (.slice (some ⟨w.heap.size, 0, none⟩) n n) n (fill n zs k) ∧ Below w.heap.size w wr) (fun i _ => n - (intOf i).toNat)
  case atStart => exact ⟨0, Nat.zero_le _, rfl, hown2, hbel1⟩
  case round =>
    obtain ⟨k, hk, rfl, hown, hbel⟩ := hrel
    by_cases hkn : k < n
    · obtain ⟨b, off, hx, hlt, hcell⟩ := hs.plain (by omega)
      simp only [Option.some.injEq] at hx
      subst hx
      have c1 : wr.cell? ⟨b, off + k, none⟩ = some (.int .u8 (zs.getD k 0)) := (hbel.cell hlt).trans (hcell k hkn)
      have c2 : wr.cell? ⟨w.heap.size, k, none⟩ = some (.int .u8 0) := by rw [hown.cellAt k (by omega), fill_get n zs k hkn HLN.out.symm]
      have c3 : wr.frozen? ⟨w.heap.size, k, none⟩ = false := hown.frozenAt k
      have R1 := (hown.stored k (.int .u8 (zs.getD k 0))).1
      rw [fill_set n zs k hkn HLN.out.symm] at R1
      have R2 := hbel.setCell (p := ⟨w.heap.size, k, none⟩) (Nat.le_refl _) (.int .u8 (zs.getD k 0))
      obtain ⟨c, hc⟩ : ∃ c, c = zs.getD k 0 := ⟨_, rfl⟩
      rw [← hc] at c1 R1 R2
      have S1 : Hid _ := R1
      have S2 : Hid _ := R2
      clear hown hbel hcell hc R1 R2
      go_wp2
      go_roundw
      case rel => exact ⟨k + 1, by omega, by go_num, S1.out, S2.out⟩
      case measure => simp [intOf]; omega
    · obtain rfl : k = n := by omega
      have hown' : wr.ownsRow w.heap.size 5 1 (.slice (some ⟨w.heap.size, 0, none⟩) k k) k (zs.map (Value.int .u8)) := by
        have e := fill_all zs
        rw [HLN.out] at e
        rw [← e]; exact hown
      have hB := bytes_of_own hs.range hown'
      clear hown hown'
      go_wp2
      go_ret
      exact ⟨rfl, hB, hbel⟩

end Go.Proofs.Qxb6000023a
