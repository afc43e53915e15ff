import Derived.Test.Qxb6001473aRows
import Derived.WalkKit
import Derived.ProofKit
import Derived.OpenShut
import Derived.ShutString
import Derived.ChangeOld
import Derived.Below
namespace Go.Proofs.Qxb6001473a
open Go.ChangeShapes Go.WideShapes Go.ChangeAt Go.RowKit
set_option linter.unusedVariables false

/-- The sum of the strings' lengths. -/
def lens (ss : List ByteArray) : Nat := (ss.map (·.size)).sum

theorem lens_take_succ (ss : List ByteArray) (k : Nat) (h : k < ss.length) : lens (ss.take (k + 1)) = lens (ss.take k) + (ss.getD k ByteArray.empty).size := by
  unfold lens
  rw [List.take_succ_eq_append_getElem h, List.map_append, List.sum_append]
  simp [List.getD, List.getElem?_eq_getElem h]

theorem lens_take_le (ss : List ByteArray) (k : Nat) : lens (ss.take k) ≤ lens ss := by
  unfold lens
  have h := List.take_append_drop k ss
  have : (ss.map (·.size)).sum = ((ss.take k).map (·.size)).sum + ((ss.drop k).map (·.size)).sum := by
    rw [← List.sum_append, ← List.map_append, h]
  omega

/-- A slice value (its address, its length) leads to the strings ss in w. -/
structure Strs (w : World) (a : Option Addr) (n : Nat) (ss : List ByteArray) : Prop where
  long : ss.length = n
  at' : ∀ i, i < n → ∃ b off, a = some ⟨b, off, none⟩ ∧ w.cell? ⟨b, off + i, none⟩ = some (.string (ss.getD i ByteArray.empty))

theorem Strs.below {w w' : World} {a : Option Addr} {n : Nat} {ss : List ByteArray} (h : Strs w a n ss) (hb : Below w.heap.size w w') : Strs w' a n ss := by
  refine ⟨h.long, fun i hi => ?_⟩
  obtain ⟨b, off, ha, hc⟩ := h.at' i hi
  exact ⟨b, off, ha, (hb.cell (World.block_lt_of_cell? w _ hc)).trans hc⟩

theorem Strs.plain {w : World} {a : Option Addr} {n : Nat} {ss : List ByteArray} (h : Strs w a n ss) (hp : 0 < n) :
    ∃ b off, a = some ⟨b, off, none⟩ ∧ b < w.heap.size ∧ ∀ i, i < n → w.cell? ⟨b, off + i, none⟩ = some (.string (ss.getD i ByteArray.empty)) := by
  obtain ⟨b, off, rfl, hc⟩ := h.at' 0 hp
  refine ⟨b, off, rfl, World.block_lt_of_cell? w _ hc, fun i hi => ?_⟩
  obtain ⟨b', off', e, hc'⟩ := h.at' i hi
  simp at e
  obtain ⟨rfl, rfl⟩ := e
  exact hc'

/-- A slice of strings that came in. -/
theorem came {H : Type} {enc : TypeId × Value → H} {W : World} {held : Bool} {a : Option Addr} {n cap : Nat} {d : DataW H} {p : List MemPlace}
    (h : DataW.Trod enc Try.prog W 0 (fun _ => true) held 22 (.slice a n cap) d p) : ∃ ss, Strs W a n ss ∧ n ≤ cap ∧ cap ≤ maxLen := by
  obtain ⟨fuel, hf⟩ := h
  rcases open_strings Try.underlying22 Try.underlying9 (by kernel_rfl) hf with ⟨hcs, _⟩ | ⟨x, l, c, ss, hcs, _, hl, hm, hz, _, hcell, hws⟩
  · simp [Value.cells] at hcs
    obtain ⟨rfl, rfl, rfl⟩ := hcs
    exact ⟨[], ⟨rfl, fun i hi => absurd hi (by simp)⟩, Nat.le_refl _, Nat.zero_le _⟩
  · simp [Value.cells] at hcs
    obtain ⟨rfl, rfl, rfl⟩ := hcs
    simp only [if_true] at hz
    refine ⟨ss.take n, ⟨by simp; omega, fun i hi => ?_⟩, hl, hm⟩
    obtain ⟨b, off, spot⟩ := x
    have h0 := hcell i (by omega)
    have hspot : spot = none := by simpa [Addr.add] using World.cell?_spot (hcell 0 (by omega))
    subst hspot
    refine ⟨b, off, rfl, ?_⟩
    rw [Go.WideShapes.add_plain] at h0
    rw [h0]
    simp [hi]

/-- What zzBytes answers: a bool; 'true' only where n is within the bound. -/
def Within (e : Ending) (n : Nat) : Prop := ∃ b, e = .returned (.bool b) ∧ (b = true → n ≤ 1048576)
theorem Within.no {e : Ending} {n : Nat} (h : e = .returned (.bool false)) : Within e n := ⟨false, h, by simp⟩
theorem Within.yes {e : Ending} {n : Nat} (h : e = .returned (.bool true)) (hn : n ≤ 1048576) : Within e n := ⟨true, h, fun _ => hn⟩

set_option maxHeartbeats 400000 in
theorem zzBytes1 (a : Option Addr) (len cap : Nat) (ss : List ByteArray) (w : World) (hs : Strs w a len ss) (hl : len ≤ cap) (hc : cap ≤ maxLen) :
    Calls Try.prog 6 #[.slice a len cap] w fun e w' => w' = w ∧ Within e (len + lens ss) := by
  unfold maxLen at hc
  by_cases h1 : 1048576 < len
  · go_enter Try.func6, Try.ntmps6
    go_wp2
    go_ret
    exact ⟨rfl, .no rfl⟩
  · have h1' : decide (1048576 < (len : Int)) = false := by simp; omega
    go_enter Try.func6, Try.ntmps6
    go_wp2
    go_loop [3, 4] (fun n i => ∃ k : Nat, k ≤ len ∧ i = .int .i64 k ∧ n = .int .i64 (len + lens (ss.take k) : Nat) ∧ len + lens (ss.take k) ≤ 1048576) (fun _ i => len - (intOf i).toNat)
    case atStart => exact ⟨0, Nat.zero_le _, rfl, rfl, by simp [lens]; omega⟩
    case round =>
      obtain ⟨k, hk, rfl, rfl, hb⟩ := hrel
      by_cases hlt : k < len
      · obtain ⟨b, off, rfl, hcell⟩ := hs.at' k hlt
        have HS : Hid _ := lens_take_succ ss k (by rw [hs.long]; exact hlt)
        go_wp2
        · go_ret
          exact ⟨rfl, .no rfl⟩
        · go_ret
          exact ⟨rfl, .no rfl⟩
        · have hle : (len : Int) + (lens (ss.take k) : Int) + ((ss[k]?.getD ByteArray.empty).size : Int) ≤ 1048576 := by assumption
          have HS' := HS.out
          rw [List.getD_eq_getElem?_getD] at HS'
          go_round
          case rel => exact ⟨k + 1, by omega, by go_num, by rw [HS']; go_num, by rw [HS']; omega⟩
          case measure => simp [intOf]; omega
      · go_wp2
        go_ret
        exact ⟨rfl, .yes rfl (by rw [List.take_of_length_le (by rw [hs.long]; omega)] at hb; exact hb)⟩

set_option maxHeartbeats 400000 in
theorem bytesOf_any (a : Option Addr) (len cap : Nat) (ss : List ByteArray) (w : World) (hs : Strs w a len ss) (hl : len ≤ 65536) (hb : len + lens ss ≤ 1048576) :
    Calls Try.prog 7 #[.slice a len cap] w fun e w' => e = .returned (.int .i64 (8 * len + lens ss : Nat)) ∧ w' = w := by
  go_enter Try.func7, Try.ntmps7
  go_wp2
  go_loop [3, 4] (fun n i => ∃ k : Nat, k ≤ len ∧ i = .int .i64 k ∧ n = .int .i64 (8 * len + lens (ss.take k) : Nat)) (fun _ i => len - (intOf i).toNat)
  case atStart => exact ⟨0, Nat.zero_le _, rfl, by simp [lens]⟩
  case round =>
    obtain ⟨k, hk, rfl, rfl⟩ := hrel
    have hle := lens_take_le ss k
    by_cases hlt : k < len
    · obtain ⟨b, off, rfl, hcell⟩ := hs.at' k hlt
      have HS : Hid _ := lens_take_succ ss k (by rw [hs.long]; exact hlt)
      have hle2 : lens (ss.take k) + (ss[k]?.getD ByteArray.empty).size ≤ lens ss := by
        have h1 := lens_take_le ss (k + 1)
        rw [HS.out, List.getD_eq_getElem?_getD] at h1
        exact h1
      go_wp2
      have HS' := HS.out
      rw [List.getD_eq_getElem?_getD] at HS'
      go_round
      case rel => exact ⟨k + 1, by omega, by go_num, by rw [HS']; go_num⟩
      case measure => simp [intOf]; omega
    · have e : lens (ss.take k) = lens ss := by rw [List.take_of_length_le (by rw [hs.long]; omega)]
      have E : Hid _ := e
      clear e
      go_wp2
      go_ret
      exact ⟨by rw [← E.out]; rfl, rfl⟩
end Go.Proofs.Qxb6001473a
