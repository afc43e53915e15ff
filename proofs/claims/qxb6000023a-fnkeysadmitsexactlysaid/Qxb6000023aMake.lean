import Derived.Test.Qxb6000023aBase
import Derived.Laws.AppendOwnNone
import Derived.Lib.AppendZerosOnto
import Derived.Lib.Walk
namespace Go.Proofs.Qxb6000023a
open Go.ChangeShapes Go.WideShapes Go.ChangeAt Go.RowKit
set_option linter.unusedVariables false

theorem getD_append (A B : List Int) (i : Nat) : (A ++ B).getD i 0 = if i < A.length then A.getD i 0 else B.getD (i - A.length) 0 := by
  simp only [List.getD_eq_getElem?_getD, List.getElem?_append]
  split <;> rfl

theorem range_append {A B : List Int} (ha : ∀ i, 0 ≤ A.getD i 0 ∧ A.getD i 0 ≤ 255) (hb : ∀ i, 0 ≤ B.getD i 0 ∧ B.getD i 0 ≤ 255) : ∀ i, 0 ≤ (A ++ B).getD i 0 ∧ (A ++ B).getD i 0 ≤ 255 := by
  intro i
  rw [getD_append]
  split
  · exact ha i
  · exact hb _

set_option maxHeartbeats 800000 in
theorem concat2_any (a b : Option Addr) (n m ca cb : Nat) (A B : List Int) (w : World) (hs : Bytes w a n A) (ht : Bytes w b m B) (hn : n ≤ 1048576) (hm : m ≤ 1048576) :
    Calls Try.prog 9 #[.slice a n ca, .slice b m cb] w fun e w' => e = .returned (.slice (some ⟨w.heap.size, 0, none⟩) (n + m) (n + m)) ∧ Bytes w' (some ⟨w.heap.size, 0, none⟩) (n + m) (A ++ B) ∧ Below w.heap.size w w' := by
  obtain ⟨i0, hi, hz0, hz1, hz2⟩ := info_parts Try.info5
  have hln : (A ++ B).length = n + m := by rw [List.length_append, hs.long, ht.long]
  have HLN : Hid _ := hln
  have hrange := range_append hs.range ht.range
  have HRG : Hid _ := hrange
  have G1 : Hid (∀ k, k < n → (A ++ B).getD k 0 = A.getD k 0) := fun k hk => by rw [getD_append, if_pos (by rw [hs.long]; exact hk)]
  have G2 : Hid (∀ k, k < m → (A ++ B).getD (n + k) 0 = B.getD k 0) := fun k hk => by rw [getD_append, if_neg (by rw [hs.long]; omega), hs.long, Nat.add_sub_cancel_left]
  generalize A ++ B = C at *
  clear hln hrange
  go_enter Try.func9, Try.ntmps9
  go_wp2_with (first | (at_make; refine wpList_make_full _ rfl (.tmp 12) (.tmp 12) 22 rfl w.heap.size 5 i0 (.int .u8 0) 1 Try.underlying22 hi hz0 hz1 .i64 .i64 _ _ (n + m) rfl rfl (by simp) (by simp) ?b2 ?b3 ?b4 ?_) | fail)
  case b2 => rw [hz2]; omega
  case b3 => unfold maxLen; omega
  case b4 => exact Nat.le_refl _
  intro w1 hown1 hgrow1
  have hbel1 : Below w.heap.size w w1 := (Below.refl _ _).grown hgrow1 (Nat.le_refl _) (by simp)
  have hown2 : w1.ownsRow w.heap.size 5 1 (.slice (some ⟨w.heap.size, 0, none⟩) (n + m) (n + m)) (n + m) (fill (n + m) C 0) := by
    rw [fill_zero, ← toList_madeCells_one]; simpa using hown1
  clear hown1 hgrow1
  go_wp2_with fail
  go_loopw [6] (fun i wr => ∃ k : Nat, k ≤ n ∧ i = .int .i64 k ∧ wr.ownsRow w.heap.size 5 1 (.slice (some ⟨w.heap.size, 0, none⟩) (n + m) (n + m)) (n + m) (fill (n + m) C k) ∧ Below w.heap.size w wr) (fun i _ => n - (intOf i).toNat)
  case atStart => exact ⟨0, Nat.zero_le _, rfl, hown2, hbel1⟩
  case round =>
    obtain ⟨k, hk, rfl, hown, hbel⟩ := hrel
    by_cases hkn : k < n
    · obtain ⟨b, off, rfl, hlt, hcell⟩ := hs.plain (by omega)
      have c1 : wr.cell? ⟨b, off + k, none⟩ = some (.int .u8 (C.getD k 0)) := by rw [G1.out k hkn]; exact (hbel.cell hlt).trans (hcell k hkn)
      have c2 : wr.cell? ⟨w.heap.size, k, none⟩ = some (.int .u8 0) := by rw [hown.cellAt k (by omega), fill_get (n + m) C k (by omega) HLN.out.symm]
      have c3 : wr.frozen? ⟨w.heap.size, k, none⟩ = false := hown.frozenAt k
      have R1 := (hown.stored k (.int .u8 (C.getD k 0))).1
      rw [fill_set (n + m) C k (by omega) HLN.out.symm] at R1
      have R2 := hbel.setCell (p := ⟨w.heap.size, k, none⟩) (Nat.le_refl _) (.int .u8 (C.getD k 0))
      obtain ⟨c, hc⟩ : ∃ c, c = C.getD k 0 := ⟨_, rfl⟩
      rw [← hc] at c1 R1 R2
      have S1 : Hid _ := R1
      have S2 : Hid _ := R2
      clear hown hbel hcell hc R1 R2
      go_wp2
      go_roundw
      case rel => exact ⟨k + 1, by omega, by go_num, S1.out, S2.out⟩
      case measure => simp [intOf]; omega
    · obtain rfl : k = n := by omega
      clear hown2 hbel1
      go_wp2_with fail
      go_loopw [7] (fun i wr => ∃ j : Nat, j ≤ m ∧ i = .int .i64 j ∧ wr.ownsRow w.heap.size 5 1 (.slice (some ⟨w.heap.size, 0, none⟩) (k + m) (k + m)) (k + m) (fill (k + m) C (k + j)) ∧ Below w.heap.size w wr) (fun i _ => m - (intOf i).toNat)
      case atStart => exact ⟨0, Nat.zero_le _, rfl, hown, hbel⟩
      case round =>
        obtain ⟨j, hj, rfl, hown, hbel⟩ := hrel
        by_cases hkn : j < m
        · obtain ⟨b, off, rfl, hlt, hcell⟩ := ht.plain (by omega)
          have c1 : wr.cell? ⟨b, off + j, none⟩ = some (.int .u8 (C.getD (k + j) 0)) := by rw [G2.out j hkn]; exact (hbel.cell hlt).trans (hcell j hkn)
          have c2 : wr.cell? ⟨w.heap.size, k + j, none⟩ = some (.int .u8 0) := by rw [hown.cellAt (k + j) (by omega), fill_get (k + m) C (k + j) (by omega) HLN.out.symm]
          have c3 : wr.frozen? ⟨w.heap.size, k + j, none⟩ = false := hown.frozenAt (k + j)
          have R1 := (hown.stored (k + j) (.int .u8 (C.getD (k + j) 0))).1
          rw [fill_set (k + m) C (k + j) (by omega) HLN.out.symm] at R1
          have R2 := hbel.setCell (p := ⟨w.heap.size, k + j, none⟩) (Nat.le_refl _) (.int .u8 (C.getD (k + j) 0))
          obtain ⟨c, hc⟩ : ∃ c, c = C.getD (k + j) 0 := ⟨_, rfl⟩
          rw [← hc] at c1 R1 R2
          have S1 : Hid _ := R1
          have S2 : Hid _ := R2
          clear hown hbel hcell hc R1 R2
          go_wp2
          go_roundw
          case rel => exact ⟨j + 1, by omega, by go_num, S1.out, S2.out⟩
          case measure => simp [intOf]; omega
        · obtain rfl : j = m := by omega
          have hown' : wr.ownsRow w.heap.size 5 1 (.slice (some ⟨w.heap.size, 0, none⟩) (k + j) (k + j)) (k + j) (C.map (Value.int .u8)) := by
            have e := fill_all C
            rw [HLN.out] at e
            rw [← e]; exact hown
          have hB := bytes_of_own HRG.out hown'
          clear hown hown'
          go_wp2
          go_ret
          exact ⟨rfl, hB, hbel⟩

theorem hid {p : Prop} (h : p) : Hid p := h

/-- What a maker answers: a slice of the call's own that holds the bytes zs. -/
def Owned (e : Ending) (base : Nat) (w : World) (zs : List Int) : Prop := ∃ v, e = .returned v ∧ w.ownsRow base 5 1 v zs.length (zs.map (Value.int .u8))

theorem own_base {w : World} {base e size n : Nat} {v : Value} {xs : List Value} (h : w.ownsRow base e size v n xs) : ∀ k, v.ownBlock = some k → base ≤ k := by
  intro k hk
  rcases h.2 with ⟨rfl, _⟩ | ⟨g, cap, cur, rfl, hg, _⟩
  · simp [Value.ownBlock] at hk
  · simp only [Value.ownBlock, Option.some.injEq] at hk
    omega

theorem one_cells (zs : List Int) : ∀ u ∈ zs.map (Value.int .u8), u.oneCell' = true := by simp [Value.oneCell']

set_option maxHeartbeats 800000 in
theorem sclone_any (x : Addr) (n cap : Nat) (zs : List Int) (w : World) (hs : Bytes w (some x) n zs) (hn : n ≤ 2097152) :
    Calls Try.prog 32 #[.slice (some x) n cap] w fun e w' => Owned e w.heap.size w' zs ∧ Below w.heap.size w w' := by
  have hq := fun wx => Lib.run_eql_slice_nil (P := Try.prog) wx 22 5 (some x) n cap 0 0 Try.underlying22
  obtain ⟨i0, hi, hz0, hz1, hz2⟩ := info_parts Try.info5
  have K1 : Hid _ := (hs.below ((Below.refl w.heap.size w).alloc (Nat.le_refl _) (.cells #[] 5))).src
  have K2 : Hid _ := World.ownsRow_made (base := w.heap.size) (e := 5) (size := 1) w #[] 0 (Nat.le_refl _) (Nat.zero_le _) rfl
  have K3 : Hid ((zs.map (Value.int .u8)).length = n * 1) := show _ = _ by simp [hs.long]
  have HLN : Hid _ := hs.long
  have K4 : Hid _ := one_cells zs
  clear hs
  go_enter Try.func32, Try.ntmps32
  go_wp2_with (first | (at_builtin; refine wpList_append_own _ rfl (.tmp 5) (.tmp 6) 22 rfl w.heap.size 5 i0 (.int .u8 0) 1 1 Try.underlying22 hi hz0 hz1 hz2 rfl (by decide) _ _ _ rfl K2.out x n cap (zs.map (Value.int .u8)) rfl K3.out K1.out K4.out (by unfold maxLen; omega) (by omega) (by simp) ?_) | fail)
  intro v w1 hown hgrow _
  have hbel : Below w.heap.size w w1 := ((Below.refl _ _).alloc (Nat.le_refl _) _).grown hgrow (by simp) (by simp [Value.ownBlock])
  have R := hid hown
  clear hown hgrow K1 K2
  go_wp2
  go_ret
  refine ⟨⟨_, rfl, ?_⟩, hbel⟩
  rw [HLN.out]
  exact R.out

set_option maxHeartbeats 800000 in
theorem grow_zero (w : World) :
    Calls Try.prog 33 #[.slice none 0 0, .int .i64 0] w fun e w' => Owned e w.heap.size w' [] ∧ Below w.heap.size w w' := by
  go_enter Try.func33, Try.ntmps33
  go_wp2
  go_ret
  exact ⟨⟨_, rfl, World.ownsRow_nil _ _ _ _⟩, Below.refl _ _⟩

set_option maxHeartbeats 800000 in
theorem grow_pos (n : Nat) (w : World) (hp : 0 < n) (hn : n ≤ 2097152) :
    Calls Try.prog 33 #[.slice none 0 0, .int .i64 n] w fun e w' => Owned e w.heap.size w' [] ∧ Below w.heap.size w w' := by
  obtain ⟨i0, hi, hz0, hz1, hz2⟩ := info_parts Try.info5
  have hr := fun ty => Lib.run_append_grow_zeros (P := Try.prog) w 22 3 ty 5 i0 (.int .u8 0) .i64 .i64 Try.underlying22 Try.underlying3 hi hz0 none 0 0 [] (by simp [Builtin.firstCells]) n hp (by omega) (by omega) (by omega) (by rw [hz2]; omega)
    (by rw [Nat.zero_add]; exact growslice_fits hp (by rw [hz2]; omega))
  have hG := grownCap_ge w (0 + n) 0 5
  have hG2 := grownCap_le_maxLen w (0 + n) 0 5 (by unfold maxLen; omega)
  generalize grownCap w (0 + n) 0 5 = G at *
  have hown : (w.drew.alloc (.cells ((#[] : Array Value) ++ Builtin.zeroCells (Value.int .u8 0).cells n ++ Builtin.zeroCells (Value.int .u8 0).cells (G - (0 + n))) 5)).ownsRow w.heap.size 5 1 (.slice (some ⟨w.heap.size, 0, none⟩) 0 G) 0 [] :=
    World.ownsRow_made (base := w.heap.size) (e := 5) (size := 1) w.drew _ G (Nat.le_refl _) hG2 (by simp [size_zeroCells, Value.cells]; omega)
  have hbel : Below w.heap.size w (w.drew.alloc (.cells ((#[] : Array Value) ++ Builtin.zeroCells (Value.int .u8 0).cells n ++ Builtin.zeroCells (Value.int .u8 0).cells (G - (0 + n))) 5)) :=
    ((Below.refl _ _).drew).alloc (Nat.le_refl _) _
  have hr' : ∀ ty, (Builtin.append_ #[22, 3] ty #[.slice none 0 0, .int .i64 n]).run Try.prog w = .ok (.slice (some ⟨w.heap.size, 0, none⟩) (0 + n) G) (w.drew.alloc (.cells ((#[] : Array Value) ++ Builtin.zeroCells (Value.int .u8 0).cells n ++ Builtin.zeroCells (Value.int .u8 0).cells (G - (0 + n))) 5)) := hr
  clear hr
  generalize w.drew.alloc (.cells ((#[] : Array Value) ++ Builtin.zeroCells (Value.int .u8 0).cells n ++ Builtin.zeroCells (Value.int .u8 0).cells (G - (0 + n))) 5) = W1 at *
  rw [Nat.zero_add] at hr' hG
  have R := hid hown
  have HR : Hid _ := hr'
  have hG3 : G ≤ 9223372036854775807 := by unfold maxLen at hG2; omega
  clear hown hr' hG2
  go_enter Try.func33, Try.ntmps33
  go_wp2_with (first | (at_builtin; refine Lib.wpList_append_run _ rfl (.tmp 20) (.tmp 21) 22 3 rfl _ _ rfl rfl _ _ (HR.out _) ?_) | fail)
  go_ret
  exact ⟨⟨_, rfl, R.out⟩, hbel⟩

theorem grow_any (z : Int) (n : Nat) (w : World) (hz : z = (n : Int)) (hn : n ≤ 2097152) :
    Calls Try.prog 33 #[.slice none 0 0, .int .i64 z] w fun e w' => Owned e w.heap.size w' [] ∧ Below w.heap.size w w' := by
  subst hz
  rcases Nat.eq_zero_or_pos n with h | h
  · subst h; exact grow_zero w
  · exact grow_pos n w h hn

theorem Bytes.nil {w : World} {n : Nat} {zs : List Int} (h : Bytes w none n zs) : n = 0 ∧ zs = [] := by
  have h0 : n = 0 := by
    rcases Nat.eq_zero_or_pos n with h1 | h1
    · exact h1
    · obtain ⟨b, off, h', _⟩ := h.at' 0 h1
      cases h'
  subst h0
  exact ⟨rfl, List.eq_nil_of_length_eq_zero h.long⟩

/-- The bytes that lie behind the first k slices. -/
def upTo (A B : List Int) : Nat → List Int
  | 0 => []
  | 1 => A
  | _ => A ++ B

set_option maxHeartbeats 1600000 in
theorem sconcat_any (g : Nat) (a b : Option Addr) (n m ca cb : Nat) (A B : List Int) (w : World) (h0 : w.cell? ⟨g, 0, none⟩ = some (.slice a n ca)) (h1 : w.cell? ⟨g, 1, none⟩ = some (.slice b m cb))
    (hs : Bytes w a n A) (ht : Bytes w b m B) (hna : a = none → ca = 0) (hnb : b = none → cb = 0) (hn : n ≤ 1048576) (hm : m ≤ 1048576) :
    Calls Try.prog 29 #[.slice (some ⟨g, 0, none⟩) 2 2] w fun e w' => Owned e w.heap.size w' (A ++ B) ∧ Below w.heap.size w w' := by
  obtain ⟨i0, hi, hz0, hz1, hz2⟩ := info_parts Try.info5
  have hg := World.block_lt_of_cell? w _ h0
  go_enter Try.func29, Try.ntmps29
  go_wp2
  go_loop [3, 11] (fun s i => ∃ k q : Nat, k ≤ 2 ∧ i = .int .i64 k ∧ s = .int .i64 q ∧ ((k = 0 ∧ q = 0) ∨ (k = 1 ∧ q = n) ∨ (k = 2 ∧ q = n + m))) (fun _ i => 2 - (intOf i).toNat)
  case atStart => exact ⟨0, 0, by omega, rfl, rfl, Or.inl ⟨rfl, rfl⟩⟩
  case round =>
    obtain ⟨k, q, hk, rfl, rfl, hc⟩ := hrel
    rcases hc with ⟨rfl, rfl⟩ | ⟨rfl, rfl⟩ | ⟨rfl, rfl⟩
    · go_wp2
      go_round
      case rel => exact ⟨1, n, by omega, by go_num, by go_num, Or.inr (Or.inl ⟨rfl, rfl⟩)⟩
      case measure => simp [intOf]
    · go_wp2
      go_round
      case rel => exact ⟨2, q + m, by omega, by go_num, by go_num, Or.inr (Or.inr ⟨rfl, rfl⟩)⟩
      case measure => simp [intOf]
    · go_wp2_with fail
      refine (grow_any _ (n + m) _ (by simp) (by omega)).mono ?_
      rintro e w1 ⟨⟨v, rfl, hown1⟩, hbel1⟩
      go_wp2_with fail
      go_loopw [6, 27] (fun v i wr => ∃ k : Nat, k ≤ 2 ∧ i = .int .i64 k ∧ wr.ownsRow w.heap.size 5 1 v (upTo A B k).length ((upTo A B k).map (Value.int .u8)) ∧ Below w.heap.size w wr) (fun _ i _ => 2 - (intOf i).toNat)
      case atStart => exact ⟨0, by omega, rfl, hown1, hbel1⟩
      case round =>
        obtain ⟨k, hk, rfl, hown, hbel⟩ := hrel
        have hAn := hs.long
        have hBm := ht.long
        have HAn := hid hAn
        have HBm := hid hBm
        clear hAn hBm hown1 hbel1
        rcases (by omega : k = 0 ∨ k = 1 ∨ k = 2) with rfl | rfl | rfl
        · have c0 : wr.cell? ⟨g, 0, none⟩ = some (.slice a n ca) := (hbel.cell hg).trans h0
          have hbs := hs.below hbel
          cases a with
          | none =>
            have hcz := hna rfl
            obtain ⟨hnz, hAz⟩ := hbs.nil
            have HN : Hid ((upTo A B 1) = (upTo A B 0)) := show _ = _ by rw [hAz]; first | rfl | exact List.append_nil _
            have HO := hid hown
            rw [hcz, hnz] at c0
            clear hbs hown hcz hnz hAz
            go_wp2_with (first | (at_builtin; refine wpList_append_own_none rfl (.tmp 31) (.tmp 32) 22 rfl w.heap.size 5 i0 1 Try.underlying22 hi _ _ _ rfl HO.out rfl ?_) | fail)
            go_roundw
            case rel => exact ⟨0 + 1, by omega, by go_num, by show World.ownsRow _ _ _ _ _ (upTo A B 1).length ((upTo A B 1).map _); rw [HN.out]; exact HO.out, hbel⟩
            case measure => simp [intOf]
          | some x =>
            have K1 := hid hbs.src
            have K3 : Hid ((A.map (Value.int .u8)).length = n * 1) := show _ = _ by simp [hbs.long]
            have K4 := hid (one_cells A)
            have HLN := hid hbs.long
            have hsz : (upTo A B 0).length ≤ 1048576 := by show ([] : List Int).length ≤ _; simp
            clear hbs
            go_wp2_with (first | (at_builtin; refine wpList_append_own _ rfl (.tmp 31) (.tmp 32) 22 rfl w.heap.size 5 i0 (.int .u8 0) 1 1 Try.underlying22 hi hz0 hz1 hz2 rfl (by decide) _ _ _ rfl hown x n ca (A.map (Value.int .u8)) rfl K3.out K1.out K4.out (by unfold maxLen; omega) (by omega) (by have := hbel.size; omega) ?_) | fail)
            intro v6 w6 hown6 hgrow6 _
            have hbel6 : Below w.heap.size w w6 := hbel.grown hgrow6 (by have := hbel.size; omega) (own_base hown)
            have R := hid hown6
            clear hown6 hgrow6 hown hbel K1
            go_wp2
            go_roundw
            case rel =>
              refine ⟨0 + 1, by omega, by go_num, ?_, hbel6⟩
              have R' := R.out
              rw [← List.map_append, ← HLN.out, ← List.length_append] at R'
              exact R'
            case measure => simp [intOf]
        · have c0 : wr.cell? ⟨g, 1, none⟩ = some (.slice b m cb) := (hbel.cell hg).trans h1
          have hbs := ht.below hbel
          cases b with
          | none =>
            have hcz := hnb rfl
            obtain ⟨hnz, hAz⟩ := hbs.nil
            have HN : Hid ((upTo A B 2) = (upTo A B 1)) := show _ = _ by rw [hAz]; first | rfl | exact List.append_nil _
            have HO := hid hown
            rw [hcz, hnz] at c0
            clear hbs hown hcz hnz hAz
            go_wp2_with (first | (at_builtin; refine wpList_append_own_none rfl (.tmp 31) (.tmp 32) 22 rfl w.heap.size 5 i0 1 Try.underlying22 hi _ _ _ rfl HO.out rfl ?_) | fail)
            go_roundw
            case rel => exact ⟨1 + 1, by omega, by go_num, by show World.ownsRow _ _ _ _ _ (upTo A B 2).length ((upTo A B 2).map _); rw [HN.out]; exact HO.out, hbel⟩
            case measure => simp [intOf]
          | some x =>
            have K1 := hid hbs.src
            have K3 : Hid ((B.map (Value.int .u8)).length = m * 1) := show _ = _ by simp [hbs.long]
            have K4 := hid (one_cells B)
            have HLN := hid hbs.long
            have hsz : (upTo A B 1).length ≤ 1048576 := by show A.length ≤ _; rw [HAn.out]; omega
            clear hbs
            go_wp2_with (first | (at_builtin; refine wpList_append_own _ rfl (.tmp 31) (.tmp 32) 22 rfl w.heap.size 5 i0 (.int .u8 0) 1 1 Try.underlying22 hi hz0 hz1 hz2 rfl (by decide) _ _ _ rfl hown x m cb (B.map (Value.int .u8)) rfl K3.out K1.out K4.out (by unfold maxLen; omega) (by omega) (by have := hbel.size; omega) ?_) | fail)
            intro v6 w6 hown6 hgrow6 _
            have hbel6 : Below w.heap.size w w6 := hbel.grown hgrow6 (by have := hbel.size; omega) (own_base hown)
            have R := hid hown6
            clear hown6 hgrow6 hown hbel K1
            go_wp2
            go_roundw
            case rel =>
              refine ⟨1 + 1, by omega, by go_num, ?_, hbel6⟩
              have R' := R.out
              rw [← List.map_append, ← HLN.out, ← List.length_append] at R'
              exact R'
            case measure => simp [intOf]
        · have HO := hid hown
          go_wp2
          go_ret
          exact ⟨⟨_, rfl, HO.out⟩, hbel⟩

end Go.Proofs.Qxb6000023a
