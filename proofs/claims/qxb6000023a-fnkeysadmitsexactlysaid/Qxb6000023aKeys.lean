import Derived.Test.Qxb6000023aAfter
import Derived.Deep.DeepCutAuto
import Derived.Deep.CutBlock
namespace Go.Proofs.Qxb6000023a
open Go.ChangeShapes Go.WideShapes Go.ChangeAt Go.RowKit
set_option linter.unusedVariables false

/-- A slice value that is nil, or leads to bytes; not too long. -/
structure Val (w : World) (a : Option Addr) (n c : Nat) (zs : List Int) : Prop where
  bytes : Bytes w a n zs
  nilc : a = none → c = 0
  le : n ≤ 262144

theorem Val.below {w w' : World} {a : Option Addr} {n c : Nat} {zs : List Int} (h : Val w a n c zs) (hb : Below w.heap.size w w') : Val w' a n c zs := ⟨h.bytes.below hb, h.nilc, h.le⟩

/-- A bound in memory. -/
def BoundAt (w : World) (p : Option Addr) : Option (List Int × Bool) → Prop
  | none => p = none
  | some (q, ex) => ∃ h a n c, p = some ⟨h, 0, none⟩ ∧ w.cell? ⟨h, 0, none⟩ = some (.slice a n c) ∧ w.cell? ⟨h, 1, none⟩ = some (.bool ex) ∧ Bytes w a n q ∧ n ≤ 2097152

theorem BoundAt.below {w w' : World} {p : Option Addr} {bd : Option (List Int × Bool)} (h : BoundAt w p bd) (hb : Below w.heap.size w w') : BoundAt w' p bd := by
  cases bd with
  | none => exact h
  | some x =>
    obtain ⟨q, ex⟩ := x
    obtain ⟨g, a, n, c, h1, h2, h3, h4, h5⟩ := h
    exact ⟨g, a, n, c, h1, (hb.cell (World.block_lt_of_cell? w _ h2)).trans h2, (hb.cell (World.block_lt_of_cell? w _ h3)).trans h3, h4.below hb, h5⟩

def lowB (la : Bool) (L : List Int) (ex : Bool) (pa : Bool) (P : List Int) : Option (Option (List Int × Bool)) :=
  if (la && ex) = true then (aft (P ++ L)).map (fun q => some (q, false)) else if (la || pa) = true then some (some (P ++ L, false)) else some none
def uppB (ha : Bool) (H : List Int) (ex : Bool) (pa : Bool) (P : List Int) : Option (List Int × Bool) :=
  if (ha && ex) = true then some (P ++ H, true) else if (ha || pa) = true then (aft (P ++ H)).map (fun q => (q, true)) else none

/-- What 'keys' answers. -/
def KeysPost (e : Ending) (w : World) (lw : Option (Option (List Int × Bool))) (up : Option (List Int × Bool)) : Prop :=
  match lw with
  | none => e = .returned (.tuple #[.agg #[.pointer none, .pointer none, .bool false, .int .i64 0], .bool false])
  | some l => ∃ pl pu, e = .returned (.tuple #[.agg #[.pointer pl, .pointer pu, .bool false, .int .i64 0], .bool true]) ∧ BoundAt w pl l ∧ BoundAt w pu up

theorem cell_kept {wx : World} {g : Nat} {cs : Array Value} {e : TypeId} (hg : wx.heap[g]? = some (.cells cs e (0, 0))) {b o : Nat} {u : Value} (h : wx.cell? ⟨b, o, none⟩ = some u) (hu : ∀ i : Nat, cs[i]? ≠ some u) : b ≠ g := by
  rintro rfl
  rw [cell_of_row _ _ _ _ _ _ hg] at h
  exact hu _ h

theorem cell_put {wx : World} {g b o : Nat} {u : Value} (h : wx.cell? ⟨b, o, none⟩ = some u) (hne : b ≠ g) (i : Nat) (v : Value) : (wx.setCell ⟨g, i, none⟩ v).cell? ⟨b, o, none⟩ = some u :=
  (World.cell?_of_block (w := wx) (heap_setCell_other wx ⟨g, i, none⟩ b v hne)).trans h

theorem no_byte (p q : Option Addr) (x : Bool) (z : Int) : ∀ i : Nat, (#[.pointer p, .pointer q, .bool x, .int .i64 0] : Array Value)[i]? ≠ some (.int .u8 z) := by
  intro i
  match i with
  | 0 => simp
  | 1 => simp
  | 2 => simp
  | 3 => simp
  | n + 4 => simp
theorem no_slice (p q : Option Addr) (x : Bool) (a : Option Addr) (n c : Nat) : ∀ i : Nat, (#[.pointer p, .pointer q, .bool x, .int .i64 0] : Array Value)[i]? ≠ some (.slice a n c) := by
  intro i
  match i with
  | 0 => simp
  | 1 => simp
  | 2 => simp
  | 3 => simp
  | n + 4 => simp

theorem Bytes.put {wx : World} {g : Nat} {p q : Option Addr} {x : Bool} {e : TypeId} (hg : wx.heap[g]? = some (.cells #[.pointer p, .pointer q, .bool x, .int .i64 0] e (0, 0))) {a : Option Addr} {n : Nat} {zs : List Int} (h : Bytes wx a n zs) (i : Nat) (v : Value) :
    Bytes (wx.setCell ⟨g, i, none⟩ v) a n zs := by
  refine ⟨h.long, fun j hj => ?_, h.range⟩
  obtain ⟨b, off, ha, hc⟩ := h.at' j hj
  exact ⟨b, off, ha, cell_put hc (cell_kept hg hc (no_byte p q x _)) i v⟩

theorem BoundAt.put {wx : World} {g : Nat} {p q : Option Addr} {x : Bool} {e : TypeId} (hg : wx.heap[g]? = some (.cells #[.pointer p, .pointer q, .bool x, .int .i64 0] e (0, 0))) {r : Option Addr} {bd : Option (List Int × Bool)} (h : BoundAt wx r bd) (i : Nat) (v : Value) :
    BoundAt (wx.setCell ⟨g, i, none⟩ v) r bd := by
  cases bd with
  | none => exact h
  | some y =>
    obtain ⟨z, ex⟩ := y
    obtain ⟨k, a, n, c, h1, h2, h3, h4, h5⟩ := h
    have hne := cell_kept hg h2 (no_slice p q x a n c)
    exact ⟨k, a, n, c, h1, cell_put h2 hne i v, cell_put h3 hne i v, h4.put hg i v, h5⟩

/-- The world in the middle of 'keys': the receiver, the result's cell, r with its two bounds. -/
structure Mid (w wx : World) (rcv : Array Value) (pl pu : Option Addr) (lw up : Option (List Int × Bool)) : Prop where
  rc : wx.heap[w.heap.size]? = some (.cells rcv 50 (0, 0))
  rs : wx.heap[w.heap.size + 1]? = some (.cells #[.pointer none, .pointer none, .bool false, .int .i64 0] 27 (0, 0))
  rr : wx.heap[w.heap.size + 1 + 1]? = some (.cells #[.pointer pl, .pointer pu, .bool false, .int .i64 0] 27 (0, 0))
  bl : BoundAt wx pl lw
  bu : BoundAt wx pu up
  bel : Below w.heap.size w wx

theorem lt_block {w : World} {b : Nat} {o : Obj} (h : w.heap[b]? = some o) : b < w.heap.size := by
  rcases Nat.lt_or_ge b w.heap.size with h' | h'
  · exact h'
  · rw [Array.getElem?_eq_none h'] at h; cases h

theorem Mid.below {w wx wy : World} {rcv : Array Value} {pl pu : Option Addr} {lw up : Option (List Int × Bool)} (h : Mid w wx rcv pl pu lw up) (hb : Below wx.heap.size wx wy) : Mid w wy rcv pl pu lw up :=
  ⟨(hb.block _ (lt_block h.rc)).trans h.rc, (hb.block _ (lt_block h.rs)).trans h.rs, (hb.block _ (lt_block h.rr)).trans h.rr, h.bl.below hb, h.bu.below hb, h.bel.trans (hb.mono h.bel.size)⟩

theorem Mid.start (w : World) (rcv : Array Value) :
    Mid w (((w.alloc (.cells rcv 50)).alloc (.cells #[.pointer none, .pointer none, .bool false, .int .i64 0] 27)).alloc (.cells #[.pointer none, .pointer none, .bool false, .int .i64 0] 27)) rcv none none none none := by
  have b1 := heap_alloc_new w (.cells rcv 50)
  have b2 := heap_alloc_new (w.alloc (.cells rcv 50)) (.cells #[.pointer none, .pointer none, .bool false, .int .i64 0] 27)
  have b3 := heap_alloc_new ((w.alloc (.cells rcv 50)).alloc (.cells #[.pointer none, .pointer none, .bool false, .int .i64 0] 27)) (.cells #[.pointer none, .pointer none, .bool false, .int .i64 0] 27)
  have s1 : (w.alloc (.cells rcv 50)).heap.size = w.heap.size + 1 := by simp
  have s2 : ((w.alloc (.cells rcv 50)).alloc (.cells #[.pointer none, .pointer none, .bool false, .int .i64 0] 27)).heap.size = w.heap.size + 1 + 1 := by simp
  rw [s1] at b2
  rw [s2] at b3
  refine ⟨?_, ?_, b3, rfl, rfl, ?_⟩
  · rw [Below.heap_alloc _ _ _ (by rw [s2]; omega), Below.heap_alloc _ _ _ (by rw [s1]; omega)]; exact b1
  · rw [Below.heap_alloc _ _ _ (by rw [s2]; omega)]; exact b2
  · exact (((Below.refl _ _).alloc (Nat.le_refl _) _).alloc (by simp) _).alloc (by simp; omega) _

/-- The lower bound is laid. -/
theorem Mid.lower {w wx : World} {rcv : Array Value} {pu : Option Addr} {up : Option (List Int × Bool)} (h : Mid w wx rcv none pu none up) {a : Option Addr} {n c : Nat} {q : List Int} (hb : Bytes wx a n q) (hn : n ≤ 2097152) (ex : Bool) :
    Mid w ((wx.setCell ⟨w.heap.size + 1 + 1, 0, none⟩ (.pointer (some ⟨wx.heap.size, 0, none⟩))).alloc (.cells #[.slice a n c, .bool ex] 53)) rcv (some ⟨wx.heap.size, 0, none⟩) pu (some (q, ex)) up := by
  have l1 := lt_block h.rc
  have l2 := lt_block h.rs
  have l3 := lt_block h.rr
  obtain ⟨wy, hwy⟩ : ∃ wy, wy = wx.setCell ⟨w.heap.size + 1 + 1, 0, none⟩ (.pointer (some ⟨wx.heap.size, 0, none⟩)) := ⟨_, rfl⟩
  have hsz : wy.heap.size = wx.heap.size := by rw [hwy]; simp [World.setCell]
  have e1 : wy.heap[w.heap.size]? = some (.cells rcv 50 (0, 0)) := by rw [hwy, heap_setCell_other _ _ _ _ (by show _ ≠ _ + 1 + 1; omega)]; exact h.rc
  have e2 : wy.heap[w.heap.size + 1]? = some (.cells #[.pointer none, .pointer none, .bool false, .int .i64 0] 27 (0, 0)) := by rw [hwy, heap_setCell_other _ _ _ _ (by show _ ≠ _ + 1 + 1; omega)]; exact h.rs
  have e3 : wy.heap[w.heap.size + 1 + 1]? = some (.cells #[.pointer (some ⟨wx.heap.size, 0, none⟩), .pointer pu, .bool false, .int .i64 0] 27 (0, 0)) := by
    rw [hwy, heap_setCell_same _ _ _ _ _ _ h.rr]
    rfl
  have hbw : Bytes wy a n q := by rw [hwy]; exact hb.put h.rr 0 _
  have hbu : BoundAt wy pu up := by rw [hwy]; exact h.bu.put h.rr 0 _
  have hbel : Below w.heap.size w wy := by rw [hwy]; exact h.bel.setCell (p := ⟨w.heap.size + 1 + 1, 0, none⟩) (by show _ ≤ _ + 1 + 1; omega) _
  rw [← hwy]
  have hal : Below wy.heap.size wy (wy.alloc (.cells #[.slice a n c, .bool ex] 53)) := (Below.refl _ _).alloc (Nat.le_refl _) _
  refine ⟨(hal.block _ (by omega)).trans e1, (hal.block _ (by omega)).trans e2, (hal.block _ (by omega)).trans e3, ?_, hbu.below hal, hbel.trans (hal.mono hbel.size)⟩
  have hnew := heap_alloc_new wy (.cells #[.slice a n c, .bool ex] 53)
  rw [hsz] at hnew
  exact ⟨wx.heap.size, a, n, c, rfl, by rw [cell_of_row _ _ _ _ _ _ hnew]; rfl, by rw [cell_of_row _ _ _ _ _ _ hnew]; rfl, hbw.below hal, hn⟩

theorem Mid.upper {w wx : World} {rcv : Array Value} {pl : Option Addr} {lw : Option (List Int × Bool)} (h : Mid w wx rcv pl none lw none) {a : Option Addr} {n c : Nat} {q : List Int} (hb : Bytes wx a n q) (hn : n ≤ 2097152) (ex : Bool) :
    Mid w ((wx.setCell ⟨w.heap.size + 1 + 1, 1, none⟩ (.pointer (some ⟨wx.heap.size, 0, none⟩))).alloc (.cells #[.slice a n c, .bool ex] 53)) rcv pl (some ⟨wx.heap.size, 0, none⟩) lw (some (q, ex)) := by
  have l1 := lt_block h.rc
  have l2 := lt_block h.rs
  have l3 := lt_block h.rr
  obtain ⟨wy, hwy⟩ : ∃ wy, wy = wx.setCell ⟨w.heap.size + 1 + 1, 1, none⟩ (.pointer (some ⟨wx.heap.size, 0, none⟩)) := ⟨_, rfl⟩
  have hsz : wy.heap.size = wx.heap.size := by rw [hwy]; simp [World.setCell]
  have e1 : wy.heap[w.heap.size]? = some (.cells rcv 50 (0, 0)) := by rw [hwy, heap_setCell_other _ _ _ _ (by show _ ≠ _ + 1 + 1; omega)]; exact h.rc
  have e2 : wy.heap[w.heap.size + 1]? = some (.cells #[.pointer none, .pointer none, .bool false, .int .i64 0] 27 (0, 0)) := by rw [hwy, heap_setCell_other _ _ _ _ (by show _ ≠ _ + 1 + 1; omega)]; exact h.rs
  have e3 : wy.heap[w.heap.size + 1 + 1]? = some (.cells #[.pointer pl, .pointer (some ⟨wx.heap.size, 0, none⟩), .bool false, .int .i64 0] 27 (0, 0)) := by
    rw [hwy, heap_setCell_same _ _ _ _ _ _ h.rr]
    rfl
  have hbw : Bytes wy a n q := by rw [hwy]; exact hb.put h.rr 1 _
  have hbl : BoundAt wy pl lw := by rw [hwy]; exact h.bl.put h.rr 1 _
  have hbel : Below w.heap.size w wy := by rw [hwy]; exact h.bel.setCell (p := ⟨w.heap.size + 1 + 1, 1, none⟩) (by show _ ≤ _ + 1 + 1; omega) _
  rw [← hwy]
  have hal : Below wy.heap.size wy (wy.alloc (.cells #[.slice a n c, .bool ex] 53)) := (Below.refl _ _).alloc (Nat.le_refl _) _
  refine ⟨(hal.block _ (by omega)).trans e1, (hal.block _ (by omega)).trans e2, (hal.block _ (by omega)).trans e3, hbl.below hal, ?_, hbel.trans (hal.mono hbel.size)⟩
  have hnew := heap_alloc_new wy (.cells #[.slice a n c, .bool ex] 53)
  rw [hsz] at hnew
  exact ⟨wx.heap.size, a, n, c, rfl, by rw [cell_of_row _ _ _ _ _ _ hnew]; rfl, by rw [cell_of_row _ _ _ _ _ _ hnew]; rfl, hbw.below hal, hn⟩

/-- r is handed over into the result's cell. -/
theorem Mid.ret {w wx : World} {rcv : Array Value} {pl pu : Option Addr} {lw up : Option (List Int × Bool)} (h : Mid w wx rcv pl pu lw up) (p q : Option Addr) :
    BoundAt ((((wx.setCell ⟨w.heap.size + 1, 0, none⟩ (.pointer p)).setCell ⟨w.heap.size + 1, 1, none⟩ (.pointer q)).setCell ⟨w.heap.size + 1, 2, none⟩ (.bool false)).setCell ⟨w.heap.size + 1, 3, none⟩ (.int .i64 0)) pl lw ∧
    BoundAt ((((wx.setCell ⟨w.heap.size + 1, 0, none⟩ (.pointer p)).setCell ⟨w.heap.size + 1, 1, none⟩ (.pointer q)).setCell ⟨w.heap.size + 1, 2, none⟩ (.bool false)).setCell ⟨w.heap.size + 1, 3, none⟩ (.int .i64 0)) pu up ∧
    Below w.heap.size w ((((wx.setCell ⟨w.heap.size + 1, 0, none⟩ (.pointer p)).setCell ⟨w.heap.size + 1, 1, none⟩ (.pointer q)).setCell ⟨w.heap.size + 1, 2, none⟩ (.bool false)).setCell ⟨w.heap.size + 1, 3, none⟩ (.int .i64 0)) := by
  have g0 := h.rs
  have g1 : (wx.setCell ⟨w.heap.size + 1, 0, none⟩ (.pointer p)).heap[w.heap.size + 1]? = some (.cells #[.pointer p, .pointer none, .bool false, .int .i64 0] 27 (0, 0)) := by
    rw [heap_setCell_same _ _ _ _ _ _ g0]; rfl
  have g2 : ((wx.setCell ⟨w.heap.size + 1, 0, none⟩ (.pointer p)).setCell ⟨w.heap.size + 1, 1, none⟩ (.pointer q)).heap[w.heap.size + 1]? = some (.cells #[.pointer p, .pointer q, .bool false, .int .i64 0] 27 (0, 0)) := by
    rw [heap_setCell_same _ _ _ _ _ _ g1]; rfl
  have g3 : (((wx.setCell ⟨w.heap.size + 1, 0, none⟩ (.pointer p)).setCell ⟨w.heap.size + 1, 1, none⟩ (.pointer q)).setCell ⟨w.heap.size + 1, 2, none⟩ (.bool false)).heap[w.heap.size + 1]? = some (.cells #[.pointer p, .pointer q, .bool false, .int .i64 0] 27 (0, 0)) := by
    rw [heap_setCell_same _ _ _ _ _ _ g2]; rfl
  refine ⟨(((h.bl.put g0 0 _).put g1 1 _).put g2 2 _).put g3 3 _, (((h.bu.put g0 0 _).put g1 1 _).put g2 2 _).put g3 3 _, ?_⟩
  have hle : w.heap.size ≤ w.heap.size + 1 := by omega
  exact (((h.bel.setCell (p := ⟨w.heap.size + 1, 0, none⟩) hle _).setCell (p := ⟨w.heap.size + 1, 1, none⟩) hle _).setCell (p := ⟨w.heap.size + 1, 2, none⟩) hle _).setCell (p := ⟨w.heap.size + 1, 3, none⟩) hle _

/-- slices.Concat at two values that lie in a world W; the list of the two is laid first. -/
def Joined (e : Ending) (w : World) (C : List Int) : Prop := ∃ a n c, e = .returned (.slice a n c) ∧ Bytes w a n C ∧ n ≤ c ∧ c ≤ maxLen ∧ n ≤ 524288
theorem join_val (W : World) (a b : Option Addr) (n m ca cb : Nat) (A B : List Int) (hA : Val W a n ca A) (hB : Val W b m cb B) :
    Calls Try.prog 29 #[.slice (some ⟨W.heap.size, 0, none⟩) 2 2] (W.alloc (.cells #[.slice a n ca, .slice b m cb] 22)) fun e w' => Joined e w' (A ++ B) ∧ Below W.heap.size W w' := by
  have hnew := heap_alloc_new W (.cells #[.slice a n ca, .slice b m cb] 22)
  have hal : Below W.heap.size W (W.alloc (.cells #[.slice a n ca, .slice b m cb] 22)) := (Below.refl _ _).alloc (Nat.le_refl _) _
  refine (sconcat_any W.heap.size a b n m ca cb A B _ (by rw [cell_of_row _ _ _ _ _ _ hnew]; rfl) (by rw [cell_of_row _ _ _ _ _ _ hnew]; rfl) (hA.bytes.below hal) (hB.bytes.below hal) hA.nilc hB.nilc (by have := hA.le; omega) (by have := hB.le; omega)).mono ?_
  rintro e w' ⟨⟨v, rfl, hown⟩, hb⟩
  refine ⟨?_, hal.trans (hb.mono (by simp))⟩
  have hl : (A ++ B).length ≤ 524288 := by rw [List.length_append, hA.bytes.long, hB.bytes.long]; have := hA.le; have := hB.le; omega
  have hr := range_append hA.bytes.range hB.bytes.range
  rcases hown.2 with ⟨rfl, h0⟩ | ⟨g, cp, cur, rfl, hg, hh, hle, hmx, _⟩
  · have h00 : A ++ B = [] := List.eq_nil_of_length_eq_zero h0
    rw [h00]
    exact ⟨none, 0, 0, rfl, ⟨rfl, fun i hi => absurd hi (by omega), fun i => by simp⟩, Nat.le_refl _, Nat.zero_le _, Nat.zero_le _⟩
  · exact ⟨_, _, _, rfl, bytes_of_own hr hown, hle, hmx, hl⟩

set_option maxRecDepth 100000 in
set_option maxHeartbeats 1600000 in
theorem keys_any (la ha pa : Option Addr) (ln lc hn hc pn pc : Nat) (L H P : List Int) (lx hx : Bool) (w : World) (hL : Val w la ln lc L) (hH : Val w ha hn hc H) (hP : Val w pa pn pc P) :
    Calls Try.prog 25 #[.agg #[.slice la ln lc, .slice ha hn hc, .bool lx, .bool hx, .bool false], .slice pa pn pc] w fun e w' => KeysPost e w' (lowB la.isSome L lx pa.isSome P) (uppB ha.isSome H hx pa.isSome P) ∧ Below w.heap.size w w' := by
  have hq1 := fun wx => run_neq_slice_nil_any (P := Try.prog) wx 22 5 la ln lc 0 0 Try.underlying22
  have hq2 := fun wx => run_neq_slice_nil_any (P := Try.prog) wx 22 5 ha hn hc 0 0 Try.underlying22
  have hq3 := fun wx => run_neq_slice_nil_any (P := Try.prog) wx 22 5 pa pn pc 0 0 Try.underlying22
  have M0 := Mid.start w #[.slice la ln lc, .slice ha hn hc, .bool lx, .bool hx, .bool false]
  go_enter Try.func25, Try.ntmps25
  go_upto_block 0 with fail
  go_cut [7, 8] (fun s7 s8 wx => ∃ lw pl, Hid (lowB la.isSome L lx pa.isSome P = some lw) ∧ Mid w wx #[.slice la ln lc, .slice ha hn hc, .bool lx, .bool hx, .bool false] pl none lw none)
  case first =>
    generalize ((w.alloc (.cells #[.slice la ln lc, .slice ha hn hc, .bool lx, .bool hx, .bool false] 50)).alloc (.cells #[.pointer none, .pointer none, .bool false, .int .i64 0] 27)).alloc (.cells #[.pointer none, .pointer none, .bool false, .int .i64 0] 27) = W at *
    have hL' := hL.below M0.bel
    have hP' := hP.below M0.bel
    have c0 : W.cell? ⟨w.heap.size, 0, none⟩ = some (.slice la ln lc) := by rw [cell_of_row _ _ _ _ _ _ M0.rc]; rfl
    have c2 : W.cell? ⟨w.heap.size, 2, none⟩ = some (.bool lx) := by rw [cell_of_row _ _ _ _ _ _ M0.rc]; rfl
    cases la with
    | none =>
      cases pa with
      | none =>
        go_wp2_with fail
        go_meet
        exact ⟨none, none, rfl, M0⟩
      | some y =>
        go_wp2_with fail
        refine (join_val W _ _ _ _ _ _ _ _ hP' hL').mono ?_
        rintro e w1 ⟨⟨a, n, c, rfl, hB, hB1, hB2, hB3⟩, hb⟩
        have M1 := M0.below hb
        have hlt := lt_block M1.rr
        have c4 : ∀ o, (w1.alloc o).cell? ⟨w.heap.size + 1 + 1, 0, none⟩ = some (.pointer none) := fun o => by rw [World.cell?_of_block (w := w1) (Below.heap_alloc w1 o _ hlt), cell_of_row _ _ _ _ _ _ M1.rr]; rfl
        have c5 : ∀ o, (w1.alloc o).frozen? ⟨w.heap.size + 1 + 1, 0, none⟩ = false := fun o => by rw [World.frozen?_of_block (w := w1) (Below.heap_alloc w1 o _ hlt), frozen_of_row _ _ _ _ _ M1.rr]
        have M2 := hid (M1.lower (c := c) hB (by omega) false)
        clear M0 M1 hB hL' hP' hL hP hH
        go_wp2_with fail
        go_meet
        exact ⟨_, _, rfl, M2.out⟩
    | some x =>
      cases lx with
      | false =>
        go_wp2_with fail
        refine (join_val W _ _ _ _ _ _ _ _ hP' hL').mono ?_
        rintro e w1 ⟨⟨a, n, c, rfl, hB, hB1, hB2, hB3⟩, hb⟩
        have M1 := M0.below hb
        have hlt := lt_block M1.rr
        have c4 : ∀ o, (w1.alloc o).cell? ⟨w.heap.size + 1 + 1, 0, none⟩ = some (.pointer none) := fun o => by rw [World.cell?_of_block (w := w1) (Below.heap_alloc w1 o _ hlt), cell_of_row _ _ _ _ _ _ M1.rr]; rfl
        have c5 : ∀ o, (w1.alloc o).frozen? ⟨w.heap.size + 1 + 1, 0, none⟩ = false := fun o => by rw [World.frozen?_of_block (w := w1) (Below.heap_alloc w1 o _ hlt), frozen_of_row _ _ _ _ _ M1.rr]
        have M2 := hid (M1.lower (c := c) hB (by omega) false)
        clear M0 M1 hB hL' hP' hL hP hH
        go_wp2_with fail
        go_meet
        exact ⟨_, _, rfl, M2.out⟩
      | true =>
        go_wp2_with fail
        refine (join_val W _ _ _ _ _ _ _ _ hP' hL').mono ?_
        rintro e w1 ⟨⟨a, n, c, rfl, hB, hB1, hB2, hB3⟩, hb⟩
        have M1 := M0.below hb
        go_wp2_with fail
        refine (after_any a n c _ w1 hB (by omega) hB1 hB2).mono ?_
        rintro e w2 ⟨hA, hb2⟩
        have M2 := M1.below hb2
        rcases hA with ⟨hA, rfl⟩ | ⟨q, g, cp, hA, rfl, hq, hql⟩
        · have s0 : w2.cell? ⟨w.heap.size + 1, 0, none⟩ = some (.pointer none) := by rw [cell_of_row _ _ _ _ _ _ M2.rs]; rfl
          have s1 : w2.cell? ⟨w.heap.size + 1, 1, none⟩ = some (.pointer none) := by rw [cell_of_row _ _ _ _ _ _ M2.rs]; rfl
          have s2 : w2.cell? ⟨w.heap.size + 1, 2, none⟩ = some (.bool false) := by rw [cell_of_row _ _ _ _ _ _ M2.rs]; rfl
          have s3 : w2.cell? ⟨w.heap.size + 1, 3, none⟩ = some (.int .i64 0) := by rw [cell_of_row _ _ _ _ _ _ M2.rs]; rfl
          have f0 : w2.frozen? ⟨w.heap.size + 1, 0, none⟩ = false := frozen_of_row _ _ _ _ _ M2.rs
          have f1 : w2.frozen? ⟨w.heap.size + 1, 1, none⟩ = false := frozen_of_row _ _ _ _ _ M2.rs
          have f2 : w2.frozen? ⟨w.heap.size + 1, 2, none⟩ = false := frozen_of_row _ _ _ _ _ M2.rs
          have f3 : w2.frozen? ⟨w.heap.size + 1, 3, none⟩ = false := frozen_of_row _ _ _ _ _ M2.rs
          have RT := hid (M2.ret none none)
          have HA : Hid (lowB true L true pa.isSome P = none) := show _ = _ by rw [lowB]; simp [hA]
          clear M0 M1 M2 hB hL' hP' hL hP hH hA
          go_wp2_with fail
          refine bodyPost_ret (v := .tuple #[.agg #[.pointer none, .pointer none, .bool false, .int .i64 0], .bool false]) (by simp [results, Try.results25, go_sem, s0, s1, s2, s3]) rfl ⟨?_, RT.out.2.2⟩
          show KeysPost _ _ (lowB true L true pa.isSome P) _
          rw [HA.out]
          rfl
        · have hlt := lt_block M2.rr
          have c4 : ∀ o, (w2.alloc o).cell? ⟨w.heap.size + 1 + 1, 0, none⟩ = some (.pointer none) := fun o => by rw [World.cell?_of_block (w := w2) (Below.heap_alloc w2 o _ hlt), cell_of_row _ _ _ _ _ _ M2.rr]; rfl
          have c5 : ∀ o, (w2.alloc o).frozen? ⟨w.heap.size + 1 + 1, 0, none⟩ = false := fun o => by rw [World.frozen?_of_block (w := w2) (Below.heap_alloc w2 o _ hlt), frozen_of_row _ _ _ _ _ M2.rr]
          have hlen : q.length ≤ 524288 := by rw [hB.long] at hql; omega
          have M3 := hid (M2.lower (c := cp) hq (by omega) false)
          have HA : Hid (lowB true L true pa.isSome P = some (some (q, false))) := show _ = _ by rw [lowB]; simp [hA]
          clear M0 M1 M2 hB hL' hP' hL hP hH hq hA
          go_wp2_with fail
          go_meet
          exact ⟨_, _, HA, M3.out⟩
  case rest =>
    obtain ⟨lw, pl, HL, M⟩ := hcut
    have hH' := hH.below M.bel
    have hP' := hP.below M.bel
    have c0 : wc.cell? ⟨w.heap.size, 1, none⟩ = some (.slice ha hn hc) := by rw [cell_of_row _ _ _ _ _ _ M.rc]; rfl
    have c2 : wc.cell? ⟨w.heap.size, 3, none⟩ = some (.bool hx) := by rw [cell_of_row _ _ _ _ _ _ M.rc]; rfl
    go_upto_block 1 with fail
    go_cut [9, 10] (fun s9 s10 wx => ∃ up pu, Hid (uppB ha.isSome H hx pa.isSome P = up) ∧ Mid w wx #[.slice la ln lc, .slice ha hn hc, .bool lx, .bool hx, .bool false] pl pu lw up)
    case first =>
      cases ha with
      | none =>
        cases pa with
        | none =>
          go_wp2_with fail
          go_meet
          exact ⟨none, none, rfl, M⟩
        | some y =>
          go_wp2_with fail
          refine (join_val wc _ _ _ _ _ _ _ _ hP' hH').mono ?_
          rintro e w1 ⟨⟨a, n, c, rfl, hB, hB1, hB2, hB3⟩, hb⟩
          have M1 := M.below hb
          go_wp2_with fail
          refine (after_any a n c _ w1 hB (by omega) hB1 hB2).mono ?_
          rintro e w2 ⟨hA, hb2⟩
          have M2 := M1.below hb2
          rcases hA with ⟨hA, rfl⟩ | ⟨q, g, cp, hA, rfl, hq, hql⟩
          · have HA : Hid (uppB false H hx true P = none) := show _ = _ by rw [uppB]; simp [hA]
            have M3 := hid M2
            clear M M1 M2 hB hH' hP' hL hP hH hA
            go_wp2_with fail
            go_meet
            exact ⟨_, _, HA, M3.out⟩
          · have hlt := lt_block M2.rr
            have c4 : ∀ o, (w2.alloc o).cell? ⟨w.heap.size + 1 + 1, 1, none⟩ = some (.pointer none) := fun o => by rw [World.cell?_of_block (w := w2) (Below.heap_alloc w2 o _ hlt), cell_of_row _ _ _ _ _ _ M2.rr]; rfl
            have c5 : ∀ o, (w2.alloc o).frozen? ⟨w.heap.size + 1 + 1, 1, none⟩ = false := fun o => by rw [World.frozen?_of_block (w := w2) (Below.heap_alloc w2 o _ hlt), frozen_of_row _ _ _ _ _ M2.rr]
            have hlen : q.length ≤ 524288 := by rw [hB.long] at hql; omega
            have M3 := hid (M2.upper (c := cp) hq (by omega) true)
            have HA : Hid (uppB false H hx true P = some (q, true)) := show _ = _ by rw [uppB]; simp [hA]
            clear M M1 M2 hB hH' hP' hL hP hH hq hA
            go_wp2_with fail
            go_meet
            exact ⟨_, _, HA, M3.out⟩
      | some x =>
        cases hx with
        | true =>
          go_wp2_with fail
          refine (join_val wc _ _ _ _ _ _ _ _ hP' hH').mono ?_
          rintro e w1 ⟨⟨a, n, c, rfl, hB, hB1, hB2, hB3⟩, hb⟩
          have M1 := M.below hb
          have hlt := lt_block M1.rr
          have c4 : ∀ o, (w1.alloc o).cell? ⟨w.heap.size + 1 + 1, 1, none⟩ = some (.pointer none) := fun o => by rw [World.cell?_of_block (w := w1) (Below.heap_alloc w1 o _ hlt), cell_of_row _ _ _ _ _ _ M1.rr]; rfl
          have c5 : ∀ o, (w1.alloc o).frozen? ⟨w.heap.size + 1 + 1, 1, none⟩ = false := fun o => by rw [World.frozen?_of_block (w := w1) (Below.heap_alloc w1 o _ hlt), frozen_of_row _ _ _ _ _ M1.rr]
          have M2 := hid (M1.upper (c := c) hB (by omega) true)
          clear M M1 hB hH' hP' hL hP hH
          go_wp2_with fail
          go_meet
          exact ⟨_, _, rfl, M2.out⟩
        | false =>
          go_wp2_with fail
          refine (join_val wc _ _ _ _ _ _ _ _ hP' hH').mono ?_
          rintro e w1 ⟨⟨a, n, c, rfl, hB, hB1, hB2, hB3⟩, hb⟩
          have M1 := M.below hb
          go_wp2_with fail
          refine (after_any a n c _ w1 hB (by omega) hB1 hB2).mono ?_
          rintro e w2 ⟨hA, hb2⟩
          have M2 := M1.below hb2
          rcases hA with ⟨hA, rfl⟩ | ⟨q, g, cp, hA, rfl, hq, hql⟩
          · have HA : Hid (uppB true H false pa.isSome P = none) := show _ = _ by rw [uppB]; simp [hA]
            have M3 := hid M2
            clear M M1 M2 hB hH' hP' hL hP hH hA
            go_wp2_with fail
            go_meet
            exact ⟨_, _, HA, M3.out⟩
          · have hlt := lt_block M2.rr
            have c4 : ∀ o, (w2.alloc o).cell? ⟨w.heap.size + 1 + 1, 1, none⟩ = some (.pointer none) := fun o => by rw [World.cell?_of_block (w := w2) (Below.heap_alloc w2 o _ hlt), cell_of_row _ _ _ _ _ _ M2.rr]; rfl
            have c5 : ∀ o, (w2.alloc o).frozen? ⟨w.heap.size + 1 + 1, 1, none⟩ = false := fun o => by rw [World.frozen?_of_block (w := w2) (Below.heap_alloc w2 o _ hlt), frozen_of_row _ _ _ _ _ M2.rr]
            have hlen : q.length ≤ 524288 := by rw [hB.long] at hql; omega
            have M3 := hid (M2.upper (c := cp) hq (by omega) true)
            have HA : Hid (uppB true H false pa.isSome P = some (q, true)) := show _ = _ by rw [uppB]; simp [hA]
            clear M M1 M2 hB hH' hP' hL hP hH hq hA
            go_wp2_with fail
            go_meet
            exact ⟨_, _, HA, M3.out⟩
    case rest =>
      clear M c0 c2 hH' hP'
      obtain ⟨up, pu, HU, M⟩ := hcut
      have r0 : wc.cell? ⟨w.heap.size + 1 + 1, 0, none⟩ = some (.pointer pl) := by rw [cell_of_row _ _ _ _ _ _ M.rr]; rfl
      have r1 : wc.cell? ⟨w.heap.size + 1 + 1, 1, none⟩ = some (.pointer pu) := by rw [cell_of_row _ _ _ _ _ _ M.rr]; rfl
      have r2 : wc.cell? ⟨w.heap.size + 1 + 1, 2, none⟩ = some (.bool false) := by rw [cell_of_row _ _ _ _ _ _ M.rr]; rfl
      have r3 : wc.cell? ⟨w.heap.size + 1 + 1, 3, none⟩ = some (.int .i64 0) := by rw [cell_of_row _ _ _ _ _ _ M.rr]; rfl
      have s0 : wc.cell? ⟨w.heap.size + 1, 0, none⟩ = some (.pointer none) := by rw [cell_of_row _ _ _ _ _ _ M.rs]; rfl
      have f0 : wc.frozen? ⟨w.heap.size + 1, 0, none⟩ = false := frozen_of_row _ _ _ _ _ M.rs
      have s1 : wc.cell? ⟨w.heap.size + 1, 1, none⟩ = some (.pointer none) := by rw [cell_of_row _ _ _ _ _ _ M.rs]; rfl
      have f1 : wc.frozen? ⟨w.heap.size + 1, 1, none⟩ = false := frozen_of_row _ _ _ _ _ M.rs
      have s2 : wc.cell? ⟨w.heap.size + 1, 2, none⟩ = some (.bool false) := by rw [cell_of_row _ _ _ _ _ _ M.rs]; rfl
      have f2 : wc.frozen? ⟨w.heap.size + 1, 2, none⟩ = false := frozen_of_row _ _ _ _ _ M.rs
      have s3 : wc.cell? ⟨w.heap.size + 1, 3, none⟩ = some (.int .i64 0) := by rw [cell_of_row _ _ _ _ _ _ M.rs]; rfl
      have f3 : wc.frozen? ⟨w.heap.size + 1, 3, none⟩ = false := frozen_of_row _ _ _ _ _ M.rs
      have RT := hid (M.ret pl pu)
      clear M M0 hL hH hP
      go_wp2_with fail
      refine bodyPost_ret (v := .tuple #[.agg #[.pointer pl, .pointer pu, .bool false, .int .i64 0], .bool true]) (by simp [results, Try.results25, go_sem, s0, s1, s2, s3]) rfl ⟨?_, RT.out.2.2⟩
      rw [HL.out, HU.out]
      exact ⟨pl, pu, rfl, RT.out.1, RT.out.2.1⟩

end Go.Proofs.Qxb6000023a
