import Derived.Test.Qxb6601850aBase
import Derived.Lib.Strings
namespace Go.Proofs.Qxb6601850a

/-- The model's decoding out of the bytes and of what is known of the next ones. -/
def dc (b0 a1 a2 a3 : Nat) (c1 c2 c3 : Bool) : Nat × Nat :=
  if b0 < 0x80 then (b0, 1)
  else if b0 / 32 == 6 && c1 then
    (if (b0 % 32) * 64 + a1 % 64 ≥ 0x80 then ((b0 % 32) * 64 + a1 % 64, 2) else (Utf8.runeError, 1))
  else if b0 / 16 == 14 && c1 && c2 then
    (if (b0 % 16) * 4096 + (a1 % 64) * 64 + a2 % 64 ≥ 0x800 && Utf8.valid ((b0 % 16) * 4096 + (a1 % 64) * 64 + a2 % 64 : Nat) then ((b0 % 16) * 4096 + (a1 % 64) * 64 + a2 % 64, 3) else (Utf8.runeError, 1))
  else if b0 / 8 == 30 && c1 && c2 && c3 then
    (if (b0 % 8) * 262144 + (a1 % 64) * 4096 + (a2 % 64) * 64 + a3 % 64 ≥ 0x10000 && Utf8.valid ((b0 % 8) * 262144 + (a1 % 64) * 4096 + (a2 % 64) * 64 + a3 % 64 : Nat) then ((b0 % 8) * 262144 + (a1 % 64) * 4096 + (a2 % 64) * 64 + a3 % 64, 4) else (Utf8.runeError, 1))
  else (Utf8.runeError, 1)
def dw (b0 a1 a2 a3 : Nat) (c1 c2 c3 : Bool) : Nat := (dc b0 a1 a2 a3 c1 c2 c3).2

def bt (s : ByteArray) (i : Nat) : Nat := (s.get! i).toNat
def cont (s : ByteArray) (i : Nat) : Bool := decide (i < s.size) && bt s i / 64 == 2

theorem wd_dw (s : ByteArray) (i : Nat) : wd s i = dw (bt s i) (bt s (i + 1)) (bt s (i + 2)) (bt s (i + 3)) (cont s (i + 1)) (cont s (i + 2)) (cont s (i + 3)) := by
  unfold wd dw Utf8.decode dc bt cont
  rfl

def V2 (b0 a1 : Nat) : Prop := (b0 % 32) * 64 + a1 % 64 ≥ 0x80
def V3 (b0 a1 a2 : Nat) : Prop := ((decide ((b0 % 16) * 4096 + (a1 % 64) * 64 + a2 % 64 ≥ 0x800)) && Utf8.valid ((b0 % 16) * 4096 + (a1 % 64) * 64 + a2 % 64 : Nat)) = true
def V4 (b0 a1 a2 a3 : Nat) : Prop := ((decide ((b0 % 8) * 262144 + (a1 % 64) * 4096 + (a2 % 64) * 64 + a3 % 64 ≥ 0x10000)) && Utf8.valid ((b0 % 8) * 262144 + (a1 % 64) * 4096 + (a2 % 64) * 64 + a3 % 64 : Nat)) = true

theorem dw_low (b0 a1 a2 a3 : Nat) (c1 c2 c3 : Bool) (h : b0 < 128) : dw b0 a1 a2 a3 c1 c2 c3 = 1 := by
  unfold dw dc
  rw [if_pos h]

theorem dw_two (b0 a1 a2 a3 : Nat) (c1 c2 c3 : Bool) (hq : b0 / 32 = 6) : (c1 = true ∧ V2 b0 a1 → dw b0 a1 a2 a3 c1 c2 c3 = 2) ∧ (¬ (c1 = true ∧ V2 b0 a1) → dw b0 a1 a2 a3 c1 c2 c3 = 1) := by
  have e2 : (b0 / 32 == 6) = true := by simpa using hq
  have e3 : (b0 / 16 == 14) = false := by rw [beq_eq_false_iff_ne]; omega
  have e4 : (b0 / 8 == 30) = false := by rw [beq_eq_false_iff_ne]; omega
  unfold dw dc V2
  rw [if_neg (by omega), e2, e3, e4]
  simp only [Bool.true_and, Bool.false_and, Bool.false_eq_true, if_false]
  constructor
  · rintro ⟨h, hv⟩
    rw [if_pos h, if_pos hv]
  · intro h
    by_cases hc : c1 = true
    · rw [if_pos hc, if_neg (fun hv => h ⟨hc, hv⟩)]
    · rw [if_neg hc]

theorem dw_three (b0 a1 a2 a3 : Nat) (c1 c2 c3 : Bool) (hq : b0 / 16 = 14) : ((c1 && c2) = true ∧ V3 b0 a1 a2 → dw b0 a1 a2 a3 c1 c2 c3 = 3) ∧ (¬ ((c1 && c2) = true ∧ V3 b0 a1 a2) → dw b0 a1 a2 a3 c1 c2 c3 = 1) := by
  have e2 : (b0 / 32 == 6) = false := by rw [beq_eq_false_iff_ne]; omega
  have e3 : (b0 / 16 == 14) = true := by simpa using hq
  have e4 : (b0 / 8 == 30) = false := by rw [beq_eq_false_iff_ne]; omega
  unfold dw dc V3
  rw [if_neg (by omega), e2, e3, e4]
  simp only [Bool.true_and, Bool.false_and, Bool.false_eq_true, if_false]
  constructor
  · rintro ⟨h, hv⟩
    rw [if_pos h, if_pos hv]
  · intro h
    by_cases hc : (c1 && c2) = true
    · rw [if_pos hc, if_neg (fun hv => h ⟨hc, hv⟩)]
    · rw [if_neg hc]

theorem dw_four (b0 a1 a2 a3 : Nat) (c1 c2 c3 : Bool) (hq : b0 / 8 = 30) : ((c1 && c2 && c3) = true ∧ V4 b0 a1 a2 a3 → dw b0 a1 a2 a3 c1 c2 c3 = 4) ∧ (¬ ((c1 && c2 && c3) = true ∧ V4 b0 a1 a2 a3) → dw b0 a1 a2 a3 c1 c2 c3 = 1) := by
  have e2 : (b0 / 32 == 6) = false := by rw [beq_eq_false_iff_ne]; omega
  have e3 : (b0 / 16 == 14) = false := by rw [beq_eq_false_iff_ne]; omega
  have e4 : (b0 / 8 == 30) = true := by simpa using hq
  unfold dw dc V4
  rw [if_neg (by omega), e2, e3, e4]
  simp only [Bool.true_and, Bool.false_and, Bool.false_eq_true, if_false]
  constructor
  · rintro ⟨h, hv⟩
    rw [if_pos h, if_pos hv]
  · intro h
    by_cases hc : (c1 && c2 && c3) = true
    · rw [if_pos hc, if_neg (fun hv => h ⟨hc, hv⟩)]
    · rw [if_neg hc]

theorem dw_other (b0 a1 a2 a3 : Nat) (c1 c2 c3 : Bool) (h0 : ¬ b0 < 128) (h2 : ¬ b0 / 32 = 6) (h3 : ¬ b0 / 16 = 14) (h4 : ¬ b0 / 8 = 30) : dw b0 a1 a2 a3 c1 c2 c3 = 1 := by
  have e2 : (b0 / 32 == 6) = false := by rw [beq_eq_false_iff_ne]; omega
  have e3 : (b0 / 16 == 14) = false := by rw [beq_eq_false_iff_ne]; omega
  have e4 : (b0 / 8 == 30) = false := by rw [beq_eq_false_iff_ne]; omega
  unfold dw dc
  rw [if_neg h0, e2, e3, e4]
  simp only [Bool.false_and, Bool.false_eq_true, if_false]

/-- Truncated behind the character: the same width. -/
theorem dw_cut (b0 a1 a2 a3 b1 b2 b3 : Nat) (c1 c2 c3 d1 d2 d3 : Bool)
    (h1 : d1 = true → c1 = true ∧ a1 = b1) (h2 : d2 = true → c2 = true ∧ a2 = b2) (h3 : d3 = true → c3 = true ∧ a3 = b3)
    (g1 : 2 ≤ dw b0 a1 a2 a3 c1 c2 c3 → c1 = true → d1 = true) (g2 : 3 ≤ dw b0 a1 a2 a3 c1 c2 c3 → c2 = true → d2 = true) (g3 : 4 ≤ dw b0 a1 a2 a3 c1 c2 c3 → c3 = true → d3 = true) :
    dw b0 b1 b2 b3 d1 d2 d3 = dw b0 a1 a2 a3 c1 c2 c3 := by
  by_cases q0 : b0 < 128
  · rw [dw_low _ _ _ _ _ _ _ q0, dw_low _ _ _ _ _ _ _ q0]
  by_cases q2 : b0 / 32 = 6
  · have C := dw_two b0 a1 a2 a3 c1 c2 c3 q2
    have D := dw_two b0 b1 b2 b3 d1 d2 d3 q2
    by_cases hc : c1 = true ∧ V2 b0 a1
    · have e := C.1 hc
      have hd := g1 (by omega) hc.1
      rw [e, D.1 ⟨hd, by rw [← (h1 hd).2]; exact hc.2⟩]
    · rw [C.2 hc, D.2 (fun hd => hc ⟨(h1 hd.1).1, by rw [(h1 hd.1).2]; exact hd.2⟩)]
  by_cases q3 : b0 / 16 = 14
  · have C := dw_three b0 a1 a2 a3 c1 c2 c3 q3
    have D := dw_three b0 b1 b2 b3 d1 d2 d3 q3
    simp only [Bool.and_eq_true] at C D
    by_cases hc : (c1 = true ∧ c2 = true) ∧ V3 b0 a1 a2
    · have e := C.1 hc
      have hd1 := g1 (by omega) hc.1.1
      have hd2 := g2 (by omega) hc.1.2
      rw [e, D.1 ⟨⟨hd1, hd2⟩, by rw [← (h1 hd1).2, ← (h2 hd2).2]; exact hc.2⟩]
    · rw [C.2 hc, D.2 (fun hd => hc ⟨⟨(h1 hd.1.1).1, (h2 hd.1.2).1⟩, by rw [(h1 hd.1.1).2, (h2 hd.1.2).2]; exact hd.2⟩)]
  by_cases q4 : b0 / 8 = 30
  · have C := dw_four b0 a1 a2 a3 c1 c2 c3 q4
    have D := dw_four b0 b1 b2 b3 d1 d2 d3 q4
    simp only [Bool.and_eq_true] at C D
    by_cases hc : ((c1 = true ∧ c2 = true) ∧ c3 = true) ∧ V4 b0 a1 a2 a3
    · have e := C.1 hc
      have hd1 := g1 (by omega) hc.1.1.1
      have hd2 := g2 (by omega) hc.1.1.2
      have hd3 := g3 (by omega) hc.1.2
      rw [e, D.1 ⟨⟨⟨hd1, hd2⟩, hd3⟩, by rw [← (h1 hd1).2, ← (h2 hd2).2, ← (h3 hd3).2]; exact hc.2⟩]
    · rw [C.2 hc, D.2 (fun hd => hc ⟨⟨⟨(h1 hd.1.1.1).1, (h2 hd.1.1.2).1⟩, (h3 hd.1.2).1⟩, by rw [(h1 hd.1.1.1).2, (h2 hd.1.1.2).2, (h3 hd.1.2).2]; exact hd.2⟩)]
  · rw [dw_other _ _ _ _ _ _ _ q0 q2 q3 q4, dw_other _ _ _ _ _ _ _ q0 q2 q3 q4]

theorem get_list (s : ByteArray) (k : Nat) : s.get! k = s.data.toList.getD k 0 := by
  obtain ⟨⟨l⟩⟩ := s
  show (Array.mk l)[k]! = _
  rw [List.getD_eq_getElem?_getD]
  by_cases h : k < l.length
  · rw [getElem!_pos (Array.mk l) k h]
    simp [h]
  · rw [getElem!_neg (Array.mk l) k h]
    simp [h]
    rfl

theorem bt_extract (s : ByteArray) (a b k : Nat) (h : a + k < b) : bt (s.extract a b) k = bt s (a + k) := by
  unfold bt
  rw [get_list, get_list, Lib.extract_data, List.getD_eq_getElem?_getD, List.getD_eq_getElem?_getD, List.getElem?_take, if_pos (by omega), List.getElem?_drop]

theorem size_extract (s : ByteArray) (a b : Nat) (h : a ≤ b) (hb : b ≤ s.size) : (s.extract a b).size = b - a := by
  rw [ByteArray.size_extract]
  omega

theorem wd_prefix (s : ByteArray) (i p : Nat) (hi : i ≤ s.size) (hp : p < i) (h : p + wd s p ≤ i) : wd (s.extract 0 i) p = wd s p := by
  have hz := size_extract s 0 i (Nat.zero_le _) hi
  have e : ∀ k, p + k < i → bt (s.extract 0 i) (p + k) = bt s (p + k) := fun k hk => by
    rw [bt_extract s 0 i (p + k) (by omega), Nat.zero_add]
  have e0 : bt (s.extract 0 i) p = bt s p := e 0 (by omega)
  have key : ∀ k, cont (s.extract 0 i) (p + k) = true → cont s (p + k) = true ∧ bt s (p + k) = bt (s.extract 0 i) (p + k) := by
    intro k hk
    simp only [cont, Bool.and_eq_true, decide_eq_true_eq, hz] at hk ⊢
    have := e k (by omega)
    rw [this] at hk ⊢
    exact ⟨⟨by omega, hk.2⟩, rfl⟩
  have back : ∀ k, p + k < i → cont s (p + k) = true → cont (s.extract 0 i) (p + k) = true := by
    intro k hk hc
    simp only [cont, Bool.and_eq_true, decide_eq_true_eq, hz] at hc ⊢
    rw [e k hk]
    exact ⟨by omega, hc.2⟩
  rw [wd_dw s p] at h ⊢
  rw [wd_dw, e0]
  exact dw_cut _ _ _ _ _ _ _ _ _ _ _ _ _ (key 1) (key 2) (key 3) (fun g => back 1 (by omega)) (fun g => back 2 (by omega)) (fun g => back 3 (by omega))

theorem dw_same (b0 a1 a2 a3 b1 b2 b3 : Nat) (c1 c2 c3 : Bool) (h1 : c1 = true → a1 = b1) (h2 : c2 = true → a2 = b2) (h3 : c3 = true → a3 = b3) : dw b0 b1 b2 b3 c1 c2 c3 = dw b0 a1 a2 a3 c1 c2 c3 :=
  dw_cut _ _ _ _ _ _ _ _ _ _ _ _ _ (fun h => ⟨h, h1 h⟩) (fun h => ⟨h, h2 h⟩) (fun h => ⟨h, h3 h⟩) (fun _ h => h) (fun _ h => h) (fun _ h => h)

theorem wd_suffix (s : ByteArray) (i p : Nat) (hi : i ≤ s.size) (hp : i + p < s.size) : wd (s.extract i s.size) p = wd s (i + p) := by
  have hz := size_extract s i s.size hi (Nat.le_refl _)
  have e : ∀ k, i + p + k < s.size → bt (s.extract i s.size) (p + k) = bt s (i + p + k) := fun k hk => by
    rw [bt_extract s i s.size (p + k) (by omega), Nat.add_assoc]
  have e0 : bt (s.extract i s.size) p = bt s (i + p) := e 0 (by omega)
  have ec : ∀ k, cont (s.extract i s.size) (p + k) = cont s (i + p + k) := by
    intro k
    by_cases hk : i + p + k < s.size
    · simp only [cont, hz, e k hk]
      congr 1
      rw [decide_eq_decide]
      omega
    · have x : decide (p + k < (s.extract i s.size).size) = false := by rw [decide_eq_false_iff_not, hz]; omega
      have y : decide (i + p + k < s.size) = false := by rw [decide_eq_false_iff_not]; exact hk
      simp only [cont, x, y, Bool.false_and]
  have key : ∀ k, cont s (i + p + k) = true → bt s (i + p + k) = bt (s.extract i s.size) (p + k) := by
    intro k hk
    simp only [cont, Bool.and_eq_true, decide_eq_true_eq] at hk
    exact (e k hk.1).symm
  rw [wd_dw, wd_dw s (i + p), e0, ec 1, ec 2, ec 3]
  exact dw_same _ _ _ _ _ _ _ _ _ _ (key 1) (key 2) (key 3)

theorem cnt_fuel (s : ByteArray) : ∀ (f f' p : Nat), s.size ≤ p + f → s.size ≤ p + f' → Lib.runeCountFrom s f p = Lib.runeCountFrom s f' p
  | 0, f', p, h, h' => by rw [Lib.runeCountFrom_end s 0 p (by omega), Lib.runeCountFrom_end s f' p (by omega)]
  | f + 1, 0, p, h, h' => by rw [Lib.runeCountFrom_end s (f + 1) p (by omega), Lib.runeCountFrom_end s 0 p (by omega)]
  | f + 1, f' + 1, p, h, h' => by
    by_cases hp : p < s.size
    · have hw := wd_pos s p hp
      rw [Lib.runeCountFrom, Lib.runeCountFrom, if_pos hp, if_pos hp]
      unfold wd at hw
      rw [cnt_fuel s f f' _ (by omega) (by omega)]
    · rw [Lib.runeCountFrom_end s (f + 1) p hp, Lib.runeCountFrom_end s (f' + 1) p hp]

def cnt (s : ByteArray) (p : Nat) : Nat := Lib.runeCountFrom s s.size p

theorem cnt_step (s : ByteArray) (p : Nat) (hp : p < s.size) : cnt s p = 1 + cnt s (p + wd s p) := by
  have hw := wd_pos s p hp
  unfold cnt
  rw [cnt_fuel s s.size (s.size + 1) p (by omega) (by omega), Lib.runeCountFrom, if_pos hp]
  rfl

theorem cnt_end (s : ByteArray) (p : Nat) (hp : s.size ≤ p) : cnt s p = 0 := Lib.runeCountFrom_end s _ p (by omega)

theorem cnt_jump (s : ByteArray) : ∀ k, (∀ j, j < k → jump s j < s.size) → cnt s 0 = k + cnt s (jump s k)
  | 0, _ => by simp [jump]
  | k + 1, h => by
    rw [cnt_jump s k (fun j hj => h j (by omega)), cnt_step s (jump s k) (h k (by omega)), jump]
    omega

theorem jump_mono (s : ByteArray) (k d : Nat) : jump s k ≤ jump s (k + d) := by
  induction d with
  | zero => exact Nat.le_refl _
  | succ d ih =>
    show _ ≤ jump s (k + d) + _
    omega

theorem jump_prefix (s : ByteArray) (m : Nat) (h : ∀ j, j < m → jump s j < s.size) (hm : jump s m ≤ s.size) : ∀ k, k ≤ m → jump (s.extract 0 (jump s m)) k = jump s k := by
  intro k
  induction k with
  | zero => intro _; rfl
  | succ k ih =>
    intro hk
    have e := ih (by omega)
    have hmono := jump_mono s (k + 1) (m - (k + 1))
    rw [show k + 1 + (m - (k + 1)) = m by omega] at hmono
    have hs : jump s (k + 1) = jump s k + wd s (jump s k) := rfl
    have hw := wd_pos s (jump s k) (h k (by omega))
    rw [jump, e, wd_prefix s (jump s m) (jump s k) hm (by omega) (by omega)]
    rfl

theorem cnt_prefix (s : ByteArray) (m : Nat) (h : ∀ j, j < m → jump s j < s.size) (hm : jump s m ≤ s.size) : cnt (s.extract 0 (jump s m)) 0 = m := by
  have hz := size_extract s 0 (jump s m) (Nat.zero_le _) hm
  have hj := jump_prefix s m h hm
  rw [cnt_jump (s.extract 0 (jump s m)) m (fun j hjm => by
    rw [hj j (by omega), hz]
    have hmono := jump_mono s (j + 1) (m - (j + 1))
    rw [show j + 1 + (m - (j + 1)) = m by omega] at hmono
    have hs : jump s (j + 1) = jump s j + wd s (jump s j) := rfl
    have hw := wd_pos s (jump s j) (h j hjm)
    omega), hj m (Nat.le_refl _), cnt_end _ _ (by rw [hz]; omega)]
  rfl

theorem cntF_suffix (s : ByteArray) (i : Nat) (hi : i ≤ s.size) : ∀ f p, Lib.runeCountFrom (s.extract i s.size) f p = Lib.runeCountFrom s f (i + p)
  | 0, p => rfl
  | f + 1, p => by
    have hz := size_extract s i s.size hi (Nat.le_refl _)
    by_cases hp : i + p < s.size
    · have e := wd_suffix s i p hi hp
      unfold wd at e
      rw [Lib.runeCountFrom, Lib.runeCountFrom, if_pos (by rw [hz]; omega), if_pos hp, e, cntF_suffix s i hi f, Nat.add_assoc]
    · rw [Lib.runeCountFrom_end _ _ _ (by rw [hz]; omega), Lib.runeCountFrom_end _ _ _ hp]

theorem cnt_suffix (s : ByteArray) (i : Nat) (hi : i ≤ s.size) : cnt (s.extract i s.size) 0 = cnt s i := by
  have hz := size_extract s i s.size hi (Nat.le_refl _)
  unfold cnt
  rw [cntF_suffix s i hi, Nat.add_zero, hz]
  exact cnt_fuel s _ _ i (by omega) (by omega)

end Go.Proofs.Qxb6601850a
