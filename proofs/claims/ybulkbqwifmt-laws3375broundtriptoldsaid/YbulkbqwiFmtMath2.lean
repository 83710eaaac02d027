/-
  DERIVED. PLAIN ARITHMETIC for the seat, second part: runs of digits as lists of bytes. No dump in it.
-/
import Derived.Test.YbulkbqwiFmtMath
import GoSem.Dispatch
namespace Go.Proofs.YbulkbqwiFmt
namespace M
open Go

def isD (c : UInt8) : Bool := decide (48 ≤ c.toNat) && decide (c.toNat ≤ 57)
def dg (c : UInt8) : Nat := c.toNat - 48
def val (l : List UInt8) : Nat := l.foldl (fun v c => v * 10 + dg c) 0
theorem isD_iff (c : UInt8) : isD c = true ↔ 48 ≤ c.toNat ∧ c.toNat ≤ 57 := by simp [isD]
theorem dg_le {c : UInt8} (h : isD c = true) : dg c ≤ 9 := by have := (isD_iff c).1 h; unfold dg; omega

theorem foldl_val (l : List UInt8) (v : Nat) : l.foldl (fun v c => v * 10 + dg c) v = v * 10 ^ l.length + val l := by
  induction l generalizing v with
  | nil => simp [val]
  | cons c r ih =>
    unfold val
    rw [List.foldl_cons, List.foldl_cons, ih, ih (0 * 10 + dg c), List.length_cons, Nat.pow_succ, Nat.add_mul, Nat.zero_mul, Nat.zero_add, Nat.mul_assoc, Nat.mul_comm 10, Nat.add_assoc]
theorem val_nil : val [] = 0 := rfl
theorem val_append (a b : List UInt8) : val (a ++ b) = val a * 10 ^ b.length + val b := by
  have h : val (a ++ b) = b.foldl (fun v c => v * 10 + dg c) (val a) := by unfold val; rw [List.foldl_append]
  rw [h, foldl_val]
theorem val_cons (c : UInt8) (l : List UInt8) : val (c :: l) = dg c * 10 ^ l.length + val l := by
  have := val_append [c] l
  simpa [val] using this
theorem val_snoc (l : List UInt8) (c : UInt8) : val (l ++ [c]) = val l * 10 + dg c := by
  rw [val_append]; simp [val]
theorem val_lt (l : List UInt8) (h : l.all isD = true) : val l < 10 ^ l.length := by
  induction l with
  | nil => simp [val]
  | cons c r ih =>
    rw [List.all_cons, Bool.and_eq_true] at h
    have hr := ih h.2
    have hc := dg_le h.1
    rw [val_cons, List.length_cons, Nat.pow_succ]
    have : dg c * 10 ^ r.length ≤ 9 * 10 ^ r.length := Nat.mul_le_mul_right _ hc
    omega
theorem val_mono (a b : List UInt8) : val a ≤ val (a ++ b) := by
  rw [val_append]
  have : val a * 1 ≤ val a * 10 ^ b.length := Nat.mul_le_mul_left _ (Nat.pow_pos (by decide))
  omega

/-! the order of two texts of digits -/
theorem less_val : ∀ (a b : List UInt8), a.length = b.length → a.all isD = true → b.all isD = true → (Op.bytesLess a b = true ↔ val a < val b) ∧ ((a == b) = true ↔ val a = val b)
  | [], [], _, _, _ => by simp [Op.bytesLess, val]
  | [], _ :: _, h, _, _ => by simp at h
  | _ :: _, [], h, _, _ => by simp at h
  | x :: a, y :: b, h, ha, hb => by
    simp only [List.length_cons, Nat.add_right_cancel_iff] at h
    simp only [List.all_cons, Bool.and_eq_true] at ha hb
    have ih := less_val a b h ha.2 hb.2
    have hx := (isD_iff x).1 ha.1
    have hy := (isD_iff y).1 hb.1
    have la := val_lt a ha.2
    have lb := val_lt b hb.2
    rw [val_cons, val_cons, h]
    rw [h] at la
    have ea : dg x = x.toNat - 48 := rfl
    have eb : dg y = y.toNat - 48 := rfl
    have hlt : (x < y) ↔ dg x < dg y := by rw [UInt8.lt_iff_toNat_lt]; omega
    have heq : x = y ↔ dg x = dg y := by rw [← UInt8.toNat_inj]; omega
    rcases Nat.lt_trichotomy (dg x) (dg y) with hc | hc | hc
    · have h1 : dg x * 10 ^ b.length + 10 ^ b.length ≤ dg y * 10 ^ b.length := by
        rw [← Nat.succ_mul]; exact Nat.mul_le_mul_right _ hc
      have h2 : ¬ x = y := by rw [heq]; omega
      constructor
      · simp only [Op.bytesLess, Bool.or_eq_true, decide_eq_true_eq]
        exact ⟨fun _ => by omega, fun _ => Or.inl (hlt.2 hc)⟩
      · simp only [beq_iff_eq, List.cons.injEq]
        exact ⟨fun hh => absurd hh.1 h2, fun hh => by omega⟩
    · have h2 : x = y := heq.2 hc
      subst h2
      constructor
      · simp only [Op.bytesLess, Bool.or_eq_true, decide_eq_true_eq, beq_self_eq_true, Bool.true_and, ih.1]
        constructor
        · rintro (hh | hh)
          · exact absurd hh (UInt8.lt_irrefl x)
          · omega
        · intro hh; right; omega
      · have := ih.2
        simp only [beq_iff_eq] at this
        simp only [beq_iff_eq, List.cons.injEq, true_and, this]
        omega
    · have h1 : dg y * 10 ^ b.length + 10 ^ b.length ≤ dg x * 10 ^ b.length := by
        rw [← Nat.succ_mul]; exact Nat.mul_le_mul_right _ hc
      have h2 : ¬ x = y := by rw [heq]; omega
      constructor
      · simp only [Op.bytesLess, Bool.or_eq_true, decide_eq_true_eq, Bool.and_eq_true, beq_iff_eq]
        refine ⟨fun hh => ?_, fun hh => by omega⟩
        rcases hh with hh | hh
        · have := hlt.1 hh
          omega
        · exact absurd hh.1 h2
      · simp only [beq_iff_eq, List.cons.injEq]
        exact ⟨fun hh => absurd hh.1 h2, fun hh => by omega⟩

def maxT : List UInt8 := [49, 56, 52, 52, 54, 55, 52, 52, 48, 55, 51, 55, 48, 57, 53, 53, 49, 54, 49, 53]
def gtB (l : List UInt8) : Bool := !Op.bytesLess l [49, 56, 52, 52, 54, 55, 52, 52, 48, 55, 51, 55, 48, 57, 53, 53, 49, 54, 49, 53] && !l == [49, 56, 52, 52, 54, 55, 52, 52, 48, 55, 51, 55, 48, 57, 53, 53, 49, 54, 49, 53]
theorem gtB_val (l : List UInt8) (h : l.length = 20) (hd : l.all isD = true) : gtB l = true ↔ 18446744073709551615 < val l := by
  have hv : val [49, 56, 52, 52, 54, 55, 52, 52, 48, 55, 51, 55, 48, 57, 53, 53, 49, 54, 49, 53] = 18446744073709551615 := by decide
  have := less_val l [49, 56, 52, 52, 54, 55, 52, 52, 48, 55, 51, 55, 48, 57, 53, 53, 49, 54, 49, 53] (by rw [h]; rfl) hd (by decide)
  rw [hv] at this
  unfold gtB
  simp only [Bool.and_eq_true, Bool.not_eq_true', ← Bool.not_eq_true, this.1, this.2]
  omega

/-- what 'pastMaxTime' says. -/
def pastB (l : List UInt8) : Bool := if 20 < l.length then true else if l.length = 20 then gtB l else false
theorem pow20 : (10 : Nat) ^ 20 = 100000000000000000000 := by decide
theorem pow19 : (10 : Nat) ^ 19 = 10000000000000000000 := by decide

/-- the numeral reads as a number of 64 bits, and is what a Time's text is. -/
def okB (l : List UInt8) : Bool := !l.isEmpty && !(decide (1 < l.length) && l.getD 0 0 == 48) && l.all isD && decide (val l < 18446744073709551616)
def okD (l : List UInt8) : Bool := !l.isEmpty && !pastB l && l.all isD

theorem pow_le (n : Nat) (h : n ≤ 19) : (10 : Nat) ^ n ≤ 10000000000000000000 := by
  rw [← pow19]; exact Nat.pow_le_pow_right (by decide) h

theorem past_val (l : List UInt8) (hd : l.all isD = true) (hz : l.length ≤ 20) : pastB l = true ↔ 18446744073709551615 < val l := by
  unfold pastB
  rw [if_neg (by omega)]
  by_cases h : l.length = 20
  · rw [if_pos h]; exact gtB_val l h hd
  · rw [if_neg h]
    have h1 := val_lt l hd
    have h2 := pow_le l.length (by omega)
    constructor
    · intro hh; cases hh
    · intro hh; omega

/-- a numeral without a leading zero, of more than twenty digits, is too great. -/
theorem long_val (l : List UInt8) (hd : l.all isD = true) (hz : 20 < l.length) (h0 : l.getD 0 0 ≠ 48) : 18446744073709551616 ≤ val l := by
  match l, hz with
  | c :: r, hz =>
    simp only [List.all_cons, Bool.and_eq_true] at hd
    have hc := (isD_iff c).1 hd.1
    have hne : c.toNat ≠ 48 := by
      intro e
      apply h0
      simp only [List.getD_cons_zero]
      rw [← UInt8.toNat_inj, e]; rfl
    have h1 : 1 ≤ dg c := by unfold dg; omega
    rw [val_cons]
    have h2 : (10 : Nat) ^ 20 ≤ 10 ^ r.length := Nat.pow_le_pow_right (by decide) (by simp only [List.length_cons] at hz; omega)
    rw [pow20] at h2
    have h3 : 1 * 10 ^ r.length ≤ dg c * 10 ^ r.length := Nat.mul_le_mul_right _ h1
    omega

/-- 'parseTime' takes what the model takes. -/
theorem ok_iff (l : List UInt8) : okB l = (okD l && !(decide (1 < l.length) && l.getD 0 0 == 48)) := by
  unfold okB okD
  cases he : l.isEmpty with
  | true => simp
  | false =>
    cases hd : l.all isD with
    | false => simp
    | true =>
      cases hz : (decide (1 < l.length) && l.getD 0 0 == 48) with
      | true => simp
      | false =>
        simp only [Bool.not_false, Bool.true_and, Bool.and_true]
        rcases Nat.lt_or_ge 20 l.length with h | h
        · have h0 : l.getD 0 0 ≠ 48 := by
            intro e
            rw [e] at hz
            simp at hz
            omega
          have := long_val l hd h h0
          have hp : pastB l = true := by unfold pastB; rw [if_pos h]
          rw [hp, decide_eq_false (by omega)]; rfl
        · have := past_val l hd h
          cases hp : pastB l with
          | true => rw [hp] at this; rw [decide_eq_false (by have := this.1 rfl; omega)]; rfl
          | false =>
            rw [hp] at this
            have h2 : ¬ 18446744073709551615 < val l := fun hh => by have := this.2 hh; cases this
            rw [decide_eq_true (by omega)]; rfl

/-- the value, where it is taken. -/
theorem okD_val {l : List UInt8} (h : okD l = true) : l.all isD = true ∧ l.length ≤ 20 ∧ val l < 18446744073709551616 ∧ 1 ≤ l.length := by
  unfold okD at h
  simp only [Bool.and_eq_true, Bool.not_eq_true'] at h
  obtain ⟨⟨h1, h2⟩, h3⟩ := h
  have hz : l.length ≤ 20 := by
    rcases Nat.lt_or_ge 20 l.length with hh | hh
    · unfold pastB at h2; rw [if_pos hh] at h2; cases h2
    · exact hh
  refine ⟨h3, hz, ?_, ?_⟩
  · have := past_val l h3 hz
    rw [h2] at this
    have h2 : ¬ 18446744073709551615 < val l := fun hh => by have := this.2 hh; cases this
    omega
  · cases l with
    | nil => simp at h1
    | cons c r => simp

/-! words of eight bytes -/
theorem le_word (b0 b1 b2 b3 b4 b5 b6 b7 : UInt8) : Lib.leNat [b0, b1, b2, b3, b4, b5, b6, b7] = word b0.toNat b1.toNat b2.toNat b3.toNat b4.toNat b5.toNat b6.toNat b7.toNat := by
  simp only [Lib.leNat, word, Nat.mul_zero, Nat.add_zero]
theorem le_append (a b : List UInt8) : Lib.leNat (a ++ b) = Lib.leNat a + 256 ^ a.length * Lib.leNat b := by
  induction a with
  | nil => simp [Lib.leNat]
  | cons c r ih =>
    rw [List.cons_append, Lib.leNat, Lib.leNat, ih, List.length_cons, Nat.pow_succ, Nat.mul_add, Nat.add_assoc, Nat.mul_comm (256 ^ r.length) 256, Nat.mul_assoc]
theorem le_lt (l : List UInt8) : Lib.leNat l < 256 ^ l.length := by
  induction l with
  | nil => simp [Lib.leNat]
  | cons c r ih =>
    rw [Lib.leNat, List.length_cons, Nat.pow_succ]
    have := c.toNat_lt
    omega

theorem isD_nat (c : UInt8) : isD c = true → ∃ d, d ≤ 9 ∧ c.toNat = d + 48 ∧ dg c = d := fun h => by
  have := (isD_iff c).1 h
  exact ⟨c.toNat - 48, by omega, by omega, rfl⟩

theorem word_fault (P : List UInt8) (h : P.length = 8) : fw (Lib.leNat P) = 0 ↔ P.all isD = true := by
  match P, h with
  | [b0, b1, b2, b3, b4, b5, b6, b7], _ =>
    rw [le_word, fw_zero _ _ _ _ _ _ _ _ b0.toNat_lt b1.toNat_lt b2.toNat_lt b3.toNat_lt b4.toNat_lt b5.toNat_lt b6.toNat_lt b7.toNat_lt]
    simp only [List.all_cons, List.all_nil, Bool.and_true, Bool.and_eq_true, isD_iff]
theorem word_val (P : List UInt8) (h : P.length = 8) (hd : P.all isD = true) : dvI (Lib.leNat P : Int) = (val P : Int) := by
  match P, h with
  | [b0, b1, b2, b3, b4, b5, b6, b7], _ =>
    simp only [List.all_cons, List.all_nil, Bool.and_true, Bool.and_eq_true] at hd
    obtain ⟨h0, h1, h2, h3, h4, h5, h6, h7⟩ := hd
    obtain ⟨d0, l0, e0, f0⟩ := isD_nat b0 h0
    obtain ⟨d1, l1, e1, f1⟩ := isD_nat b1 h1
    obtain ⟨d2, l2, e2, f2⟩ := isD_nat b2 h2
    obtain ⟨d3, l3, e3, f3⟩ := isD_nat b3 h3
    obtain ⟨d4, l4, e4, f4⟩ := isD_nat b4 h4
    obtain ⟨d5, l5, e5, f5⟩ := isD_nat b5 h5
    obtain ⟨d6, l6, e6, f6⟩ := isD_nat b6 h6
    obtain ⟨d7, l7, e7, f7⟩ := isD_nat b7 h7
    rw [le_word, e0, e1, e2, e3, e4, e5, e6, e7, dvI_digits d0 d1 d2 d3 d4 d5 d6 d7 l0 l1 l2 l3 l4 l5 l6 l7]
    simp only [val, List.foldl_cons, List.foldl_nil, f0, f1, f2, f3, f4, f5, f6, f7]
    omega

theorem all_pad (k : Nat) (l : List UInt8) : (List.replicate k 48 ++ l).all isD = l.all isD := by
  rw [List.all_append, List.all_replicate]
  have : isD 48 = true := by decide
  cases k <;> simp [this]
theorem val_zeros (k : Nat) : val (List.replicate k 48) = 0 := by
  induction k with
  | zero => rfl
  | succ k ih =>
    rw [List.replicate_succ, val_cons, ih]
    have : dg 48 = 0 := by decide
    rw [this]; simp
theorem val_pad (k : Nat) (l : List UInt8) : val (List.replicate k 48 ++ l) = val l := by
  rw [val_append, val_zeros]; simp

/-- the word that 'digitWord' reads. -/
def dgw (l : List UInt8) (e : Int) : List UInt8 := if 8 ≤ e then (l.drop (e.toNat - 8)).take 8 else List.replicate (8 - e.toNat) 48 ++ l.take e.toNat
theorem dgw_length (l : List UInt8) (e : Int) (h : e ≤ l.length) (h8 : 8 ≤ l.length) : (dgw l e).length = 8 := by
  unfold dgw
  split
  · rw [List.length_take, List.length_drop]; omega
  · rw [List.length_append, List.length_replicate, List.length_take]; omega
theorem dgw_three (l : List UInt8) (h8 : 8 ≤ l.length) (h20 : l.length ≤ 20) :
    dgw l ((l.length : Int) - 16) ++ (dgw l ((l.length : Int) - 8) ++ dgw l (l.length : Int)) = List.replicate (24 - l.length) 48 ++ l := by
  have e3 : dgw l (l.length : Int) = l.drop (l.length - 8) := by
    unfold dgw
    rw [if_pos (by omega), List.take_of_length_le (by rw [List.length_drop]; omega)]
    congr 1
  rw [e3]
  rcases Nat.lt_or_ge l.length 16 with h | h
  · have e1 : dgw l ((l.length : Int) - 16) = List.replicate 8 48 := by
      unfold dgw
      rw [if_neg (by omega), show ((l.length : Int) - 16).toNat = 0 by omega]; simp
    have e2 : dgw l ((l.length : Int) - 8) = List.replicate (16 - l.length) 48 ++ l.take (l.length - 8) := by
      unfold dgw
      rw [if_neg (by omega), show ((l.length : Int) - 8).toNat = l.length - 8 by omega]
      congr 2
      omega
    rw [e1, e2, List.append_assoc, List.take_append_drop, ← List.append_assoc, List.replicate_append_replicate]
    congr 2
    omega
  · have e2 : dgw l ((l.length : Int) - 8) = (l.drop (l.length - 16)).take 8 := by
      unfold dgw
      rw [if_pos (by omega)]
      congr 2
      omega
    have e4 : (l.drop (l.length - 16)).take 8 ++ l.drop (l.length - 8) = l.drop (l.length - 16) := by
      have := List.take_append_drop 8 (l.drop (l.length - 16))
      rw [List.drop_drop, show l.length - 16 + 8 = l.length - 8 by omega] at this
      exact this
    have e1 : dgw l ((l.length : Int) - 16) = List.replicate (24 - l.length) 48 ++ l.take (l.length - 16) := by
      unfold dgw
      rw [if_neg (by omega), show ((l.length : Int) - 16).toNat = l.length - 16 by omega]
      congr 2
      omega
    rw [e1, e2, e4, List.append_assoc, List.take_append_drop]

theorem three_all (l : List UInt8) (h8 : 8 ≤ l.length) (h20 : l.length ≤ 20) :
    (fw (Lib.leNat (dgw l ((l.length : Int) - 16))) = 0 ∧ fw (Lib.leNat (dgw l ((l.length : Int) - 8))) = 0 ∧ fw (Lib.leNat (dgw l (l.length : Int))) = 0) ↔ l.all isD = true := by
  rw [word_fault _ (dgw_length l _ (by omega) h8), word_fault _ (dgw_length l _ (by omega) h8), word_fault _ (dgw_length l _ (by omega) h8)]
  rw [← all_pad (24 - l.length) l, ← dgw_three l h8 h20]
  simp only [List.all_append, Bool.and_eq_true]
theorem three_val (l : List UInt8) (h8 : 8 ≤ l.length) (h20 : l.length ≤ 20) (hd : l.all isD = true) :
    dvI (Lib.leNat (dgw l ((l.length : Int) - 16)) : Int) * 10000000000000000 + dvI (Lib.leNat (dgw l ((l.length : Int) - 8)) : Int) * 100000000 + dvI (Lib.leNat (dgw l (l.length : Int)) : Int) = (val l : Int) := by
  have ha := (three_all l h8 h20).2 hd
  rw [word_fault _ (dgw_length l _ (by omega) h8), word_fault _ (dgw_length l _ (by omega) h8), word_fault _ (dgw_length l _ (by omega) h8)] at ha
  rw [word_val _ (dgw_length l _ (by omega) h8) ha.1, word_val _ (dgw_length l _ (by omega) h8) ha.2.1, word_val _ (dgw_length l _ (by omega) h8) ha.2.2]
  have hv := val_pad (24 - l.length) l
  rw [← dgw_three l h8 h20, val_append, val_append, List.length_append, dgw_length l _ (by omega) h8, dgw_length l _ (by omega) h8] at hv
  rw [← hv]
  have p16 : (10 : Nat) ^ (8 + 8) = 10000000000000000 := by decide
  have p8 : (10 : Nat) ^ 8 = 100000000 := by decide
  rw [p16, p8]
  omega
end M
end Go.Proofs.YbulkbqwiFmt
