/-
  DERIVED. THE WALKS, tenth part: strconv.AppendUint(nil, v, 10), MarshalText; the walks of the laws LawS3375BRoundTrip and LawS3375CRoundTrip.
-/
import Derived.Test.YbulkbqwiFmtWalks7
import Derived.Test.YbulkbqwiFmtApp
namespace Go.Proofs.YbulkbqwiFmt
open Go.RowKit M
open Go.Extern.Stop Go.Stop Go.Extern

/-! the numeral of u reads back as u -/
theorem digit_ofNat (d : Nat) (h : d < 10) : isD (UInt8.ofNat (48 + d)) = true ∧ M.dg (UInt8.ofNat (48 + d)) = d := by
  have e : (UInt8.ofNat (48 + d)).toNat = 48 + d := by rw [UInt8.toNat_ofNat']; omega
  refine ⟨(isD_iff _).2 (by omega), ?_⟩
  unfold M.dg
  rw [e]
  omega
theorem dec_facts (u : Nat) : (Lib.decDigits u).all isD = true ∧ val (Lib.decDigits u) = u ∧ 1 ≤ (Lib.decDigits u).length ∧ (1 ≤ u → (Lib.decDigits u).getD 0 0 ≠ 48) ∧ (u < 10 → (Lib.decDigits u).length = 1) := by
  induction u using Nat.strongRecOn with
  | _ u ih =>
    by_cases h : u < 10
    · have hd := digit_ofNat u h
      rw [Lib.decDigits_one h]
      refine ⟨by rw [List.all_cons, hd.1]; rfl, ?_, Nat.le_refl _, fun h1 => ?_, fun _ => rfl⟩
      · show 0 * 10 + M.dg _ = u
        rw [hd.2]; omega
      · intro e
        have e2 := congrArg UInt8.toNat e
        simp only [List.getD_cons_zero] at e2
        rw [UInt8.toNat_ofNat'] at e2
        have e3 : (48 : UInt8).toNat = 48 := rfl
        omega
    · have hd := digit_ofNat (u % 10) (by omega)
      obtain ⟨h1, h2, h3, h4, _⟩ := ih (u / 10) (by omega)
      rw [Lib.decDigits, dif_neg h]
      refine ⟨by rw [List.all_append, h1, List.all_cons, hd.1]; rfl, ?_, by rw [List.length_append]; omega, fun _ => ?_, fun hh => absurd hh h⟩
      · rw [val_snoc, h2, hd.2]; omega
      · have := h4 (by omega)
        match hm : Lib.decDigits (u / 10), h3 with
        | c :: r, _ => rw [hm] at this; simpa using this
theorem dec_ok (u : Nat) (hu : u < 18446744073709551616) : okB (Lib.decDigits u) = true := by
  obtain ⟨h1, h2, h3, h4, h5⟩ := dec_facts u
  unfold okB
  have e1 : (Lib.decDigits u).isEmpty = false := by
    match hm : Lib.decDigits u, h3 with
    | c :: r, _ => rfl
  have e2 : (decide (1 < (Lib.decDigits u).length) && (Lib.decDigits u).getD 0 0 == 48) = false := by
    by_cases h : u < 10
    · rw [h5 h]; rfl
    · have := h4 (by omega)
      rw [Bool.and_eq_false_iff]
      right
      simpa using this
  rw [e1, e2, h1, h2, decide_eq_true hu]; rfl
theorem dec_len (u : Nat) (hu : u < 18446744073709551616) : (Lib.decDigits u).length ≤ 20 := by
  have hk := okD_val (l := Lib.decDigits u) (by
    have := dec_ok u hu
    rw [ok_iff, Bool.and_eq_true] at this
    exact this.1)
  exact hk.2.1

/-! strconv.AppendUint -/
theorem appU16 (u : Nat) (hu : u < 18446744073709551616) (w : World) (htab : Lib.TabIs Ybaf.prog w Ybaf.nmPow .u64 Lib.pow10Tab) :
    Calls Ybaf.prog 16 #[.slice none 0 0, .int .u64 u, .int .i64 10] w fun e w' => ∃ v', e = .returned v' ∧ w'.ownsRow w.heap.size 5 1 v' (Lib.decDigits u).length (Lib.byteCells (Lib.decDigits u)) ∧ Below w.heap.size w w' := by
  rcases Nat.lt_or_ge u 100 with h | h
  · refine (Ybaf.internal_strconv_AppendUint_10_small w.heap.size 0 u h (.slice none 0 0) [] w (World.ownsRow_nil _ _ _ _) (Nat.le_refl _) (by omega)).mono ?_
    rintro e w' ⟨v', he, h1, h2, _⟩
    rw [Nat.zero_add, List.nil_append] at h1
    exact ⟨v', he, h1, h2⟩
  · refine (Ybaf.internal_strconv_AppendUint_10_big w.heap.size 0 u h hu (.slice none 0 0) [] w (World.ownsRow_nil _ _ _ _) (Nat.le_refl _) (by omega) htab).mono ?_
    rintro e w' ⟨v', he, h1, h2, _⟩
    rw [Nat.zero_add, List.nil_append] at h1
    exact ⟨v', he, h1, h2⟩

/-- the result owns the numeral. -/
def Num (u : Nat) (w : World) (v : Value) (w' : World) : Prop := w'.ownsRow w.heap.size 5 1 v (Lib.decDigits u).length (Lib.byteCells (Lib.decDigits u)) ∧ Below w.heap.size w w'

set_option maxHeartbeats 400000 in
theorem appU10 (u : Nat) (hu : u < 18446744073709551616) (w : World) (htab : Lib.TabIs Ybaf.prog w Ybaf.nmPow .u64 Lib.pow10Tab) :
    Calls Ybaf.prog 10 #[.slice none 0 0, .int .u64 u, .int .i64 10] w fun e w' => ∃ v', e = .returned v' ∧ Num u w v' w' := by
  have H := appU16 u hu w htab
  clear htab
  go_enter Ybaf.func10, Ybaf.ntmps10
  go_wp2_with (go_at_call 16; refine H.mono ?_; rintro e w2 ⟨v', rfl, hown, hB⟩)
  go_ret
  exact ⟨_, rfl, hown, hB⟩
set_option maxHeartbeats 400000 in
theorem appText (u : Nat) (hu : u < 18446744073709551616) (w : World) (htab : Lib.TabIs Ybaf.prog w Ybaf.nmPow .u64 Lib.pow10Tab) :
    Calls Ybaf.prog 21 #[.int .u64 u, .slice none 0 0] w fun e w' => ∃ v', e = .returned v' ∧ Num u w v' w' := by
  have H := appU10 u hu w htab
  clear htab
  go_enter Ybaf.func21, Ybaf.ntmps21
  go_wp2_with (go_at_call 10; refine H.mono ?_; rintro e w2 ⟨v', rfl, hN⟩)
  go_ret
  exact ⟨_, rfl, hN⟩
set_option maxHeartbeats 400000 in
theorem marshal (u : Nat) (hu : u < 18446744073709551616) (w : World) (htab : Lib.TabIs Ybaf.prog w Ybaf.nmPow .u64 Lib.pow10Tab) :
    Calls Ybaf.prog 13 #[.int .u64 u] w fun e w' => ∃ v', e = .returned (.tuple #[v', .nilIface]) ∧ Num u w v' w' := by
  have H := appText u hu w htab
  clear htab
  go_enter Ybaf.func13, Ybaf.ntmps13
  go_wp2_with (go_at_call 21; refine H.mono ?_; rintro e w2 ⟨v', rfl, hN⟩)
  go_ret2
  exact ⟨_, rfl, hN⟩

/-- such a value is a slice at the head of a row. -/
theorem own_shape {w : World} {B n : Nat} {v : Value} {xs : List Value} (h : w.ownsRow B 5 1 v n xs) (hn : 1 ≤ n) : ∃ g cap, v = .slice (some ⟨g, 0, none⟩) n cap := by
  rcases h.2 with ⟨_, h0⟩ | ⟨g, cap, cur, hv, _⟩
  · omega
  · exact ⟨g, cap, hv⟩

theorem bytes_snoc (D : List UInt8) : Lib.byteCells D ++ [Value.int .u8 10] = Lib.byteCells (D ++ [10]) := by
  unfold Lib.byteCells
  rw [List.map_append]
  rfl

set_option maxHeartbeats 400000 in
theorem cround (F : Interp) (x : Int) (u : Nat) (hu : u < 18446744073709551616) (w : World) (hF : F.answers w.tape) (htab : Lib.TabIs Ybaf.prog w Ybaf.nmPow .u64 Lib.pow10Tab) :
    Calls Ybaf.prog 8 #[.int .u64 x, .int .u64 (u : Int)] w fun e w' => e = .returned (.bool true) ∧ Below w.heap.size w w' := by
  have HM := marshal u hu w htab
  clear htab
  go_enter Ybaf.func8, Ybaf.ntmps8
  go_wp2_with fail
  refine HM.mono ?_
  rintro e w1 ⟨v, rfl, hown, hB⟩
  obtain ⟨g, cap, rfl⟩ := own_shape hown (dec_facts u).2.2.1
  have hlen := dec_len u hu
  obtain ⟨f1, f2, f3, f4, f5, f6⟩ := own_facts hown
  have HU : Calls Ybaf.prog 14 #[.pointer (some ⟨w1.heap.size, 0, none⟩), .slice (some ⟨g, 0, none⟩) (Lib.decDigits u).length cap] (w1.alloc (.cells #[.int .u64 x] 27)) fun e w' => UT (Lib.decDigits u) w1.heap.size (w1.alloc (.cells #[.int .u64 x] 27)) e w' := by
    have hBa : Below w1.heap.size w1 (w1.alloc (.cells #[.int .u64 x] 27)) := (Below.refl _ w1).alloc (Nat.le_refl _) _
    refine unmarshal_of F _ _ w1.heap.size x _ (by rw [hBa.tape, hB.tape]; exact hF) (by simp) (by simp [go_sem]) (by simp [go_sem]) ?_
    exact parseTime_any F _ _ (dec_facts u).2.2.1 (by omega) rfl g 0 cap f2 _ (by simp; omega) (by rw [hBa.tape, hB.tape]; exact hF) (fun j hj => by
      rw [Nat.zero_add, hBa.cell (p := ⟨g, j, none⟩) f4]; exact f5 j hj)
  have HO : Hid (okB (Lib.decDigits u) = true) := dec_ok u hu
  have HV : Hid (val (Lib.decDigits u) = u) := (dec_facts u).2.1
  clear f5 f6 hown HM
  go_wp2_with fail
  refine HU.mono ?_
  rintro e w2 (⟨_, rfl, w3, hB3, rfl⟩ | ⟨h, _⟩)
  · rw [HV.out]
    have hcx3 : w3.cell? ⟨w1.heap.size, 0, none⟩ = some (.int .u64 x) := by
      rw [hB3.cell (p := ⟨w1.heap.size, 0, none⟩) (by simp)]; simp [go_sem]
    have hs := setCell_cell w3 w1.heap.size _ (.int .u64 (u : Int)) hcx3
    have hB1 : Below w.heap.size w (w1.alloc (.cells #[.int .u64 x] 27)) := hB.alloc hB.size _
    have hB4 : Below w.heap.size w w3 := hB1.trans (hB3.mono (by have := hB.size; simp; omega))
    have hB2 : Below w.heap.size w (w3.setCell ⟨w1.heap.size, 0, none⟩ (.int .u64 (u : Int))) := hB4.setCell hB.size _
    generalize w3.setCell ⟨w1.heap.size, 0, none⟩ (.int .u64 (u : Int)) = w4 at *
    clear hcx3 HU hB3 hB1 hB4
    go_wp2
    go_ret
    exact ⟨rfl, hB2⟩
  · rw [HO.out] at h; cases h

set_option maxHeartbeats 400000 in
theorem bround (F : Interp) (u : Nat) (hu : u < 18446744073709551616) (w : World) (hF : F.answers w.tape) (htab : Lib.TabIs Ybaf.prog w Ybaf.nmPow .u64 Lib.pow10Tab) :
    Calls Ybaf.prog 5 #[.int .u64 (u : Int)] w fun e w' => e = .returned (.bool true) ∧ Below w.heap.size w w' := by
  have HM := appU10 u hu w htab
  obtain ⟨i0, hi, hz0, hz1, hz2⟩ := info_parts info5
  have hlen := dec_len u hu
  have hlen1 := (dec_facts u).2.2.1
  clear htab
  go_enter Ybaf.func5, Ybaf.ntmps5
  go_wp2_with fail
  refine HM.mono ?_
  rintro e w1 ⟨v, rfl, hown, hB⟩
  obtain ⟨g, cap, rfl⟩ := own_shape hown hlen1
  have hsz := hB.size
  clear HM
  go_wp2_with (at_builtin; go_must (refine wpList_append_own _ rfl (.tmp 8) (.tmp 9) 22 rfl w.heap.size 5 i0 (.int .u8 0) 1 1 Ybaf.underlying22 hi hz0 hz1 hz2 rfl (by decide) _ _ _ rfl (hown.alloc _) ⟨w1.heap.size, 0, none⟩ 1 1 [.int .u8 10] rfl rfl (fun j u hj => by match j, hj with | 0, hj => simp at hj; subst hj; simp [Addr.add]) (fun u hu => by simp at hu; subst hu; rfl) (by unfold maxLen; omega) (by omega) (by simp; omega) ?_))
  intro v2 w2 hown2 hgrow _
  have hB1 : Below w.heap.size w (w1.alloc (.cells #[.int .u8 10] 5)) := hB.alloc hB.size _
  have hB2 : Below w.heap.size w w2 := hB1.grown hgrow (by simp; omega) (fun k hk => by
    have := (hown.lt k hk).1
    exact this)
  obtain ⟨g2, cap2, rfl⟩ := own_shape hown2 (by omega)
  rw [bytes_snoc] at hown2
  obtain ⟨f1, f2, f3, f4, f5, f6⟩ := own_facts hown2
  have hF2 : F.answers w2.tape := by rw [hB2.tape]; exact hF
  have HO : Hid (okB (Lib.decDigits u) = true) := dec_ok u hu
  have HV : Hid (val (Lib.decDigits u) = u) := (dec_facts u).2.1
  have hcn : w2.cell? ⟨g2, 0 + (Lib.decDigits u).length, none⟩ = some (.int .u8 10) := by
    rw [Nat.zero_add, f5 _ (by omega)]
    have : bt (Lib.decDigits u ++ [10]) (Lib.decDigits u).length = 10 := by simp [bt]
    rw [this]; rfl
  have hcs : ∀ j, j < (Lib.decDigits u).length → w2.cell? ⟨g2, 0 + j, none⟩ = some (.int .u8 (bt (Lib.decDigits u) j : Int)) := fun j hj => by
    rw [Nat.zero_add, f5 j (by omega)]
    have : bt (Lib.decDigits u ++ [10]) j = bt (Lib.decDigits u) j := by simp [bt, List.getD, List.getElem?_append_left hj]
    rw [this]
  have HP := pc_body F (Lib.decDigits u) _ hlen g2 0 cap2 f2 w2 hF2 hcn (parseTime_any F _ _ hlen1 (by omega) rfl g2 0 cap2 (by omega) w2 f4 hF2 hcs)
  clear f5 f6 hown hown2 hgrow hcn hcs hi hz0 hz1 hz2 hB1
  go_wp2_with fail
  refine HP.mono ?_
  rintro e w3 (⟨_, rfl, hB3⟩ | ⟨h, _⟩)
  · rw [HV.out]
    go_wp2
    go_ret
    exact ⟨rfl, hB2.trans (hB3.mono hB2.size)⟩
  · rw [HO.out] at h; cases h
end Go.Proofs.YbulkbqwiFmt
