/-
  DERIVED. THE WALKS, sixth part: the law LawS3378CPicks' walk where a flag says nil.
-/
import Derived.Test.YbulkbqxyPicks
namespace Go.Proofs.Ybulkbqxy
open Go.RowKit
set_option linter.unusedVariables false

set_option maxHeartbeats 1600000 in
theorem picks_ft_le (a b : Int) (hl : leB a 0 = true) (a0 : -9223372036854775808 ≤ a) (a1 : a ≤ 9223372036854775807) (b0 : -9223372036854775808 ≤ b) (b1 : b ≤ 9223372036854775807) (w : World) :
    Calls Yba.prog 4 #[.int .i64 a, .int .i64 b, .bool false, .bool true] w fun e w' => e = .returned (.bool true) ∧ Below w.heap.size w w' := by
  have HA := mk_some a a0 a1 w
  have HB := mk_nil b
  have HNa := newInt_any a a0 a1
  have HNz := newInt_any 0 (by omega) (by omega)
  have caa : cmpI a a = 0 := cmpI_eq rfl
  have c00 : cmpI 0 0 = 0 := cmpI_eq rfl
  have HS := ptr_neq_same
  have hab : (a : Int) ≤ 0 := of_decide_eq_true hl
  go_enter Yba.func4, Yba.ntmps4
  go_wp2_with fail
  refine HA.mono ?_
  rintro e w1 ⟨p, rfl, hp0, hp, hB1⟩
  go_wp2_with fail
  refine (HB _).mono ?_
  rintro e w2 ⟨rfl, hB2⟩
  have k11 := top_cell _ _ hB2
  have hp2 := (hp.below ((Below.refl _ w1).alloc (Nat.le_refl _) (.cells #[.pointer (some ⟨p, 0, none⟩)] 29))).below hB2
  have hB2' := below_alloc_after hB1 _ hB2
  obtain ⟨k11, z11⟩ := k11
  have HMn := min_any (some ⟨p, 0, none⟩) none a 0 (w2.alloc (.cells #[.pointer none] 29)) (Or.inr ⟨p, rfl, hp2.below ((Below.refl _ w2).alloc (Nat.le_refl _) _)⟩) (Or.inl ⟨rfl, rfl⟩) (fun r h1 h2 => by first | (cases h1; done) | (cases h2; done))
  clear HA HB hB2 hB1 hp hp0
  go_wp2_with fail
  refine HMn.mono ?_
  rw [hl]
  rintro e w3 ⟨rfl, hB3⟩
  have k12 := top_cell _ _ hB3
  obtain ⟨k12, z12⟩ := k12
  have hz2 : (w2.alloc (.cells #[.pointer none] 29)).heap.size = w2.heap.size + 1 := by simp
  have hA2 : Below w2.heap.size w2 w3 := below_alloc_after (Below.refl _ w2) _ hB3
  have k11' : w3.cell? ⟨w1.heap.size, 0, none⟩ = some (.pointer (some ⟨p, 0, none⟩)) := by rw [hA2.cell (p := ⟨w1.heap.size, 0, none⟩) z11]; exact k11
  have z11' : w1.heap.size < w3.heap.size := by omega
  have hp3 := hp2.below hA2
  have hB3' : Below w.heap.size w w3 := hB2'.trans (hA2.mono hB2'.size)
  clear HMn hB3 hz2 hA2 k11 z11 hB2' hl hp2
  go_wp2_with fail
  refine (HNa _).mono ?_
  rintro e w4 ⟨c, rfl, hc0, hc, hB4⟩
  have hA4 : Below w3.heap.size w3 w4 := below_alloc_after (Below.refl _ w3) _ hB4
  have hc1 : w3.heap.size + 1 ≤ c := by simpa using hc0
  have hCmp := cmp_any p c a a w4 (hp3.below hA4) hc (by have := hp3.lt; omega)
  clear hB4 hc0 hc1 hc
  go_wp2_with fail
  refine hCmp.mono ?_
  rintro e w5 ⟨rfl, hB5⟩
  have hA5 : Below w3.heap.size w3 w5 := hA4.trans (hB5.mono hA4.size)
  have KP : ∀ W', Below w5.heap.size w5 W' → W'.cell? ⟨w1.heap.size, 0, none⟩ = some (.pointer (some ⟨p, 0, none⟩)) ∧ BigIs W' p a := fun W' hB => by
    have hA := hA5.trans (hB.mono hA5.size)
    exact ⟨by rw [hA.cell (p := ⟨w1.heap.size, 0, none⟩) z11']; exact k11', hp3.below hA⟩
  have hB5' : Below w.heap.size w w5 := hB3'.trans (hA5.mono hB3'.size)
  have kp5 := (KP w5 (Below.refl _ _)).1
  clear hCmp hA4 hB5 hA5 k11' z11' k12 z12 hB3' hp3
  go_wp2_with fail
  go_cut [62] from 17 (fun c wx => c = .bool false ∧ Below w5.heap.size w5 wx)
  case first =>
    go_region_with (first
      | (go_at_call 5; refine (HNa _).mono ?_; rintro e w6 ⟨d, rfl, hd0, hd, hB6⟩; have hB6' := (Below.refl w5.heap.size w5).drew.trans hB6; have kp6 := (KP _ hB6').1; have bp6 := (KP _ hB6').2)
      | (go_at_call 9; refine (cmp_any p d a a _ bp6 hd (by have h1 := (KP _ (Below.refl _ _)).2.lt; have h2 : w5.heap.size ≤ d := hd0; omega)).mono ?_; rintro e w7 ⟨rfl, hB7⟩))
    all_goals
      go_wp2_with fail
      go_meet
      case rel => exact ⟨rfl, hB6'.trans (hB7.mono hB6'.size)⟩
  case rest =>
    obtain ⟨rfl, hB7⟩ := hcut
    go_wp2_with fail
    go_cut [72] from 17 (fun c wx => c = .bool false ∧ Below w5.heap.size w5 wx)
    case first =>
      go_quiet (fail)
      go_wp2_with fail
      go_meet
      case rel => exact ⟨rfl, below_drewN hB7 _⟩
    case rest =>
      obtain ⟨rfl, hB9⟩ := hcut
      go_wp2
      go_ret
      exact ⟨rfl, hB5'.trans (hB9.mono hB5'.size)⟩
set_option maxHeartbeats 1600000 in
theorem picks_ft_gt (a b : Int) (hl : leB a 0 = false) (a0 : -9223372036854775808 ≤ a) (a1 : a ≤ 9223372036854775807) (b0 : -9223372036854775808 ≤ b) (b1 : b ≤ 9223372036854775807) (w : World) :
    Calls Yba.prog 4 #[.int .i64 a, .int .i64 b, .bool false, .bool true] w fun e w' => e = .returned (.bool true) ∧ Below w.heap.size w w' := by
  have HA := mk_some a a0 a1 w
  have HB := mk_nil b
  have HNa := newInt_any a a0 a1
  have HNz := newInt_any 0 (by omega) (by omega)
  have caa : cmpI a a = 0 := cmpI_eq rfl
  have c00 : cmpI 0 0 = 0 := cmpI_eq rfl
  have HS := ptr_neq_same
  have hab : (0 : Int) < a := by have := of_decide_eq_false hl; omega
  go_enter Yba.func4, Yba.ntmps4
  go_wp2_with fail
  refine HA.mono ?_
  rintro e w1 ⟨p, rfl, hp0, hp, hB1⟩
  go_wp2_with fail
  refine (HB _).mono ?_
  rintro e w2 ⟨rfl, hB2⟩
  have k11 := top_cell _ _ hB2
  have hp2 := (hp.below ((Below.refl _ w1).alloc (Nat.le_refl _) (.cells #[.pointer (some ⟨p, 0, none⟩)] 29))).below hB2
  have hB2' := below_alloc_after hB1 _ hB2
  obtain ⟨k11, z11⟩ := k11
  have HMn := min_any (some ⟨p, 0, none⟩) none a 0 (w2.alloc (.cells #[.pointer none] 29)) (Or.inr ⟨p, rfl, hp2.below ((Below.refl _ w2).alloc (Nat.le_refl _) _)⟩) (Or.inl ⟨rfl, rfl⟩) (fun r h1 h2 => by first | (cases h1; done) | (cases h2; done))
  clear HA HB hB2 hB1 hp hp0
  go_wp2_with fail
  refine HMn.mono ?_
  rw [hl]
  rintro e w3 ⟨rfl, hB3⟩
  have k12 := top_cell _ _ hB3
  obtain ⟨k12, z12⟩ := k12
  have hz2 : (w2.alloc (.cells #[.pointer none] 29)).heap.size = w2.heap.size + 1 := by simp
  have hA2 : Below w2.heap.size w2 w3 := below_alloc_after (Below.refl _ w2) _ hB3
  have k11' : w3.cell? ⟨w1.heap.size, 0, none⟩ = some (.pointer (some ⟨p, 0, none⟩)) := by rw [hA2.cell (p := ⟨w1.heap.size, 0, none⟩) z11]; exact k11
  have z11' : w1.heap.size < w3.heap.size := by omega
  have hp3 := hp2.below hA2
  have hB3' : Below w.heap.size w w3 := hB2'.trans (hA2.mono hB2'.size)
  clear HMn hB3 hz2 hA2 k11 z11 hB2' hl hp2
  go_wp2_with fail
  refine (HNz _).mono ?_
  rintro e w4 ⟨c, rfl, hc0, hc, hB4⟩
  have hzz : ((w3.alloc (.cells #[.pointer none] 29)).alloc (.cells #[.bool false, .slice none 0 0] 52)).heap.size = w3.heap.size + 1 + 1 := by simp
  have hA4 : Below w3.heap.size w3 w4 := (((Below.refl _ w3).alloc (Nat.le_refl _) _).alloc (by simp) _).trans (hB4.mono (by rw [hzz]; omega))
  have hc1 : w3.heap.size + 1 + 1 ≤ c := by rw [hzz] at hc0; exact hc0
  have hzb : BigIs w4 (w3.heap.size + 1) 0 := ⟨.slice none 0 0, by
    rw [hB4.block (w3.heap.size + 1) (by rw [hzz]; omega)]
    have e9 : (w3.alloc (.cells #[.pointer none] 29)).heap.size = w3.heap.size + 1 := by simp
    rw [← e9]
    exact heap_alloc_new _ _, Or.inl ⟨rfl, rfl⟩⟩
  have hCmp := cmp_any (w3.heap.size + 1) c 0 0 w4 hzb hc (by omega)
  clear hzz hzb
  clear hB4 hc0 hc1 hc
  go_wp2_with fail
  refine hCmp.mono ?_
  rintro e w5 ⟨rfl, hB5⟩
  have hA5 : Below w3.heap.size w3 w5 := hA4.trans (hB5.mono hA4.size)
  have KP : ∀ W', Below w5.heap.size w5 W' → W'.cell? ⟨w1.heap.size, 0, none⟩ = some (.pointer (some ⟨p, 0, none⟩)) ∧ BigIs W' p a := fun W' hB => by
    have hA := hA5.trans (hB.mono hA5.size)
    exact ⟨by rw [hA.cell (p := ⟨w1.heap.size, 0, none⟩) z11']; exact k11', hp3.below hA⟩
  have hB5' : Below w.heap.size w w5 := hB3'.trans (hA5.mono hB3'.size)
  have kp5 := (KP w5 (Below.refl _ _)).1
  clear hCmp hA4 hB5 hA5 k11' z11' k12 z12 hB3' hp3
  go_wp2_with fail
  go_cut [62] from 17 (fun c wx => c = .bool false ∧ Below w5.heap.size w5 wx)
  case first =>
    go_region_with (first
      | (go_at_call 5; refine (HNa _).mono ?_; rintro e w6 ⟨d, rfl, hd0, hd, hB6⟩; have hB6' := (Below.refl w5.heap.size w5).drew.trans hB6; have kp6 := (KP _ hB6').1; have bp6 := (KP _ hB6').2)
      | (go_at_call 9; refine (cmp_any p d a a _ bp6 hd (by have h1 := (KP _ (Below.refl _ _)).2.lt; have h2 : w5.heap.size ≤ d := hd0; omega)).mono ?_; rintro e w7 ⟨rfl, hB7⟩))
    all_goals
      go_wp2_with fail
      go_meet
      case rel => exact ⟨rfl, hB6'.trans (hB7.mono hB6'.size)⟩
  case rest =>
    obtain ⟨rfl, hB7⟩ := hcut
    go_wp2_with fail
    go_cut [72] from 17 (fun c wx => c = .bool false ∧ Below w5.heap.size w5 wx)
    case first =>
      go_quiet (fail)
      go_wp2_with fail
      go_meet
      case rel => exact ⟨rfl, below_drewN hB7 _⟩
    case rest =>
      obtain ⟨rfl, hB9⟩ := hcut
      go_wp2
      go_ret
      exact ⟨rfl, hB5'.trans (hB9.mono hB5'.size)⟩
end Go.Proofs.Ybulkbqxy
