/-
  DERIVED. THE WALKS, sixth part: the law LawS3378CPicks' walk where a flag says nil.
-/
import Derived.Test.YbulkbqxyPicks
namespace Go.Proofs.Ybulkbqxy
open Go.RowKit
set_option linter.unusedVariables false

set_option maxHeartbeats 1600000 in
theorem picks_tf_le (a b : Int) (hl : leB 0 b = true) (a0 : -9223372036854775808 ≤ a) (a1 : a ≤ 9223372036854775807) (b0 : -9223372036854775808 ≤ b) (b1 : b ≤ 9223372036854775807) (w : World) :
    Calls Yba.prog 4 #[.int .i64 a, .int .i64 b, .bool true, .bool false] w fun e w' => e = .returned (.bool true) ∧ Below w.heap.size w w' := by
  have HA := mk_nil a w
  have HB := mk_some b b0 b1
  have HNb := newInt_any b b0 b1
  have HNz := newInt_any 0 (by omega) (by omega)
  have cbb : cmpI b b = 0 := cmpI_eq rfl
  have c00 : cmpI 0 0 = 0 := cmpI_eq rfl
  have HS := ptr_neq_same
  have hab : (0 : Int) ≤ b := of_decide_eq_true hl
  go_enter Yba.func4, Yba.ntmps4
  go_wp2_with fail
  refine HA.mono ?_
  rintro e w1 ⟨rfl, hB1⟩
  go_wp2_with fail
  refine (HB _).mono ?_
  rintro e w2 ⟨q, rfl, hq0, hq, hB2⟩
  have k11 := top_cell _ _ hB2
  have hB2' := below_alloc_after hB1 _ hB2
  obtain ⟨k11, z11⟩ := k11
  have HMn := min_any none (some ⟨q, 0, none⟩) 0 b (w2.alloc (.cells #[.pointer (some ⟨q, 0, none⟩)] 29)) (Or.inl ⟨rfl, rfl⟩) (Or.inr ⟨q, rfl, hq.below ((Below.refl _ w2).alloc (Nat.le_refl _) _)⟩) (fun r h1 h2 => by first | (cases h1; done) | (cases h2; done))
  clear HA HB hB2 hB1 hq0
  go_wp2_with fail
  refine HMn.mono ?_
  rw [hl]
  rintro e w3 ⟨rfl, hB3⟩
  have k12 := top_cell _ _ hB3
  obtain ⟨k12, z12⟩ := k12
  have hz2 : (w2.alloc (.cells #[.pointer (some ⟨q, 0, none⟩)] 29)).heap.size = w2.heap.size + 1 := by simp
  have hA2 : Below w2.heap.size w2 w3 := below_alloc_after (Below.refl _ w2) _ hB3
  have k11' : w3.cell? ⟨w1.heap.size, 0, none⟩ = some (.pointer none) := by rw [hA2.cell (p := ⟨w1.heap.size, 0, none⟩) z11]; exact k11
  have z11' : w1.heap.size < w3.heap.size := by omega
  have hq3 := hq.below hA2
  have hB3' : Below w.heap.size w w3 := hB2'.trans (hA2.mono hB2'.size)
  clear HMn hB3 hz2 hA2 k11 z11 hB2' hl hq
  go_wp2_with fail
  refine (HNz _).mono ?_
  rintro e w4 ⟨c, rfl, hc0, hc, hB4⟩
  have hzz : ((w3.alloc (.cells #[.pointer none] 29)).alloc (.cells #[.bool false, .slice none 0 0] 52)).heap.size = w3.heap.size + 1 + 1 := by simp
  have hA4 : Below w3.heap.size w3 w4 := (((Below.refl _ w3).alloc (Nat.le_refl _) _).alloc (by simp) _).trans (hB4.mono (by rw [hzz]; omega))
  have hc1 : w3.heap.size + 1 + 1 ≤ c := by rw [hzz] at hc0; exact hc0
  have hzb : BigIs w4 (w3.heap.size + 1) 0 := ⟨.slice none 0 0, by
    rw [hB4.block (w3.heap.size + 1) (by rw [hzz]; omega)]
    have e9 : (w3.alloc (.cells #[.pointer none] 29)).heap.size = w3.heap.size + 1 := by simp
    rw [← e9]
    exact heap_alloc_new _ _, Or.inl ⟨rfl, rfl⟩⟩
  have hCmp := cmp_any (w3.heap.size + 1) c 0 0 w4 hzb hc (by omega)
  clear hzz hzb
  clear hB4 hc0 hc1 hc
  go_wp2_with fail
  refine hCmp.mono ?_
  rintro e w5 ⟨rfl, hB5⟩
  have hA5 : Below w3.heap.size w3 w5 := hA4.trans (hB5.mono hA4.size)
  have KQ : ∀ W', Below w5.heap.size w5 W' → W'.cell? ⟨w2.heap.size, 0, none⟩ = some (.pointer (some ⟨q, 0, none⟩)) ∧ BigIs W' q b := fun W' hB => by
    have hA := hA5.trans (hB.mono hA5.size)
    exact ⟨by rw [hA.cell (p := ⟨w2.heap.size, 0, none⟩) z12]; exact k12, hq3.below hA⟩
  have hB5' : Below w.heap.size w w5 := hB3'.trans (hA5.mono hB3'.size)
  clear hCmp hA4 hB5 hA5 k11' z11' k12 z12 hB3' hq3
  go_wp2_with fail
  go_cut [62] from 17 (fun c wx => c = .bool false ∧ Below w5.heap.size w5 wx)
  case first =>
    go_quiet (fail)
    go_wp2_with fail
    go_meet
    case rel => exact ⟨rfl, below_drewN (Below.refl _ _) _⟩
  case rest =>
    obtain ⟨rfl, hB7⟩ := hcut
    have kq7 := (KQ _ hB7).1
    go_wp2_with fail
    go_cut [72] from 17 (fun c wx => c = .bool false ∧ Below w5.heap.size w5 wx)
    case first =>
      go_region_with (first
        | (go_at_call 5; refine (HNb _).mono ?_; rintro e w8 ⟨d, rfl, hd0, hd, hB8⟩; have hB8' : Below w5.heap.size w5 w8 := hB7.trans (((Below.refl _ _).drew.trans hB8).mono hB7.size); have kq8 := (KQ _ hB8').1; have bq8 := (KQ _ hB8').2)
        | (go_at_call 9; refine (cmp_any q d b b _ bq8 hd (by have h1 := (KQ _ hB7).2.lt; have h2 := hd0; simp at h2; omega)).mono ?_; rintro e w9 ⟨rfl, hB9⟩))
      all_goals
        go_wp2_with fail
        go_meet
        case rel => exact ⟨rfl, hB8'.trans (hB9.mono hB8'.size)⟩
    case rest =>
      obtain ⟨rfl, hB9⟩ := hcut
      go_wp2
      go_ret
      exact ⟨rfl, hB5'.trans (hB9.mono hB5'.size)⟩
set_option maxHeartbeats 1600000 in
theorem picks_tf_gt (a b : Int) (hl : leB 0 b = false) (a0 : -9223372036854775808 ≤ a) (a1 : a ≤ 9223372036854775807) (b0 : -9223372036854775808 ≤ b) (b1 : b ≤ 9223372036854775807) (w : World) :
    Calls Yba.prog 4 #[.int .i64 a, .int .i64 b, .bool true, .bool false] w fun e w' => e = .returned (.bool true) ∧ Below w.heap.size w w' := by
  have HA := mk_nil a w
  have HB := mk_some b b0 b1
  have HNb := newInt_any b b0 b1
  have HNz := newInt_any 0 (by omega) (by omega)
  have cbb : cmpI b b = 0 := cmpI_eq rfl
  have c00 : cmpI 0 0 = 0 := cmpI_eq rfl
  have HS := ptr_neq_same
  have hab : (b : Int) < 0 := by have := of_decide_eq_false hl; omega
  go_enter Yba.func4, Yba.ntmps4
  go_wp2_with fail
  refine HA.mono ?_
  rintro e w1 ⟨rfl, hB1⟩
  go_wp2_with fail
  refine (HB _).mono ?_
  rintro e w2 ⟨q, rfl, hq0, hq, hB2⟩
  have k11 := top_cell _ _ hB2
  have hB2' := below_alloc_after hB1 _ hB2
  obtain ⟨k11, z11⟩ := k11
  have HMn := min_any none (some ⟨q, 0, none⟩) 0 b (w2.alloc (.cells #[.pointer (some ⟨q, 0, none⟩)] 29)) (Or.inl ⟨rfl, rfl⟩) (Or.inr ⟨q, rfl, hq.below ((Below.refl _ w2).alloc (Nat.le_refl _) _)⟩) (fun r h1 h2 => by first | (cases h1; done) | (cases h2; done))
  clear HA HB hB2 hB1 hq0
  go_wp2_with fail
  refine HMn.mono ?_
  rw [hl]
  rintro e w3 ⟨rfl, hB3⟩
  have k12 := top_cell _ _ hB3
  obtain ⟨k12, z12⟩ := k12
  have hz2 : (w2.alloc (.cells #[.pointer (some ⟨q, 0, none⟩)] 29)).heap.size = w2.heap.size + 1 := by simp
  have hA2 : Below w2.heap.size w2 w3 := below_alloc_after (Below.refl _ w2) _ hB3
  have k11' : w3.cell? ⟨w1.heap.size, 0, none⟩ = some (.pointer none) := by rw [hA2.cell (p := ⟨w1.heap.size, 0, none⟩) z11]; exact k11
  have z11' : w1.heap.size < w3.heap.size := by omega
  have hq3 := hq.below hA2
  have hB3' : Below w.heap.size w w3 := hB2'.trans (hA2.mono hB2'.size)
  clear HMn hB3 hz2 hA2 k11 z11 hB2' hl hq
  go_wp2_with fail
  refine (HNb _).mono ?_
  rintro e w4 ⟨c, rfl, hc0, hc, hB4⟩
  have hA4 : Below w3.heap.size w3 w4 := below_alloc_after (Below.refl _ w3) _ hB4
  have hc1 : w3.heap.size + 1 ≤ c := by simpa using hc0
  have hCmp := cmp_any q c b b w4 (hq3.below hA4) hc (by have := hq3.lt; omega)
  clear hB4 hc0 hc1 hc
  go_wp2_with fail
  refine hCmp.mono ?_
  rintro e w5 ⟨rfl, hB5⟩
  have hA5 : Below w3.heap.size w3 w5 := hA4.trans (hB5.mono hA4.size)
  have KQ : ∀ W', Below w5.heap.size w5 W' → W'.cell? ⟨w2.heap.size, 0, none⟩ = some (.pointer (some ⟨q, 0, none⟩)) ∧ BigIs W' q b := fun W' hB => by
    have hA := hA5.trans (hB.mono hA5.size)
    exact ⟨by rw [hA.cell (p := ⟨w2.heap.size, 0, none⟩) z12]; exact k12, hq3.below hA⟩
  have hB5' : Below w.heap.size w w5 := hB3'.trans (hA5.mono hB3'.size)
  clear hCmp hA4 hB5 hA5 k11' z11' k12 z12 hB3' hq3
  go_wp2_with fail
  go_cut [62] from 17 (fun c wx => c = .bool false ∧ Below w5.heap.size w5 wx)
  case first =>
    go_quiet (fail)
    go_wp2_with fail
    go_meet
    case rel => exact ⟨rfl, below_drewN (Below.refl _ _) _⟩
  case rest =>
    obtain ⟨rfl, hB7⟩ := hcut
    have kq7 := (KQ _ hB7).1
    go_wp2_with fail
    go_cut [72] from 17 (fun c wx => c = .bool false ∧ Below w5.heap.size w5 wx)
    case first =>
      go_region_with (first
        | (go_at_call 5; refine (HNb _).mono ?_; rintro e w8 ⟨d, rfl, hd0, hd, hB8⟩; have hB8' : Below w5.heap.size w5 w8 := hB7.trans (((Below.refl _ _).drew.trans hB8).mono hB7.size); have kq8 := (KQ _ hB8').1; have bq8 := (KQ _ hB8').2)
        | (go_at_call 9; refine (cmp_any q d b b _ bq8 hd (by have h1 := (KQ _ hB7).2.lt; have h2 := hd0; simp at h2; omega)).mono ?_; rintro e w9 ⟨rfl, hB9⟩))
      all_goals
        go_wp2_with fail
        go_meet
        case rel => exact ⟨rfl, hB8'.trans (hB9.mono hB8'.size)⟩
    case rest =>
      obtain ⟨rfl, hB9⟩ := hcut
      go_wp2
      go_ret
      exact ⟨rfl, hB5'.trans (hB9.mono hB5'.size)⟩
set_option maxHeartbeats 1600000 in
theorem picks_tt (a b : Int) (a0 : -9223372036854775808 ≤ a) (a1 : a ≤ 9223372036854775807) (b0 : -9223372036854775808 ≤ b) (b1 : b ≤ 9223372036854775807) (w : World) :
    Calls Yba.prog 4 #[.int .i64 a, .int .i64 b, .bool true, .bool true] w fun e w' => e = .returned (.bool true) ∧ Below w.heap.size w w' := by
  have hl : leB 0 0 = true := by decide
  have HA := mk_nil a w
  have HB := mk_nil b
  have HNz := newInt_any 0 (by omega) (by omega)
  have c00 : cmpI 0 0 = 0 := cmpI_eq rfl
  have HS := ptr_neq_same
  go_enter Yba.func4, Yba.ntmps4
  go_wp2_with fail
  refine HA.mono ?_
  rintro e w1 ⟨rfl, hB1⟩
  go_wp2_with fail
  refine (HB _).mono ?_
  rintro e w2 ⟨rfl, hB2⟩
  have k11 := top_cell _ _ hB2
  have hB2' := below_alloc_after hB1 _ hB2
  obtain ⟨k11, z11⟩ := k11
  have HMn := min_any none none 0 0 (w2.alloc (.cells #[.pointer none] 29)) (Or.inl ⟨rfl, rfl⟩) (Or.inl ⟨rfl, rfl⟩) (fun r h1 h2 => by first | (cases h1; done) | (cases h2; done))
  clear HA HB hB2 hB1
  go_wp2_with fail
  refine HMn.mono ?_
  rw [hl]
  rintro e w3 ⟨rfl, hB3⟩
  have k12 := top_cell _ _ hB3
  obtain ⟨k12, z12⟩ := k12
  have hz2 : (w2.alloc (.cells #[.pointer none] 29)).heap.size = w2.heap.size + 1 := by simp
  have hA2 : Below w2.heap.size w2 w3 := below_alloc_after (Below.refl _ w2) _ hB3
  have k11' : w3.cell? ⟨w1.heap.size, 0, none⟩ = some (.pointer none) := by rw [hA2.cell (p := ⟨w1.heap.size, 0, none⟩) z11]; exact k11
  have z11' : w1.heap.size < w3.heap.size := by omega
  have hB3' : Below w.heap.size w w3 := hB2'.trans (hA2.mono hB2'.size)
  clear HMn hB3 hz2 hA2 k11 z11 hB2' hl
  go_wp2_with fail
  refine (HNz _).mono ?_
  rintro e w4 ⟨c, rfl, hc0, hc, hB4⟩
  have hzz : ((w3.alloc (.cells #[.pointer none] 29)).alloc (.cells #[.bool false, .slice none 0 0] 52)).heap.size = w3.heap.size + 1 + 1 := by simp
  have hA4 : Below w3.heap.size w3 w4 := (((Below.refl _ w3).alloc (Nat.le_refl _) _).alloc (by simp) _).trans (hB4.mono (by rw [hzz]; omega))
  have hc1 : w3.heap.size + 1 + 1 ≤ c := by rw [hzz] at hc0; exact hc0
  have hzb : BigIs w4 (w3.heap.size + 1) 0 := ⟨.slice none 0 0, by
    rw [hB4.block (w3.heap.size + 1) (by rw [hzz]; omega)]
    have e9 : (w3.alloc (.cells #[.pointer none] 29)).heap.size = w3.heap.size + 1 := by simp
    rw [← e9]
    exact heap_alloc_new _ _, Or.inl ⟨rfl, rfl⟩⟩
  have hCmp := cmp_any (w3.heap.size + 1) c 0 0 w4 hzb hc (by omega)
  clear hzz hzb
  clear hB4 hc0 hc1 hc
  go_wp2_with fail
  refine hCmp.mono ?_
  rintro e w5 ⟨rfl, hB5⟩
  have hA5 : Below w3.heap.size w3 w5 := hA4.trans (hB5.mono hA4.size)
  have hB5' : Below w.heap.size w w5 := hB3'.trans (hA5.mono hB3'.size)
  clear hCmp hA4 hB5 hA5 k11' z11' k12 z12 hB3'
  go_wp2_with fail
  go_cut [62] from 17 (fun c wx => c = .bool false ∧ Below w5.heap.size w5 wx)
  case first =>
    go_quiet (fail)
    go_wp2_with fail
    go_meet
    case rel => exact ⟨rfl, below_drewN (Below.refl _ _) _⟩
  case rest =>
    obtain ⟨rfl, hB7⟩ := hcut
    go_wp2_with fail
    go_cut [72] from 17 (fun c wx => c = .bool false ∧ Below w5.heap.size w5 wx)
    case first =>
      go_quiet (fail)
      go_wp2_with fail
      go_meet
      case rel => exact ⟨rfl, below_drewN hB7 _⟩
    case rest =>
      obtain ⟨rfl, hB9⟩ := hcut
      go_wp2
      go_ret
      exact ⟨rfl, hB5'.trans (hB9.mono hB5'.size)⟩
end Go.Proofs.Ybulkbqxy
