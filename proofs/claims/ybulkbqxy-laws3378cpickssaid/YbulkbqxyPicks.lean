/-
  DERIVED. THE WALKS, fifth part: the law LawS3378CPicks' walk, a theorem a pair of nil flags.
-/
import Derived.Test.YbulkbqxyWalks4
import Derived.Deep.Cut
namespace Go.Proofs.Ybulkbqxy
open Go.RowKit

theorem below_alloc_after {w0 w w' : World} (h : Below w0.heap.size w0 w) (o : Obj) (h' : Below (w.alloc o).heap.size (w.alloc o) w') : Below w0.heap.size w0 w' :=
  (h.alloc h.size o).trans (h'.mono (by have := h.size; simp; omega))
/-- the cell of a block laid on top of w, in a later world. -/
theorem top_cell {w w' : World} (v : Value) (t : TypeId) (h : Below (w.alloc (.cells #[v] t)).heap.size (w.alloc (.cells #[v] t)) w') : w'.cell? ⟨w.heap.size, 0, none⟩ = some v ∧ w.heap.size < w'.heap.size := by
  have hs := h.size
  have e : (w.alloc (.cells #[v] t)).heap.size = w.heap.size + 1 := by simp
  refine ⟨by rw [h.cell (p := ⟨w.heap.size, 0, none⟩) (by rw [e]; exact Nat.lt_succ_self _)]; simp [go_sem], by omega⟩

set_option maxHeartbeats 1600000 in
theorem picks_ff_gt (a b : Int) (hl : leB a b = false) (a0 : -9223372036854775808 ≤ a) (a1 : a ≤ 9223372036854775807) (b0 : -9223372036854775808 ≤ b) (b1 : b ≤ 9223372036854775807) (w : World) :
    Calls Yba.prog 4 #[.int .i64 a, .int .i64 b, .bool false, .bool false] w fun e w' => e = .returned (.bool true) ∧ Below w.heap.size w w' := by
  have HA := mk_some a a0 a1 w
  have HB := mk_some b b0 b1
  have HNa := newInt_any a a0 a1
  have HNb := newInt_any b b0 b1
  have caa : cmpI a a = 0 := cmpI_eq rfl
  have cbb : cmpI b b = 0 := cmpI_eq rfl
  have HS := ptr_neq_same
  have hab : b < a := by have := of_decide_eq_false hl; omega
  go_enter Yba.func4, Yba.ntmps4
  go_wp2_with fail
  refine HA.mono ?_
  rintro e w1 ⟨p, rfl, hp0, hp, hB1⟩
  go_wp2_with fail
  refine (HB _).mono ?_
  rintro e w2 ⟨q, rfl, hq0, hq, hB2⟩
  have k11 := top_cell _ _ hB2
  have hp2 := (hp.below ((Below.refl _ w1).alloc (Nat.le_refl _) (.cells #[.pointer (some ⟨p, 0, none⟩)] 29))).below hB2
  have hB2' := below_alloc_after hB1 _ hB2
  have hpq : p < w1.heap.size := hp.lt
  have hpq2 : w1.heap.size + 1 ≤ q := by simpa using hq0
  obtain ⟨k11, z11⟩ := k11
  have HMn := min_any (some ⟨p, 0, none⟩) (some ⟨q, 0, none⟩) a b (w2.alloc (.cells #[.pointer (some ⟨q, 0, none⟩)] 29))
    (Or.inr ⟨p, rfl, hp2.below ((Below.refl _ w2).alloc (Nat.le_refl _) _)⟩) (Or.inr ⟨q, rfl, hq.below ((Below.refl _ w2).alloc (Nat.le_refl _) _)⟩)
    (fun r h1 h2 => by
      injection h1 with h1; injection h1 with h1; injection h1 with h1
      injection h2 with h2; injection h2 with h2; injection h2 with h2
      omega)
  clear HA HB hB2 hB1 hp hq0 hp0
  go_wp2_with fail
  refine HMn.mono ?_
  rw [hl]
  rintro e w3 ⟨rfl, hB3⟩
  have k12 := top_cell _ _ hB3
  obtain ⟨k12, z12⟩ := k12
  have hz2 : (w2.alloc (.cells #[.pointer (some ⟨q, 0, none⟩)] 29)).heap.size = w2.heap.size + 1 := by simp
  have hA2 : Below w2.heap.size w2 w3 := below_alloc_after (Below.refl _ w2) _ hB3
  have k11' : w3.cell? ⟨w1.heap.size, 0, none⟩ = some (.pointer (some ⟨p, 0, none⟩)) := by rw [hA2.cell (p := ⟨w1.heap.size, 0, none⟩) z11]; exact k11
  have z11' : w1.heap.size < w3.heap.size := by omega
  have hp3 := hp2.below hA2
  have hq3 := hq.below hA2
  have hB3' : Below w.heap.size w w3 := hB2'.trans (hA2.mono hB2'.size)
  clear HMn hB3 hp2 hq hz2 hA2 k11 z11 hB2'
  clear hl
  go_wp2_with fail
  refine (HNb _).mono ?_
  rintro e w4 ⟨c, rfl, hc0, hc, hB4⟩
  have hA4 : Below w3.heap.size w3 w4 := below_alloc_after (Below.refl _ w3) _ hB4
  have hc1 : w3.heap.size + 1 ≤ c := by simpa using hc0
  have hCmp := cmp_any q c b b w4 (hq3.below hA4) hc (by have := hq3.lt; omega)
  clear hB4 hc0 hc1 hc
  go_wp2_with fail
  refine hCmp.mono ?_
  rintro e w5 ⟨rfl, hB5⟩
  have hA5 : Below w3.heap.size w3 w5 := hA4.trans (hB5.mono hA4.size)
  have KP : ∀ W', Below w5.heap.size w5 W' → W'.cell? ⟨w1.heap.size, 0, none⟩ = some (.pointer (some ⟨p, 0, none⟩)) ∧ BigIs W' p a := fun W' hB => by
    have hA := hA5.trans (hB.mono hA5.size)
    exact ⟨by rw [hA.cell (p := ⟨w1.heap.size, 0, none⟩) z11']; exact k11', hp3.below hA⟩
  have KQ : ∀ W', Below w5.heap.size w5 W' → W'.cell? ⟨w2.heap.size, 0, none⟩ = some (.pointer (some ⟨q, 0, none⟩)) ∧ BigIs W' q b := fun W' hB => by
    have hA := hA5.trans (hB.mono hA5.size)
    exact ⟨by rw [hA.cell (p := ⟨w2.heap.size, 0, none⟩) z12]; exact k12, hq3.below hA⟩
  have hB5' : Below w.heap.size w w5 := hB3'.trans (hA5.mono hB3'.size)
  have kp5 := (KP w5 (Below.refl _ _)).1
  clear hCmp hA4 hB5 hA5 k11' z11' hp3 hq3 k12 z12 hB3'
  go_wp2_with fail
  go_cut [62] from 17 (fun c wx => c = .bool false ∧ Below w5.heap.size w5 wx)
  case first =>
    go_region_with (first
      | (go_at_call 5; refine (HNa _).mono ?_; rintro e w6 ⟨d, rfl, hd0, hd, hB6⟩; have hB6' := (Below.refl w5.heap.size w5).drew.trans hB6; have kp6 := (KP _ hB6').1; have bp6 := (KP _ hB6').2)
      | (go_at_call 9; refine (cmp_any p d a a _ bp6 hd (by have h1 := (KP _ (Below.refl _ _)).2.lt; have h2 : w5.heap.size ≤ d := hd0; omega)).mono ?_; rintro e w7 ⟨rfl, hB7⟩))
    all_goals
      go_wp2_with fail
      go_meet
      case rel => exact ⟨rfl, hB6'.trans (hB7.mono hB6'.size)⟩
  case rest =>
    obtain ⟨rfl, hB7⟩ := hcut
    have kq7 := (KQ _ hB7).1
    go_wp2_with fail
    go_cut [72] from 17 (fun c wx => c = .bool false ∧ Below w5.heap.size w5 wx)
    case first =>
      go_region_with (first
        | (go_at_call 5; refine (HNb _).mono ?_; rintro e w8 ⟨d, rfl, hd0, hd, hB8⟩; have hB8' : Below w5.heap.size w5 w8 := hB7.trans (((Below.refl _ _).drew.trans hB8).mono hB7.size); have kq8 := (KQ _ hB8').1; have bq8 := (KQ _ hB8').2)
        | (go_at_call 9; refine (cmp_any q d b b _ bq8 hd (by have h1 := (KQ _ hB7).2.lt; have h2 := hd0; simp at h2; omega)).mono ?_; rintro e w9 ⟨rfl, hB9⟩))
      all_goals
        go_wp2_with fail
        go_meet
        case rel => exact ⟨rfl, hB8'.trans (hB9.mono hB8'.size)⟩
    case rest =>
      obtain ⟨rfl, hB9⟩ := hcut
      go_wp2
      go_ret
      exact ⟨rfl, hB5'.trans (hB9.mono hB5'.size)⟩
set_option maxHeartbeats 1600000 in
theorem picks_ff_le (a b : Int) (hl : leB a b = true) (a0 : -9223372036854775808 ≤ a) (a1 : a ≤ 9223372036854775807) (b0 : -9223372036854775808 ≤ b) (b1 : b ≤ 9223372036854775807) (w : World) :
    Calls Yba.prog 4 #[.int .i64 a, .int .i64 b, .bool false, .bool false] w fun e w' => e = .returned (.bool true) ∧ Below w.heap.size w w' := by
  have HA := mk_some a a0 a1 w
  have HB := mk_some b b0 b1
  have HNa := newInt_any a a0 a1
  have HNb := newInt_any b b0 b1
  have caa : cmpI a a = 0 := cmpI_eq rfl
  have cbb : cmpI b b = 0 := cmpI_eq rfl
  have HS := ptr_neq_same
  have hab : a ≤ b := of_decide_eq_true hl
  go_enter Yba.func4, Yba.ntmps4
  go_wp2_with fail
  refine HA.mono ?_
  rintro e w1 ⟨p, rfl, hp0, hp, hB1⟩
  go_wp2_with fail
  refine (HB _).mono ?_
  rintro e w2 ⟨q, rfl, hq0, hq, hB2⟩
  have k11 := top_cell _ _ hB2
  have hp2 := (hp.below ((Below.refl _ w1).alloc (Nat.le_refl _) (.cells #[.pointer (some ⟨p, 0, none⟩)] 29))).below hB2
  have hB2' := below_alloc_after hB1 _ hB2
  have hpq : p < w1.heap.size := hp.lt
  have hpq2 : w1.heap.size + 1 ≤ q := by simpa using hq0
  obtain ⟨k11, z11⟩ := k11
  have HMn := min_any (some ⟨p, 0, none⟩) (some ⟨q, 0, none⟩) a b (w2.alloc (.cells #[.pointer (some ⟨q, 0, none⟩)] 29))
    (Or.inr ⟨p, rfl, hp2.below ((Below.refl _ w2).alloc (Nat.le_refl _) _)⟩) (Or.inr ⟨q, rfl, hq.below ((Below.refl _ w2).alloc (Nat.le_refl _) _)⟩)
    (fun r h1 h2 => by
      injection h1 with h1; injection h1 with h1; injection h1 with h1
      injection h2 with h2; injection h2 with h2; injection h2 with h2
      omega)
  clear HA HB hB2 hB1 hp hq0 hp0
  go_wp2_with fail
  refine HMn.mono ?_
  rw [hl]
  rintro e w3 ⟨rfl, hB3⟩
  have k12 := top_cell _ _ hB3
  obtain ⟨k12, z12⟩ := k12
  have hz2 : (w2.alloc (.cells #[.pointer (some ⟨q, 0, none⟩)] 29)).heap.size = w2.heap.size + 1 := by simp
  have hA2 : Below w2.heap.size w2 w3 := below_alloc_after (Below.refl _ w2) _ hB3
  have k11' : w3.cell? ⟨w1.heap.size, 0, none⟩ = some (.pointer (some ⟨p, 0, none⟩)) := by rw [hA2.cell (p := ⟨w1.heap.size, 0, none⟩) z11]; exact k11
  have z11' : w1.heap.size < w3.heap.size := by omega
  have hp3 := hp2.below hA2
  have hq3 := hq.below hA2
  have hB3' : Below w.heap.size w w3 := hB2'.trans (hA2.mono hB2'.size)
  clear HMn hB3 hp2 hq hz2 hA2 k11 z11 hB2'
  clear hl
  go_wp2_with fail
  refine (HNa _).mono ?_
  rintro e w4 ⟨c, rfl, hc0, hc, hB4⟩
  have hA4 : Below w3.heap.size w3 w4 := below_alloc_after (Below.refl _ w3) _ hB4
  have hc1 : w3.heap.size + 1 ≤ c := by simpa using hc0
  have hCmp := cmp_any p c a a w4 (hp3.below hA4) hc (by have := hp3.lt; omega)
  clear hB4 hc0 hc1 hc
  go_wp2_with fail
  refine hCmp.mono ?_
  rintro e w5 ⟨rfl, hB5⟩
  have hA5 : Below w3.heap.size w3 w5 := hA4.trans (hB5.mono hA4.size)
  have KP : ∀ W', Below w5.heap.size w5 W' → W'.cell? ⟨w1.heap.size, 0, none⟩ = some (.pointer (some ⟨p, 0, none⟩)) ∧ BigIs W' p a := fun W' hB => by
    have hA := hA5.trans (hB.mono hA5.size)
    exact ⟨by rw [hA.cell (p := ⟨w1.heap.size, 0, none⟩) z11']; exact k11', hp3.below hA⟩
  have KQ : ∀ W', Below w5.heap.size w5 W' → W'.cell? ⟨w2.heap.size, 0, none⟩ = some (.pointer (some ⟨q, 0, none⟩)) ∧ BigIs W' q b := fun W' hB => by
    have hA := hA5.trans (hB.mono hA5.size)
    exact ⟨by rw [hA.cell (p := ⟨w2.heap.size, 0, none⟩) z12]; exact k12, hq3.below hA⟩
  have hB5' : Below w.heap.size w w5 := hB3'.trans (hA5.mono hB3'.size)
  have kp5 := (KP w5 (Below.refl _ _)).1
  clear hCmp hA4 hB5 hA5 k11' z11' hp3 hq3 k12 z12 hB3'
  go_wp2_with fail
  go_cut [62] from 17 (fun c wx => c = .bool false ∧ Below w5.heap.size w5 wx)
  case first =>
    go_region_with (first
      | (go_at_call 5; refine (HNa _).mono ?_; rintro e w6 ⟨d, rfl, hd0, hd, hB6⟩; have hB6' := (Below.refl w5.heap.size w5).drew.trans hB6; have kp6 := (KP _ hB6').1; have bp6 := (KP _ hB6').2)
      | (go_at_call 9; refine (cmp_any p d a a _ bp6 hd (by have h1 := (KP _ (Below.refl _ _)).2.lt; have h2 : w5.heap.size ≤ d := hd0; omega)).mono ?_; rintro e w7 ⟨rfl, hB7⟩))
    all_goals
      go_wp2_with fail
      go_meet
      case rel => exact ⟨rfl, hB6'.trans (hB7.mono hB6'.size)⟩
  case rest =>
    obtain ⟨rfl, hB7⟩ := hcut
    have kq7 := (KQ _ hB7).1
    go_wp2_with fail
    go_cut [72] from 17 (fun c wx => c = .bool false ∧ Below w5.heap.size w5 wx)
    case first =>
      go_region_with (first
        | (go_at_call 5; refine (HNb _).mono ?_; rintro e w8 ⟨d, rfl, hd0, hd, hB8⟩; have hB8' : Below w5.heap.size w5 w8 := hB7.trans (((Below.refl _ _).drew.trans hB8).mono hB7.size); have kq8 := (KQ _ hB8').1; have bq8 := (KQ _ hB8').2)
        | (go_at_call 9; refine (cmp_any q d b b _ bq8 hd (by have h1 := (KQ _ hB7).2.lt; have h2 := hd0; simp at h2; omega)).mono ?_; rintro e w9 ⟨rfl, hB9⟩))
      all_goals
        go_wp2_with fail
        go_meet
        case rel => exact ⟨rfl, hB8'.trans (hB9.mono hB8'.size)⟩
    case rest =>
      obtain ⟨rfl, hB9⟩ := hcut
      go_wp2
      go_ret
      exact ⟨rfl, hB5'.trans (hB9.mono hB5'.size)⟩
end Go.Proofs.Ybulkbqxy
