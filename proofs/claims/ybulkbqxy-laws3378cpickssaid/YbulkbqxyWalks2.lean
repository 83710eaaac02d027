/-
  DERIVED. THE WALKS, second part: (*big.Int).Cmp; Decimal's scaledInt and cmp; minDecimal; zzs3378cmk.
-/
import Derived.Test.YbulkbqxyWalks1
namespace Go.Proofs.Ybulkbqxy
open Go.RowKit

/-! Cmp -/
theorem cmpI_signs (x y : Int) (hs : decide (x < 0) = decide (y < 0)) : cmpI x y = if x < 0 then - cmpI (absI x) (absI y) else cmpI (absI x) (absI y) := by
  have h2 : x < 0 ↔ y < 0 := by simpa using hs
  unfold cmpI absI
  split <;> split <;> split <;> (try split) <;> (try split) <;> omega
set_option maxHeartbeats 400000 in
theorem cmp_same (p q : Nat) (x y : Int) (w : World) (hp : BigIs w p x) (hq : BigIs w q y) (hne : p ≠ q) (hs : decide (x < 0) = decide (y < 0)) :
    Calls Yba.prog 9 #[.pointer (some ⟨p, 0, none⟩), .pointer (some ⟨q, 0, none⟩)] w fun e w' => e = .returned (.int .i64 (cmpI x y)) ∧ Below w.heap.size w w' := by
  have HE := fun (W : World) (hB : Below w.heap.size w W) => ptr_other p q hne W (by rw [hB.block p hp.lt]; exact hp.choose_spec.1) (by rw [hB.block q hq.lt]; exact hq.choose_spec.1)
  have he := HE w (Below.refl _ _)
  have hp1 := hp.lt
  have hq1 := hq.lt
  obtain ⟨sv, p2, p3, p4⟩ := hp.cells
  obtain ⟨tv, q2, q3, q4⟩ := hq.cells
  have HC : Hid (cmpI x y = if x < 0 then - cmpI (absI x) (absI y) else cmpI (absI x) (absI y)) := cmpI_signs x y hs
  rw [← hs] at q2
  have HN : ∀ w', Below w.heap.size w w' → Calls Yba.prog 17 #[sv, tv] w' fun e w'' => e = .returned (.int .i64 (cmpI (absI x) (absI y))) ∧ Below w.heap.size w w'' := fun w' hB =>
    (natcmp_any sv tv _ _ w' (p4.below hB) (q4.below hB)).mono fun e w'' h => ⟨h.1, hB.trans (h.2.mono hB.size)⟩
  clear hs p4 q4 HE hp hq
  have HK : ∀ w', Below w.heap.size w w' → w'.cell? ⟨p, 0, none⟩ = some (.bool (decide (x < 0))) := fun w' hB => by rw [hB.cell (p := ⟨p, 0, none⟩) hp1]; exact p2
  cases hsx : decide (x < 0)
  · rw [hsx] at p2 q2 HK
    have HC2 : Hid (cmpI x y = cmpI (absI x) (absI y)) := by
      have h := HC.out
      rw [if_neg (of_decide_eq_false hsx)] at h
      exact h
    clear hsx
    go_enter Yba.func9, Yba.ntmps9
    go_wp2
    go_quiet (fail)
    go_wp2
    go_region_with (go_at_call 17; refine (HN _ ?_).mono ?_; (first | exact below_drewN (Below.refl _ _) _ | exact (below_drewN (Below.refl _ _) _).drew); rintro e w2 ⟨rfl, hB⟩; have hk2 := HK _ hB)
    all_goals
      go_wp2
      go_ret
      exact ⟨by rw [HC2.out]; rfl, hB⟩
  · rw [hsx] at p2 q2 HK
    have HC2 : Hid (cmpI x y = - cmpI (absI x) (absI y)) := by
      have h := HC.out
      rw [if_pos (of_decide_eq_true hsx)] at h
      exact h
    have hcb : -1 ≤ cmpI (absI x) (absI y) ∧ cmpI (absI x) (absI y) ≤ 1 := by unfold cmpI; split <;> (try split) <;> omega
    clear hsx
    go_enter Yba.func9, Yba.ntmps9
    go_wp2
    go_quiet (fail)
    go_wp2
    go_region_with (go_at_call 17; refine (HN _ ?_).mono ?_; (first | exact below_drewN (Below.refl _ _) _ | exact (below_drewN (Below.refl _ _) _).drew); rintro e w2 ⟨rfl, hB⟩; have hk2 := HK _ hB)
    all_goals
      go_wp2
      go_ret
      exact ⟨by rw [HC2.out]; rfl, hB⟩

set_option maxHeartbeats 400000 in
theorem cmp_diff (p q : Nat) (x y : Int) (w : World) (hp : BigIs w p x) (hq : BigIs w q y) (hne : p ≠ q) (hs : decide (x < 0) = !decide (y < 0)) :
    Calls Yba.prog 9 #[.pointer (some ⟨p, 0, none⟩), .pointer (some ⟨q, 0, none⟩)] w fun e w' => e = .returned (.int .i64 (cmpI x y)) ∧ Below w.heap.size w w' := by
  have he := ptr_other p q hne w hp.choose_spec.1 hq.choose_spec.1
  obtain ⟨sv, p2, _, _⟩ := hp.cells
  obtain ⟨tv, q2, _, _⟩ := hq.cells
  clear hp hq
  cases hsx : decide (x < 0)
  · have hx := of_decide_eq_false hsx
    have hy : y < 0 := by rw [hsx] at hs; simpa using hs
    have HC : Hid (cmpI x y = 1) := cmpI_gt (by omega)
    rw [hsx] at p2
    rw [decide_eq_true hy] at q2
    clear hs hsx hx hy
    go_enter Yba.func9, Yba.ntmps9
    go_wp2
    go_quiet (fail)
    go_wp2
    go_ret
    exact ⟨by rw [HC.out]; rfl, below_drewN (Below.refl _ _) _⟩
  · have hx := of_decide_eq_true hsx
    have hy : ¬ y < 0 := by rw [hsx] at hs; simpa using hs
    have HC : Hid (cmpI x y = -1) := cmpI_lt (by omega)
    rw [hsx] at p2
    rw [decide_eq_false hy] at q2
    clear hs hsx hx hy
    go_enter Yba.func9, Yba.ntmps9
    go_wp2
    go_quiet (fail)
    go_wp2
    go_ret
    exact ⟨by rw [HC.out]; rfl, below_drewN (Below.refl _ _) _⟩

theorem cmp_any (p q : Nat) (x y : Int) (w : World) (hp : BigIs w p x) (hq : BigIs w q y) (hne : p ≠ q) :
    Calls Yba.prog 9 #[.pointer (some ⟨p, 0, none⟩), .pointer (some ⟨q, 0, none⟩)] w fun e w' => e = .returned (.int .i64 (cmpI x y)) ∧ Below w.heap.size w w' := by
  cases h1 : decide (x < 0) <;> cases h2 : decide (y < 0)
  · exact cmp_same p q x y w hp hq hne (by rw [h1, h2])
  · exact cmp_diff p q x y w hp hq hne (by rw [h1, h2]; rfl)
  · exact cmp_diff p q x y w hp hq hne (by rw [h1, h2]; rfl)
  · exact cmp_same p q x y w hp hq hne (by rw [h1, h2])
end Go.Proofs.Ybulkbqxy
