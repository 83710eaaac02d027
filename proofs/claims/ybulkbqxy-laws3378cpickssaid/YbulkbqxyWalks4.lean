/-
  DERIVED. THE WALKS, fourth part: minDecimal, zzs3378cmk; the law LawS3378CPicks' walk.
-/
import Derived.Test.YbulkbqxyWalks3
namespace Go.Proofs.Ybulkbqxy
open Go.RowKit

/-! minDecimal -/
def leB (x y : Int) : Bool := decide (x ≤ y)
theorem cmpI_le (x y : Int) : cmpI x y ≤ 0 ↔ x ≤ y := by unfold cmpI; split <;> (try split) <;> omega
set_option maxHeartbeats 400000 in
theorem min_any (o1 o2 : Option Addr) (x y : Int) (w : World) (h1 : DecIs w (.pointer o1) x) (h2 : DecIs w (.pointer o2) y) (hne : ∀ p, Value.pointer o1 = .pointer (some ⟨p, 0, none⟩) → Value.pointer o2 ≠ .pointer (some ⟨p, 0, none⟩)) :
    Calls Yba.prog 8 #[.agg #[.pointer o1], .agg #[.pointer o2]] w fun e w' => e = .returned (.agg #[.pointer (if leB x y then o1 else o2)]) ∧ Below w.heap.size w w' := by
  have HW : Below w.heap.size w (((w.alloc (.cells #[.pointer o1] 29)).alloc (.cells #[.pointer o2] 29)).alloc (.cells #[.pointer none] 29)) := (((Below.refl _ w).alloc (Nat.le_refl _) _).alloc (by simp) _).alloc (by simp; omega) _
  have HC := dcmp_any (.pointer o1) (.pointer o2) x y _ (h1.below HW) (h2.below HW) hne
  have hcl := cmpI_le x y
  cases hl : leB x y
  · have hx : ¬ cmpI x y ≤ 0 := by rw [hcl]; exact of_decide_eq_false hl
    clear hcl h1 h2 hne hl
    go_enter Yba.func8, Yba.ntmps8
    go_wp2_with fail
    refine HC.mono ?_
    rintro e w2 ⟨rfl, hB⟩
    have k1 : w2.cell? ⟨w.heap.size, 0, none⟩ = some (.pointer o1) := by rw [hB.cell (p := ⟨w.heap.size, 0, none⟩) (by simp; omega)]; simp [go_sem]
    have k2 : w2.cell? ⟨w.heap.size + 1, 0, none⟩ = some (.pointer o2) := by rw [hB.cell (p := ⟨w.heap.size + 1, 0, none⟩) (by simp)]; simp [go_sem]
    have k3 : w2.cell? ⟨w.heap.size + 1 + 1, 0, none⟩ = some (.pointer none) := by rw [hB.cell (p := ⟨w.heap.size + 1 + 1, 0, none⟩) (by simp)]; simp [go_sem]
    have f3 : w2.frozen? ⟨w.heap.size + 1 + 1, 0, none⟩ = false := by rw [hB.frozen (p := ⟨w.heap.size + 1 + 1, 0, none⟩) (by simp)]; simp [go_sem]
    have hB2 : Below w.heap.size w (w2.setCell ⟨w.heap.size + 1 + 1, 0, none⟩ (.pointer o2)) := (HW.trans (hB.mono HW.size)).setCell (by show w.heap.size ≤ w.heap.size + 1 + 1; omega) _
    go_wp2
    exact bodyPost_ret (v := .agg #[.pointer o2]) (by simp [results, Yba.results8, go_sem, k3]) rfl ⟨rfl, hB2⟩
  · have hx : cmpI x y ≤ 0 := by rw [hcl]; exact of_decide_eq_true hl
    clear hcl h1 h2 hne hl
    go_enter Yba.func8, Yba.ntmps8
    go_wp2_with fail
    refine HC.mono ?_
    rintro e w2 ⟨rfl, hB⟩
    have k1 : w2.cell? ⟨w.heap.size, 0, none⟩ = some (.pointer o1) := by rw [hB.cell (p := ⟨w.heap.size, 0, none⟩) (by simp; omega)]; simp [go_sem]
    have k2 : w2.cell? ⟨w.heap.size + 1, 0, none⟩ = some (.pointer o2) := by rw [hB.cell (p := ⟨w.heap.size + 1, 0, none⟩) (by simp)]; simp [go_sem]
    have k3 : w2.cell? ⟨w.heap.size + 1 + 1, 0, none⟩ = some (.pointer none) := by rw [hB.cell (p := ⟨w.heap.size + 1 + 1, 0, none⟩) (by simp)]; simp [go_sem]
    have f3 : w2.frozen? ⟨w.heap.size + 1 + 1, 0, none⟩ = false := by rw [hB.frozen (p := ⟨w.heap.size + 1 + 1, 0, none⟩) (by simp)]; simp [go_sem]
    have hB2 : Below w.heap.size w (w2.setCell ⟨w.heap.size + 1 + 1, 0, none⟩ (.pointer o1)) := (HW.trans (hB.mono HW.size)).setCell (by show w.heap.size ≤ w.heap.size + 1 + 1; omega) _
    go_wp2
    exact bodyPost_ret (v := .agg #[.pointer o1]) (by simp [results, Yba.results8, go_sem, k3]) rfl ⟨rfl, hB2⟩

/-! zzs3378cmk -/
theorem BigIs.setPtr {w : World} {b n : Nat} {x : Int} {o : Option Addr} (v : Value) (h : BigIs w b x) (hn : w.cell? ⟨n, 0, none⟩ = some (.pointer o)) : BigIs (w.setCell ⟨n, 0, none⟩ v) b x := by
  obtain ⟨sv, h1, h2⟩ := h
  have hbn : b ≠ n := by
    intro e
    subst e
    simp [World.cell?, h1] at hn
  refine ⟨sv, by rw [Below.heap_setCell w ⟨n, 0, none⟩ v b hbn]; exact h1, ?_⟩
  rcases h2 with h | ⟨h0, d, hd, hs, hc⟩
  · exact Or.inl h
  · have hdn : d ≠ n := by
      intro e
      subst e
      rw [hn] at hc
      cases hc
    refine Or.inr ⟨h0, d, by simp [World.setCell]; exact hd, hs, ?_⟩
    rw [World.cell?_setCell_other]
    · exact hc
    · exact fun e => hdn (by injection e with e1; exact e1.symm)
theorem mk_nil (x : Int) (w : World) : Calls Yba.prog 7 #[.int .i64 x, .bool true] w fun e w' => e = .returned (.agg #[.pointer none]) ∧ Below w.heap.size w w' := by
  go_enter Yba.func7, Yba.ntmps7
  go_wp2
  exact bodyPost_ret (v := .agg #[.pointer none]) (by simp [results, Yba.results7, go_sem]) rfl ⟨rfl, (Below.refl _ _).alloc (Nat.le_refl _) _⟩
theorem mk_some (x : Int) (h0 : -9223372036854775808 ≤ x) (h1 : x ≤ 9223372036854775807) (w : World) :
    Calls Yba.prog 7 #[.int .i64 x, .bool false] w fun e w' => ∃ b, e = .returned (.agg #[.pointer (some ⟨b, 0, none⟩)]) ∧ w.heap.size ≤ b ∧ BigIs w' b x ∧ Below w.heap.size w w' := by
  have HN := newInt_any x h0 h1 (w.alloc (.cells #[.pointer none] 29))
  go_enter Yba.func7, Yba.ntmps7
  go_wp2_with fail
  refine HN.mono ?_
  rintro e w2 ⟨b, rfl, hb, hbig, hB⟩
  have k3 : w2.cell? ⟨w.heap.size, 0, none⟩ = some (.pointer none) := by rw [hB.cell (p := ⟨w.heap.size, 0, none⟩) (by simp)]; simp [go_sem]
  have f3 : w2.frozen? ⟨w.heap.size, 0, none⟩ = false := by rw [hB.frozen (p := ⟨w.heap.size, 0, none⟩) (by simp)]; simp [go_sem]
  have hB1 : Below w.heap.size w w2 := ((Below.refl _ w).alloc (Nat.le_refl _) _).trans (hB.mono (by simp))
  have hB2 : Below w.heap.size w (w2.setCell ⟨w.heap.size, 0, none⟩ (.pointer (some ⟨b, 0, none⟩))) := hB1.setCell (Nat.le_refl _) _
  have hbl : w.heap.size + 1 ≤ b := by simpa using hb
  have hbig2 : BigIs (w2.setCell ⟨w.heap.size, 0, none⟩ (.pointer (some ⟨b, 0, none⟩))) b x := hbig.setPtr _ k3
  clear HN
  go_wp2
  exact bodyPost_ret (v := .agg #[.pointer (some ⟨b, 0, none⟩)]) (by simp [results, Yba.results7, go_sem, k3]) rfl ⟨b, rfl, by omega, hbig2, hB2⟩

end Go.Proofs.Ybulkbqxy
