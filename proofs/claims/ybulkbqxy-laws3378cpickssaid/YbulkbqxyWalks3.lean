/-
  DERIVED. THE WALKS, third part: Decimal's scaledInt and cmp, minDecimal, zzs3378cmk.
-/
import Derived.Test.YbulkbqxyWalks2
namespace Go.Proofs.Ybulkbqxy
open Go.RowKit

theorem sc_some (p : Nat) (w : World) : Calls Yba.prog 18 #[.agg #[.pointer (some ⟨p, 0, none⟩)]] w fun e w' => e = .returned (.pointer (some ⟨p, 0, none⟩)) ∧ w' = w.alloc (.cells #[.pointer (some ⟨p, 0, none⟩)] 29) := by
  go_enter Yba.func18, Yba.ntmps18
  go_wp2
  go_ret
  exact ⟨rfl, rfl⟩
theorem sc_none (w : World) : Calls Yba.prog 18 #[.agg #[.pointer none]] w fun e w' => e = .returned (.pointer (some ⟨w.heap.size + 1, 0, none⟩)) ∧ w' = (w.alloc (.cells #[.pointer none] 29)).alloc (.cells #[.bool false, .slice none 0 0] 52) := by
  go_enter Yba.func18, Yba.ntmps18
  go_wp2
  go_ret
  exact ⟨rfl, rfl⟩

/-- a Decimal's one cell stands for x. -/
def DecIs (w : World) (v : Value) (x : Int) : Prop := (v = .pointer none ∧ x = 0) ∨ ∃ p, v = .pointer (some ⟨p, 0, none⟩) ∧ BigIs w p x
theorem DecIs.below {w w' : World} {v : Value} {x : Int} (h : DecIs w v x) (hB : Below w.heap.size w w') : DecIs w' v x := by
  rcases h with h | ⟨p, h1, h2⟩
  · exact Or.inl h
  · exact Or.inr ⟨p, h1, h2.below hB⟩

/-- scaledInt: a big.Int that stands for x; a new one where the Decimal's cell is nil. -/
theorem scaled_any (v : Value) (x : Int) (w : World) (h : DecIs w v x) : Calls Yba.prog 18 #[.agg #[v]] w fun e w' => ∃ p, e = .returned (.pointer (some ⟨p, 0, none⟩)) ∧ BigIs w' p x ∧ Below w.heap.size w w' ∧ (v = .pointer (some ⟨p, 0, none⟩) ∨ w.heap.size ≤ p) := by
  rcases h with ⟨rfl, rfl⟩ | ⟨p, rfl, hp⟩
  · refine (sc_none w).mono ?_
    rintro e w' ⟨rfl, rfl⟩
    refine ⟨_, rfl, ⟨.slice none 0 0, ?_, Or.inl ⟨rfl, rfl⟩⟩, ((Below.refl _ w).alloc (Nat.le_refl _) _).alloc (by simp) _, Or.inr (by omega)⟩
    have e : (w.alloc (.cells #[.pointer none] 29)).heap.size = w.heap.size + 1 := by simp
    rw [← e]
    exact heap_alloc_new _ _
  · refine (sc_some p w).mono ?_
    rintro e w' ⟨rfl, rfl⟩
    have hB := (Below.refl _ w).alloc (Nat.le_refl _) (.cells #[.pointer (some ⟨p, 0, none⟩)] 29)
    exact ⟨p, rfl, hp.below hB, hB, Or.inl rfl⟩

theorem DecIs.lt {w : World} {v : Value} {x : Int} (h : DecIs w v x) (p : Nat) (hv : v = .pointer (some ⟨p, 0, none⟩)) : p < w.heap.size := by
  rcases h with ⟨rfl, _⟩ | ⟨p', rfl, hb⟩
  · cases hv
  · injection hv with h1
    injection h1 with h2
    injection h2 with h3
    subst h3
    exact hb.lt
theorem two_ne {a b c : Nat} {v1 v2 : Value} {p q : Nat} (hab : a ≤ b) (l2 : v2 = .pointer (some ⟨q, 0, none⟩) → q < a)
    (hne : ∀ p, v1 = .pointer (some ⟨p, 0, none⟩) → v2 ≠ .pointer (some ⟨p, 0, none⟩)) (hp : v1 = .pointer (some ⟨p, 0, none⟩) ∨ b ≤ p) (hpc : p < c) (hq : v2 = .pointer (some ⟨q, 0, none⟩) ∨ c ≤ q) : p ≠ q := by
  intro e
  subst e
  rcases hp with h | h
  · rcases hq with h' | h'
    · exact hne p h h'
    · omega
  · rcases hq with h' | h'
    · have := l2 h'; omega
    · omega

set_option maxHeartbeats 800000 in
theorem dcmp_any (v1 v2 : Value) (x y : Int) (w : World) (h1 : DecIs w v1 x) (h2 : DecIs w v2 y) (hne : ∀ p, v1 = .pointer (some ⟨p, 0, none⟩) → v2 ≠ .pointer (some ⟨p, 0, none⟩)) :
    Calls Yba.prog 16 #[.agg #[v1], .agg #[v2]] w fun e w' => e = .returned (.int .i64 (cmpI x y)) ∧ Below w.heap.size w w' := by
  have HW : Below w.heap.size w ((w.alloc (.cells #[v1] 29)).alloc (.cells #[v2] 29)).drew := (((Below.refl _ w).alloc (Nat.le_refl _) _).alloc (by simp) _).drew
  have D1 := h1.below HW
  have D2 := h2.below HW
  have L1 := h1.lt
  have L2 := h2.lt
  have hsz : w.heap.size ≤ ((w.alloc (.cells #[v1] 29)).alloc (.cells #[v2] 29)).drew.heap.size := HW.size
  have HK1 : ∀ W', Below ((w.alloc (.cells #[v1] 29)).alloc (.cells #[v2] 29)).drew.heap.size ((w.alloc (.cells #[v1] 29)).alloc (.cells #[v2] 29)).drew W' → W'.cell? ⟨w.heap.size, 0, none⟩ = some v1 := fun W' hB => by
    rw [hB.cell (p := ⟨w.heap.size, 0, none⟩) (by simp; omega)]; simp [go_sem]
  have HK2 : ∀ W', Below ((w.alloc (.cells #[v1] 29)).alloc (.cells #[v2] 29)).drew.heap.size ((w.alloc (.cells #[v1] 29)).alloc (.cells #[v2] 29)).drew W' → W'.cell? ⟨w.heap.size + 1, 0, none⟩ = some v2 := fun W' hB => by
    rw [hB.cell (p := ⟨w.heap.size + 1, 0, none⟩) (by simp)]; simp [go_sem]
  have HH1 : Hid (DecIs w v1 x) := h1
  have HH2 : Hid (DecIs w v2 y) := h2
  have HNE : Hid (∀ p, v1 = .pointer (some ⟨p, 0, none⟩) → v2 ≠ .pointer (some ⟨p, 0, none⟩)) := hne
  have HL1 : Hid (∀ p, v1 = .pointer (some ⟨p, 0, none⟩) → p < w.heap.size) := L1
  have HL2 : Hid (∀ p, v2 = .pointer (some ⟨p, 0, none⟩) → p < w.heap.size) := L2
  clear h1 h2 hne L1 L2
  go_enter Yba.func16, Yba.ntmps16
  go_wp2
  go_region_with (first
    | (go_at_call_of 18 v1; refine (scaled_any v1 x _ ?_).mono ?_; (first | exact D1 | exact D1.below hBq); rintro e wp ⟨p, rfl, hp, hBp, hpo⟩; (try (have k1 := HK1 _ hBp; have k2 := HK2 _ hBp)))
    | (go_at_call_of 18 v2; refine (scaled_any v2 y _ ?_).mono ?_; (first | exact D2 | exact D2.below hBp); rintro e wq ⟨q, rfl, hq, hBq, hqo⟩; (try (have k1 := HK1 _ hBq; have k2 := HK2 _ hBq)))
    | (go_at_call 9; refine (cmp_any p q x y _ ?_ ?_ ?_).mono ?_; (first | exact hp.below hBq | exact hp); (first | exact hq | exact hq.below hBp); (first | exact two_ne hsz (HL2.out q) HNE.out hpo hp.lt hqo | exact (two_ne hsz (HL1.out p) (fun r a b => HNE.out r b a) hqo hq.lt hpo).symm); rintro e w9 ⟨rfl, hB9⟩))
  all_goals
    go_wp2
    go_ret
    refine ⟨rfl, ?_⟩
    first
      | exact (HW.trans (hBp.mono hsz)).trans ((hBq.mono (Nat.le_trans hsz hBp.size)).trans (hB9.mono (Nat.le_trans (Nat.le_trans hsz hBp.size) hBq.size)))
      | exact (HW.trans (hBq.mono hsz)).trans ((hBp.mono (Nat.le_trans hsz hBq.size)).trans (hB9.mono (Nat.le_trans (Nat.le_trans hsz hBq.size) hBp.size)))

end Go.Proofs.Ybulkbqxy
