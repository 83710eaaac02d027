/-
  DERIVED. THE WALKS, first part: math/big: NewInt, nat.cmp, Cmp at numbers of one word.
-/
import Derived.Test.YbulkbqxyRows
import Derived.WalkKit
import Derived.WalkSpells
import Derived.WalkLawsBesides
import Derived.Deep.RegionWith
import Derived.Deep.QuietTactic
import Derived.BigQuiet
import Derived.WalkSmall
import Derived.LaidEql
namespace Go.Proofs.Ybulkbqxy
open Go.RowKit

theorem wrap_u64 (n : Int) : IntKind.u64.wrap n = n % 18446744073709551616 := by
  simp [IntKind.wrap, IntKind.bits, IntKind.signed]

/-- a number without a sign, as big keeps it: no word, or one. -/
def NatIs (w : World) (sv : Value) (a : Int) : Prop :=
  (a = 0 ∧ sv = .slice none 0 0) ∨ (0 < a ∧ ∃ d, d < w.heap.size ∧ sv = .slice (some ⟨d, 0, none⟩) 1 1 ∧ w.cell? ⟨d, 0, none⟩ = some (.int .u64 a))
def absI (x : Int) : Int := if x < 0 then -x else x
/-- the block b is a big.Int that stands for x. -/
def BigIs (w : World) (b : Nat) (x : Int) : Prop :=
  ∃ sv, w.heap[b]? = some (.cells #[.bool (decide (x < 0)), sv] 52 (0, 0)) ∧ NatIs w sv (absI x)

theorem NatIs.below {w w' : World} {sv : Value} {a : Int} (h : NatIs w sv a) (hB : Below w.heap.size w w') : NatIs w' sv a := by
  rcases h with h | ⟨h0, d, hd, hs, hc⟩
  · exact Or.inl h
  · exact Or.inr ⟨h0, d, Nat.lt_of_lt_of_le hd hB.size, hs, by rw [hB.cell (p := ⟨d, 0, none⟩) hd]; exact hc⟩
theorem lt_of_heap {w : World} {b : Nat} {o : Obj} (h : w.heap[b]? = some o) : b < w.heap.size := (Array.getElem?_eq_some_iff.1 h).1
theorem BigIs.lt {w : World} {b : Nat} {x : Int} (h : BigIs w b x) : b < w.heap.size := by obtain ⟨sv, h1, _⟩ := h; exact lt_of_heap h1
theorem BigIs.below {w w' : World} {b : Nat} {x : Int} (h : BigIs w b x) (hB : Below w.heap.size w w') : BigIs w' b x := by
  have hl := h.lt
  obtain ⟨sv, h1, h2⟩ := h
  exact ⟨sv, by rw [hB.block b hl]; exact h1, h2.below hB⟩
theorem BigIs.cells {w : World} {b : Nat} {x : Int} (h : BigIs w b x) : ∃ sv, w.cell? ⟨b, 0, none⟩ = some (.bool (decide (x < 0))) ∧ w.cell? ⟨b, 1, none⟩ = some sv ∧ NatIs w sv (absI x) := by
  obtain ⟨sv, h1, h2⟩ := h
  exact ⟨sv, by simp [World.cell?, h1], by simp [World.cell?, h1], h2⟩

/-! two pointers -/
theorem info26 : (Yba.prog.info? 52).map (fun i => (i.zero, i.size, i.bytes)) = some (some (.agg #[.bool false, .slice none 0 0]), 2, 32) := by kernel_rfl
theorem ptr_same (a : Nat) (w : World) : (binOp .eql 26 (.pointer (some ⟨a, 0, none⟩)) (.pointer (some ⟨a, 0, none⟩))).run Yba.prog w = .ok (.bool true) w := by
  obtain ⟨i0, hi, _, _, _⟩ := info_parts info26
  simp only [binOp]
  have h : ∀ d : Nat, (Op.equalIn (d + 1) 26 (.pointer (some ⟨a, 0, none⟩)) (.pointer (some ⟨a, 0, none⟩))).run Yba.prog w = .ok true w := fun d => by
    simp [Op.equalIn, run_underlying Yba.underlying26, sizeOf, typeInfo, hi, run_sameAddr_same]
  simp [Op.equal, Op.maxDepth, h 9999]
theorem ptr_neq_same (a : Nat) (w : World) : (binOp .neq 26 (.pointer (some ⟨a, 0, none⟩)) (.pointer (some ⟨a, 0, none⟩))).run Yba.prog w = .ok (.bool false) w := by
  obtain ⟨i0, hi, _, _, _⟩ := info_parts info26
  simp only [binOp]
  have h : ∀ d : Nat, (Op.equalIn (d + 1) 26 (.pointer (some ⟨a, 0, none⟩)) (.pointer (some ⟨a, 0, none⟩))).run Yba.prog w = .ok true w := fun d => by
    simp [Op.equalIn, run_underlying Yba.underlying26, sizeOf, typeInfo, hi, run_sameAddr_same]
  simp [Op.equal, Op.maxDepth, h 9999]
theorem ptr_other (a b : Nat) (hne : a ≠ b) (w : World) {ca cb : Array Value} {ta tb : TypeId} (ha : w.heap[a]? = some (.cells ca ta (0, 0))) (hb : w.heap[b]? = some (.cells cb tb (0, 0))) :
    (binOp .eql 26 (.pointer (some ⟨a, 0, none⟩)) (.pointer (some ⟨b, 0, none⟩))).run Yba.prog w = .ok (.bool false) w := by
  obtain ⟨i0, hi, hz0, hz1, hz2⟩ := info_parts info26
  have hs := run_sameAddr_other (P := Yba.prog) w (a := ⟨a, 0, none⟩) (b := ⟨b, 0, none⟩) (fun e => hne (by injection e)) ha hb
  simp only [binOp]
  have h : ∀ d : Nat, (Op.equalIn (d + 1) 26 (.pointer (some ⟨a, 0, none⟩)) (.pointer (some ⟨b, 0, none⟩))).run Yba.prog w = .ok false w := fun d => by
    simp [Op.equalIn, run_underlying Yba.underlying26, sizeOf, typeInfo, hi, hz1, hs]
  simp [Op.equal, Op.maxDepth, h 9999]

theorem newInt_zero (w : World) :
    Calls Yba.prog 5 #[.int .i64 0] w fun e w' => e = .returned (.pointer (some ⟨w.heap.size, 0, none⟩)) ∧ w' = w.alloc (.cells #[.bool false, .slice none 0 0] 52) := by
  go_enter Yba.func5, Yba.ntmps5
  go_wp2
  go_ret
  exact ⟨rfl, rfl⟩
theorem newInt_pos (x : Int) (h0 : 0 < x) (h1 : x ≤ 9223372036854775807) (w : World) :
    Calls Yba.prog 5 #[.int .i64 x] w fun e w' => e = .returned (.pointer (some ⟨w.heap.size + 1, 0, none⟩)) ∧ w' = (w.alloc (.cells #[.int .u64 x] 57)).alloc (.cells #[.bool (decide (x < 0)), .slice (some ⟨w.heap.size, 0, none⟩) 1 1] 52) := by
  go_enter Yba.func5, Yba.ntmps5
  go_wp2
  go_ret
  exact ⟨rfl, rfl⟩
theorem newInt_neg (x : Int) (h0 : x < 0) (w : World) :
    Calls Yba.prog 5 #[.int .i64 x] w fun e w' => e = .returned (.pointer (some ⟨w.heap.size + 1, 0, none⟩)) ∧ w' = (w.alloc (.cells #[.int .u64 (IntKind.u64.wrap (-IntKind.u64.wrap x))] 57)).alloc (.cells #[.bool true, .slice (some ⟨w.heap.size, 0, none⟩) 1 1] 52) := by
  go_enter Yba.func5, Yba.ntmps5
  go_wp2
  go_ret
  exact ⟨rfl, rfl⟩

/-- what NewInt hands back. -/
def NI (x : Int) (w : World) (e : Ending) (w' : World) : Prop := ∃ b, e = .returned (.pointer (some ⟨b, 0, none⟩)) ∧ w.heap.size ≤ b ∧ BigIs w' b x ∧ Below w.heap.size w w'

theorem big_two (w : World) (a : Int) (s : Bool) (x : Int) (ha : a = absI x) (h0 : 0 < a) (hs : s = decide (x < 0)) :
    BigIs ((w.alloc (.cells #[.int .u64 a] 57)).alloc (.cells #[.bool s, .slice (some ⟨w.heap.size, 0, none⟩) 1 1] 52)) (w.heap.size + 1) x := by
  have e : (w.alloc (.cells #[.int .u64 a] 57)).heap.size = w.heap.size + 1 := by simp
  refine ⟨.slice (some ⟨w.heap.size, 0, none⟩) 1 1, ?_, Or.inr ⟨by rw [← ha]; exact h0, w.heap.size, by simp; omega, rfl, ?_⟩⟩
  · rw [← hs, ← e]
    exact heap_alloc_new _ _
  · rw [← ha]; simp [go_sem]
theorem newInt_any (x : Int) (h0 : -9223372036854775808 ≤ x) (h1 : x ≤ 9223372036854775807) (w : World) : Calls Yba.prog 5 #[.int .i64 x] w fun e w' => NI x w e w' := by
  rcases Int.lt_trichotomy x 0 with h | h | h
  · refine (newInt_neg x h w).mono ?_
    rintro e w' ⟨rfl, rfl⟩
    have e1 : IntKind.u64.wrap (-IntKind.u64.wrap x) = -x := by rw [wrap_u64, wrap_u64]; omega
    rw [e1]
    exact ⟨_, rfl, by omega, big_two w (-x) true x (by unfold absI; rw [if_pos h]) (by omega) (decide_eq_true h).symm, ((Below.refl _ w).alloc (Nat.le_refl _) _).alloc (by simp) _⟩
  · subst h
    refine (newInt_zero w).mono ?_
    rintro e w' ⟨rfl, rfl⟩
    exact ⟨_, rfl, Nat.le_refl _, ⟨.slice none 0 0, heap_alloc_new _ _, Or.inl ⟨rfl, rfl⟩⟩, (Below.refl _ w).alloc (Nat.le_refl _) _⟩
  · refine (newInt_pos x h h1 w).mono ?_
    rintro e w' ⟨rfl, rfl⟩
    exact ⟨_, rfl, by omega, big_two w x _ x (by unfold absI; rw [if_neg (by omega)]) h rfl, ((Below.refl _ w).alloc (Nat.le_refl _) _).alloc (by simp) _⟩

/-! nat.cmp -/
def cmpI (a b : Int) : Int := if a < b then -1 else if b < a then 1 else 0
theorem cmpI_lt {a b : Int} (h : a < b) : cmpI a b = -1 := by unfold cmpI; rw [if_pos h]
theorem cmpI_gt {a b : Int} (h : b < a) : cmpI a b = 1 := by unfold cmpI; rw [if_neg (by omega), if_pos h]
theorem cmpI_eq {a b : Int} (h : a = b) : cmpI a b = 0 := by unfold cmpI; rw [if_neg (by omega), if_neg (by omega)]

theorem nc_00 (w : World) : Calls Yba.prog 17 #[.slice none 0 0, .slice none 0 0] w fun e w' => e = .returned (.int .i64 0) ∧ w' = w := by
  go_enter Yba.func17, Yba.ntmps17
  go_wp2
  go_ret
  exact ⟨rfl, rfl⟩
theorem nc_01 (a : Option Addr) (w : World) : Calls Yba.prog 17 #[.slice none 0 0, .slice a 1 1] w fun e w' => e = .returned (.int .i64 (-1)) ∧ w' = w := by
  go_enter Yba.func17, Yba.ntmps17
  go_wp2
  go_ret
  exact ⟨rfl, rfl⟩
theorem nc_10 (a : Option Addr) (w : World) : Calls Yba.prog 17 #[.slice a 1 1, .slice none 0 0] w fun e w' => e = .returned (.int .i64 1) ∧ w' = w := by
  go_enter Yba.func17, Yba.ntmps17
  go_wp2
  go_ret
  exact ⟨rfl, rfl⟩
set_option maxHeartbeats 400000 in
theorem nc_11 (d d' : Nat) (a b : Int) (w : World) (h1 : w.cell? ⟨d, 0, none⟩ = some (.int .u64 a)) (h2 : w.cell? ⟨d', 0, none⟩ = some (.int .u64 b)) :
    Calls Yba.prog 17 #[.slice (some ⟨d, 0, none⟩) 1 1, .slice (some ⟨d', 0, none⟩) 1 1] w fun e w' => e = .returned (.int .i64 (cmpI a b)) ∧ Below w.heap.size w w' := by
  rcases Int.lt_trichotomy a b with h | h | h
  · have HC : Hid (cmpI a b = -1) := cmpI_lt h
    have e1 : decide (a < b) = true := decide_eq_true h
    go_enter Yba.func17, Yba.ntmps17
    go_wp2
    go_loopw [7] (fun i wr => i = .int .i64 0 ∧ wr = w) (fun _ _ => 0)
    case atStart => exact ⟨rfl, rfl⟩
    case round =>
      obtain ⟨rfl, rfl⟩ := hrel
      go_wp2
      go_quiet (fail)
      go_wp2
      go_quiet (fail)
      go_wp2
      go_ret
      exact ⟨by rw [HC.out]; rfl, below_drewN (below_drewN (Below.refl _ _) _) _⟩
  · subst h
    have HC : Hid (cmpI a a = 0) := cmpI_eq rfl
    have e1 : decide (a < a) = false := decide_eq_false (by omega)
    go_enter Yba.func17, Yba.ntmps17
    go_wp2
    go_loopw [7] (fun i wr => i = .int .i64 0 ∧ wr = w) (fun _ _ => 0)
    case atStart => exact ⟨rfl, rfl⟩
    case round =>
      obtain ⟨rfl, rfl⟩ := hrel
      go_wp2
      go_quiet (fail)
      go_wp2
      go_quiet (fail)
      go_wp2
      go_quiet (fail)
      go_wp2
      go_ret
      exact ⟨by rw [HC.out]; rfl, below_drewN (below_drewN (below_drewN (Below.refl _ _) _) _) _⟩
  · have HC : Hid (cmpI a b = 1) := cmpI_gt h
    have e1 : decide (a < b) = false := decide_eq_false (by omega)
    have e2 : decide (b < a) = true := decide_eq_true h
    go_enter Yba.func17, Yba.ntmps17
    go_wp2
    go_loopw [7] (fun i wr => i = .int .i64 0 ∧ wr = w) (fun _ _ => 0)
    case atStart => exact ⟨rfl, rfl⟩
    case round =>
      obtain ⟨rfl, rfl⟩ := hrel
      go_wp2
      go_quiet (fail)
      go_wp2
      go_quiet (fail)
      go_wp2
      go_quiet (fail)
      go_wp2
      go_ret
      exact ⟨by rw [HC.out]; rfl, below_drewN (below_drewN (below_drewN (Below.refl _ _) _) _) _⟩

theorem natcmp_any (sv tv : Value) (a b : Int) (w : World) (ha : NatIs w sv a) (hb : NatIs w tv b) :
    Calls Yba.prog 17 #[sv, tv] w fun e w' => e = .returned (.int .i64 (cmpI a b)) ∧ Below w.heap.size w w' := by
  rcases ha with ⟨rfl, rfl⟩ | ⟨h0, d, hd, rfl, hc⟩
  · rcases hb with ⟨rfl, rfl⟩ | ⟨g0, d', hd', rfl, hc'⟩
    · refine (nc_00 w).mono ?_
      rintro e w' ⟨rfl, rfl⟩
      exact ⟨rfl, Below.refl _ _⟩
    · refine (nc_01 _ w).mono ?_
      rintro e w' ⟨rfl, rfl⟩
      exact ⟨by rw [cmpI_lt g0], Below.refl _ _⟩
  · rcases hb with ⟨rfl, rfl⟩ | ⟨g0, d', hd', rfl, hc'⟩
    · refine (nc_10 _ w).mono ?_
      rintro e w' ⟨rfl, rfl⟩
      exact ⟨by rw [cmpI_gt h0], Below.refl _ _⟩
    · exact nc_11 d d' a b w hc hc'

end Go.Proofs.Ybulkbqxy
