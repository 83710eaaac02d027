/-
  DERIVED. 'Rows.LawS3378BFirstFlaggedSaid': the law 'waterline.LawS3378BFirstFlagged' (after the kit's shell of this proof).
-/
import Derived.Test.YbulkbqxyFlag4
import Derived.ProofKit
import Derived.ChangeSlices
import Derived.ChangeSame
import Derived.Carry
import Derived.Deep.Grids
namespace Go.Proofs.Ybulkbqxy.lawS3378BFirstFlagged
open Go.ChangeShapes Go.WideShapes Go.ChangeAt Go.RowKit

theorem own : ownKnob Yba.prog.godebug = none := by kernel_rfl
theorem laidOut : laidOutB Yba.prog = true := by kernel_rfl
theorem cells4 : Yba.prog.cellsOf 4 = 1 := by kernel_rfl

/-- more than 1024 flags: true at once. -/
theorem law_long (a : Option Addr) (n cap : Nat) (hn : 1024 < n) (w : World) : Calls Yba.prog 3 #[.slice a n cap] w fun e w' => e = .returned (.bool true) ∧ Below w.heap.size w w' := by
  go_enter Yba.func3, Yba.ntmps3
  go_wp2
  go_ret
  exact ⟨rfl, Below.refl _ _⟩

def IsFlags (W : World) (a : Option Addr) (n : Nat) : Prop :=
  ∃ fl : List Bool, n = 0 ∨ ∃ b o, a = some ⟨b, o, none⟩ ∧ b < W.heap.size ∧ ∀ j, j < n → W.cell? ⟨b, o + j, none⟩ = some (.bool (fl.getD j false))

theorem flags_of {H : Type} {enc : TypeId × Value → H} {W : World} {a0 : Option Addr} {len cap fuel : Nat} {d0 : DataW H} {p : List MemPlace} {base : Nat}
    (hf : DataW.trod enc Yba.prog W base (fun _ => true) true fuel 22 (Value.slice a0 len cap).cells.toList = some (d0, p)) : IsFlags W a0 len := by
  rcases Go.Deep.open_bools Yba.underlying22 Yba.underlying4 cells4 hf with ⟨hcs, hx⟩ | ⟨a, len', cap', B, hcs, _, hl, hm, hx, hcell⟩
  · simp [Value.cells] at hcs
    obtain ⟨rfl, rfl, rfl⟩ := hcs
    exact ⟨[], Or.inl rfl⟩
  · simp [Value.cells] at hcs
    obtain ⟨rfl, rfl, rfl⟩ := hcs
    cases len with
    | zero => exact ⟨[], Or.inl rfl⟩
    | succ n =>
      obtain ⟨b, o, spot⟩ := a
      have hspot : spot = none := by simpa [Addr.add] using World.cell?_spot (hcell 0 (by omega))
      subst hspot
      have hcell' : ∀ j, j < n + 1 → W.cell? ⟨b, o + j, none⟩ = some (.bool (B j)) := fun j hj => by
        have := hcell j (by omega)
        cases j with
        | zero => simpa [Addr.add] using this
        | succ j => simpa [Addr.add] using this
      have hb : b < W.heap.size := by
        rcases Nat.lt_or_ge b W.heap.size with h | h
        · exact h
        · have := hcell' 0 (by omega)
          simp [World.cell?, Array.getElem?_eq_none h] at this
      refine ⟨(List.range (n + 1)).map B, Or.inr ⟨b, o, rfl, hb, fun j hj => ?_⟩⟩
      rw [hcell' j hj, List.getD_eq_getElem?_getD, List.getElem?_map, List.getElem?_range hj]
      rfl

theorem law_all (a : Option Addr) (n cap : Nat) (W : World) (h : IsFlags W a n) : Calls Yba.prog 3 #[.slice a n cap] W fun e w' => e = .returned (.bool true) ∧ Below W.heap.size W w' := by
  obtain ⟨fl, hf⟩ := h
  rcases Nat.lt_or_ge 1024 n with h1 | h1
  · exact law_long a n cap h1 W
  · exact law_any a fl n h1 cap W hf

set_option maxRecDepth 100000 in
theorem lifted (os : Os) (started : os.Started) (H : Type) (enc : TypeId × Value → H) :
    ReturnsInHanded {} Yba.checked os 3 .any (Rows.lawS3378BFirstFlaggedSpec.pre6 enc Yba.prog Yba.f3 Rows.lawS3378BFirstFlaggedRow.domain false) (Rows.lawS3378BFirstFlaggedSpec.post enc Yba.prog Yba.f3 false true false false) := by
  refine returnsInHanded_of_change (C := Yba.checked) own started (by kernel_rfl) Yba.func3
    (ChangeSpec.witness6 (enc := enc) (C := Yba.checked) false ⟨#[], #[.slice none 0 0], []⟩ 8 (by kernel_rfl) (by kernel_rfl) (by kernel_rfl) (by kernel_rfl)) ?_
  intro W base args ds gs before hval0 hW hcnd _
  have hval : ∀ (j : Nat) t v, Yba.f3.params[j]? = some t → args[j]? = some v → Value.okWide Yba.prog W .any base t v := hval0
  have hW' := hW
  obtain ⟨p, q, hA0, hV, rfl, hfz, hnd⟩ := hW
  have hA : DataW.TrodAll enc Yba.prog W 0 (fun _ => true) true Yba.f3.params.toList args.toList ds p := hA0
  rw [Yba.params3] at hA hval
  obtain ⟨v0, d0, rfl, rfl, h0⟩ := trodAll_one hA
  obtain ⟨rfl, rfl⟩ := trodVars_none hV
  obtain ⟨a0, len, cap, rfl⟩ := okWide_slice Yba.underlying22 (hval 0 22 v0 rfl rfl)
  have h0k := h0
  obtain ⟨fuel, hf⟩ := h0
  clear hA0 hval0
  simp only [List.append_nil] at hW'
  have hlt : ∀ x ∈ p, x.block < W.heap.size := fun x hx => by simpa using hW'.lt x hx
  have hargs : ∀ (W' : World), Below W.heap.size W W' → DataW.Trod enc Yba.prog W' 0 (fun b => decide (b < W.heap.size)) true 22 (.slice a0 len cap) d0 p :=
    fun W' hn => Below.trod laidOut (by kernel_rfl) (of_decide_eq_true (by kernel_rfl)) h0k hn hlt
  refine (law_all a0 len cap W (flags_of hf)).mono fun e W' ⟨he, hnx⟩ => ?_
  subst he
  exact ⟨_, rfl, _, _, _, [], p, [], hW', trodAll_mk1 (shut_bool Yba.underlying4 true), trodAll_mk1 (hargs _ hnx), rfl, hnx.frame _, fun h => by cases h⟩

theorem over : Rows.lawS3378BFirstFlaggedRow.holds Yba.pinned (OpenSpec.ofChange Rows.lawS3378BFirstFlaggedSpec) :=
  OpenClaim.holds_of_wide 3 Yba.f3 rfl rfl rfl rfl rfl rfl rfl ⟨rfl, rfl, rfl, rfl, rfl⟩ rfl rfl rfl rfl rfl (by kernel_rfl) Yba.func3 (by kernel_rfl)
    (of_decide_eq_true (by kernel_rfl)) (by unfold Func.isWrapper; first | (rw [if_pos (by decide +kernel)]; kernel_rfl) | (rw [if_neg (by decide +kernel)]; exact ⟨rfl, rfl⟩))
    (fun os started H enc _ => lifted os started H enc)
end Go.Proofs.Ybulkbqxy.lawS3378BFirstFlagged
namespace Go.Proofs.Ybulkbqxy
theorem lawS3378BFirstFlagged_proved : Rows.LawS3378BFirstFlaggedSaid := lawS3378BFirstFlagged.over
end Go.Proofs.Ybulkbqxy
