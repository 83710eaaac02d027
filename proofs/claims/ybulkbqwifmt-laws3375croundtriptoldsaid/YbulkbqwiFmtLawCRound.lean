/-
  DERIVED. 'Rows.LawS3375CRoundTripToldSaid': THE TOLD AND TIED CARD of 'wallstep.LawS3375CRoundTrip'.
-/
import Derived.Test.YbulkbqwiFmtLaid
import Derived.Test.YbulkbqwiFmtTie
import Derived.Test.YbulkbqwiFmtCards
namespace Go.Proofs.YbulkbqwiFmt
open Go.ChangeShapes Go.WideShapes Go.ChangeAt Go.RowKit Go.Kit
open Go.Extern.Stop Go.Stop Go.Extern

theorem u64_nat {x : Int} (h : (Lit.int .u64 x).wf = true) : ∃ m : Nat, x = (m : Int) ∧ m < 18446744073709551616 := by
  simp [Lit.wf, IntKind.min, IntKind.max, IntKind.signed, IntKind.bits] at h
  exact ⟨x.toNat, by omega, by omega⟩

theorem cRound_walk (F : Interp) (x y : Int) (wy : (Lit.int .u64 y).wf = true) (W : World) (hF : F.answers W.tape) (hL : laidMetH Ybaf.prog Rows.lawS3375CRoundTripRow.laid W) :
    Calls Ybaf.prog 8 #[.int .u64 x, .int .u64 y] W fun e w' => e = .returned (.bool true) ∧ Below W.heap.size W w' := by
  obtain ⟨u, rfl, hu⟩ := u64_nat wy
  exact cround F x u hu W hF (tab_of hL)

set_option maxRecDepth 100000 in
theorem cRound_lifted (os : Os) (started : os.Started) (H : Type) (enc : TypeId × Value → H) :
    ReturnsInTold none {} Ybaf.checked os 8 .any Input.okWide ((OpenSpec.ofChange Rows.lawS3375CRoundTripSpec).preRow enc Ybaf.prog Ybaf.f8 [] false Rows.lawS3375CRoundTripRow.laid) (fun F => ((OpenSpec.ofChange Rows.lawS3375CRoundTripSpec).at F).post enc Ybaf.prog Ybaf.f8 false true false false) (aloneAtReturn Ybaf.prog) nothingAlways := by
  refine returnsInTold_of_row (C := Ybaf.checked) (s := OpenSpec.ofChange Rows.lawS3375CRoundTripSpec) (by kernel_rfl) own started (by kernel_rfl) Ybaf.func8
    (OpenSpec.witness_stopped_at (enc := enc) (C := Ybaf.checked) false (laidWorldOf Ybaf.prog os) #[.int .u64 0, .int .u64 0] rfl (by kernel_rfl) (by kernel_rfl) (by kernel_rfl)
      (OpenSpec.preRow_of_B rfl 8 (by kernel_rfl) (by kernel_rfl) (laid_met os _))) ?_
  intro F W base args ds gs before _ hF hval0 hW _ _ hsz hL _
  have hval : ∀ (j : Nat) t v, Ybaf.f8.params[j]? = some t → args[j]? = some v → Value.okWide Ybaf.prog W .any base t v := hval0
  have hW' := hW
  obtain ⟨p, q, hA0, hV, rfl, _, _⟩ := hW
  have hA : DataW.TrodAll enc Ybaf.prog W 0 (fun _ => true) true Ybaf.f8.params.toList args.toList ds p := hA0
  rw [Ybaf.params8] at hA hval
  obtain ⟨v0, v1, d0, d1, p0, p1, rfl, rfl, rfl, h0, h1⟩ := trodAll_two hA
  obtain ⟨rfl, rfl⟩ := trodVars_none hV
  obtain ⟨x, rfl, rfl, rfl, wx⟩ := open_int Ybaf.underlying25 (hval 0 25 v0 rfl rfl) h0
  obtain ⟨y, rfl, rfl, rfl, wy⟩ := open_int Ybaf.underlying25 (hval 1 25 v1 rfl rfl) h1
  clear hA0 hval0
  simp only [List.append_nil] at hW'
  refine (cRound_walk F.told x y wy W hF hL).mono fun e W' ⟨he, hnx⟩ => ?_
  subst he
  exact ⟨_, rfl, _, _, _, [], [] ++ [], [], hW', trodAll_mk1 (shut_bool Ybaf.underlying4 true), trodAll_mk2 (shut_int Ybaf.underlying25 wx) (shut_int Ybaf.underlying25 wy), rfl, hnx.frame _, fun h => by cases h⟩

theorem lawS3375CRoundTrip_proved : Rows.LawS3375CRoundTripToldSaid :=
  Claim7.holds_of_told_tied_any_at .later 8 Ybaf.f8 "fmt.errorf" [] [] _ _ _ _ _ (by kernel_rfl) rfl rfl rfl laidOut (by kernel_rfl) rfl ⟨rfl, rfl, rfl, rfl, rfl, rfl, rfl⟩ rfl rfl (by kernel_rfl) (by kernel_rfl) Ybaf.func8 (by kernel_rfl)
    (of_decide_eq_true (by kernel_rfl)) (of_decide_eq_true (by kernel_rfl)) stopsP.symm rfl stopKnobs.symm (by kernel_rfl)
    (by kernel_rfl) (by kernel_rfl) (by kernel_rfl) (by kernel_rfl) (by kernel_rfl) (by kernel_rfl) (by kernel_rfl) (by kernel_rfl) (by kernel_rfl) rfl (by kernel_rfl) rfl rfl
    rfl rfl
    rfl (by kernel_rfl) (by kernel_rfl) (by kernel_rfl) (by decide) (by kernel_rfl) lawS3375CRoundTrip_row_tie
    (OpenClaim.moreEntering_of (by kernel_rfl) (by kernel_rfl) (by kernel_rfl) (by kernel_rfl) (by kernel_rfl) (by kernel_rfl) (by kernel_rfl) (by kernel_rfl) (by kernel_rfl) (by kernel_rfl))
    ⟨_, WideRow.started_initial, quietP _⟩
    (fun os started _ H enc _ => cRound_lifted os started H enc)
end Go.Proofs.YbulkbqwiFmt
