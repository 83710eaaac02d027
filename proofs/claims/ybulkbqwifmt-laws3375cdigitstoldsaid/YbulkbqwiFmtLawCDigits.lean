/-
  DERIVED. 'Rows.LawS3375CDigitsToldSaid': THE TOLD CARD of 'wallstep.LawS3375CDigits'.
-/
import Derived.Test.YbulkbqwiFmtLift
import Derived.Test.YbulkbqwiFmtWalks7
import Derived.Test.YbulkbqwiFmtCards
namespace Go.Proofs.YbulkbqwiFmt
open Go.ChangeShapes Go.WideShapes Go.ChangeAt Go.RowKit Go.Kit
open Go.Extern.Stop Go.Stop Go.Extern

theorem cDigits_walk (F : Interp) (x : Int) (a : Option Addr) (len cap : Nat) (W : World) (hF : F.answers W.tape) (hb : IsBytes W a len cap) :
    Calls Ybaf.prog 7 #[.int .u64 x, .slice a len cap] W fun e w' => e = .returned (.bool true) ∧ Below W.heap.size W w' := by
  rcases Nat.lt_or_ge 1024 len with h | h
  · exact cdig_long x a len cap h W
  · rcases hb with ⟨rfl, _⟩ | ⟨L, n, b, o, rfl, rfl, _, _, hb, hc⟩
    · exact cdig_any F x a [] 0 h cap W hF (Or.inl rfl)
    · exact cdig_any F x _ L (n + 1) h cap W hF (Or.inr ⟨b, o, rfl, hb, hc⟩)

set_option maxRecDepth 100000 in
theorem cDigits_lifted (os : Os) (started : os.Started) (H : Type) (enc : TypeId × Value → H) :
    ReturnsInTold none {} Ybaf.checked os 7 .any Input.okWide ((OpenSpec.ofChange Rows.lawS3375CDigitsSpec).preRow enc Ybaf.prog Ybaf.f7 [] false []) (fun F => ((OpenSpec.ofChange Rows.lawS3375CDigitsSpec).at F).post enc Ybaf.prog Ybaf.f7 false true false false) (aloneAtReturn Ybaf.prog) nothingAlways := by
  refine returnsInTold_of_row (C := Ybaf.checked) (s := OpenSpec.ofChange Rows.lawS3375CDigitsSpec) (by kernel_rfl) own started (by kernel_rfl) Ybaf.func7
    (OpenSpec.witness_stopped (enc := enc) (C := Ybaf.checked) false ⟨#[], #[.int .u64 0, .slice none 0 0], []⟩ 8 (by kernel_rfl) (by kernel_rfl) (by kernel_rfl) (by kernel_rfl)) ?_
  intro F W base args ds gs before _ hF hval0 hW _ _ hsz _ _
  have hval : ∀ (j : Nat) t v, Ybaf.f7.params[j]? = some t → args[j]? = some v → Value.okWide Ybaf.prog W .any base t v := hval0
  have hW' := hW
  obtain ⟨p, q, hA0, hV, rfl, _, _⟩ := hW
  have hA : DataW.TrodAll enc Ybaf.prog W 0 (fun _ => true) true Ybaf.f7.params.toList args.toList ds p := hA0
  rw [Ybaf.params7] at hA hval
  obtain ⟨v0, v1, d0, d1, p0, p1, rfl, rfl, rfl, h0, h1⟩ := trodAll_two hA
  obtain ⟨rfl, rfl⟩ := trodVars_none hV
  obtain ⟨x, rfl, rfl, rfl, wx⟩ := open_int Ybaf.underlying25 (hval 0 25 v0 rfl rfl) h0
  obtain ⟨a0, len, cap, rfl⟩ := okWide_slice Ybaf.underlying22 (hval 1 22 v1 rfl rfl)
  have h1k := h1
  obtain ⟨fuel, hf⟩ := h1
  clear hA0 hval0
  simp only [List.append_nil, List.nil_append] at hW'
  have hlt : ∀ x ∈ p1, x.block < W.heap.size := fun x hx => by simpa using hW'.lt x (by simpa using hx)
  have hargs : ∀ (W' : World), Below W.heap.size W W' → DataW.Trod enc Ybaf.prog W' 0 (fun b => decide (b < W.heap.size)) true 22 (.slice a0 len cap) d1 p1 :=
    fun W' hn => Below.trod laidOut (by kernel_rfl) (of_decide_eq_true (by kernel_rfl)) h1k hn hlt
  refine (cDigits_walk F.told x a0 len cap W hF (bytes_of hf)).mono fun e W' ⟨he, hnx⟩ => ?_
  subst he
  exact ⟨_, rfl, _, _, _, [], [] ++ p1, [], hW', trodAll_mk1 (shut_bool Ybaf.underlying4 true), trodAll_mk2 (p := []) (shut_int Ybaf.underlying25 wx) (hargs _ hnx), rfl, hnx.frame _, fun h => by cases h⟩

theorem lawS3375CDigits_proved : Rows.LawS3375CDigitsToldSaid :=
  Claim7.holds_of_told_any 7 Ybaf.f7 "fmt.errorf" [] [] _ _ _ (by kernel_rfl) rfl rfl rfl laidOut (by kernel_rfl) rfl ⟨rfl, rfl, rfl, rfl, rfl, rfl, rfl⟩ rfl rfl (by kernel_rfl) (by kernel_rfl) Ybaf.func7 (by kernel_rfl)
    (of_decide_eq_true (by kernel_rfl)) (of_decide_eq_true (by kernel_rfl)) stopsP.symm rfl stopKnobs.symm (by kernel_rfl)
    (by kernel_rfl) (by kernel_rfl) (by kernel_rfl) (by kernel_rfl) (by kernel_rfl) (by kernel_rfl) (by kernel_rfl) (by kernel_rfl) (by kernel_rfl) rfl (by kernel_rfl) rfl rfl
    rfl rfl
    rfl (by kernel_rfl) (by kernel_rfl) (by kernel_rfl) (by decide) (by kernel_rfl)
    (OpenClaim.moreEntering_of (by kernel_rfl) (by kernel_rfl) (by kernel_rfl) (by kernel_rfl) (by kernel_rfl) (by kernel_rfl) (by kernel_rfl) (by kernel_rfl) (by kernel_rfl) (by kernel_rfl))
    ⟨_, WideRow.started_initial, quietP _⟩
    (fun os started _ H enc _ => cDigits_lifted os started H enc)
end Go.Proofs.YbulkbqwiFmt
