/-
  DERIVED. 'Rows.LawS3375BDigitsToldSaid': THE TOLD CARD of 'wallstep.LawS3375BDigits'.
-/
import Derived.Test.YbulkbqwiFmtLift
import Derived.Test.YbulkbqwiFmtWalks8
import Derived.Test.YbulkbqwiFmtCards
namespace Go.Proofs.YbulkbqwiFmt
open Go.ChangeShapes Go.WideShapes Go.ChangeAt Go.RowKit Go.Kit
open Go.Extern.Stop Go.Stop Go.Extern

/-- the law's walk, at a slice that came in. -/
theorem u8_nat {x : Int} (h : (Lit.int .u8 x).wf = true) : ∃ m : Nat, x = (m : Int) ∧ m < 256 := by
  simp [Lit.wf, IntKind.min, IntKind.max, IntKind.signed, IntKind.bits] at h
  exact ⟨x.toNat, by omega, by omega⟩
theorem bDigits_walk (F : Interp) (x y : Int) (wx : (Lit.int .u8 x).wf = true) (wy : (Lit.int .u8 y).wf = true) (a : Option Addr) (len cap : Nat) (W : World) (hF : F.answers W.tape) (hb : IsBytes W a len cap) :
    Calls Ybaf.prog 4 #[.slice a len cap, .int .u8 x, .int .u8 y] W fun e w' => e = .returned (.bool true) ∧ Below W.heap.size W w' := by
  obtain ⟨m, rfl, hm⟩ := u8_nat wx
  obtain ⟨t, rfl, ht⟩ := u8_nat wy
  rcases Nat.lt_or_ge 1024 len with h | h
  · exact bdig_long _ _ a len cap h W
  · rcases hb with ⟨rfl, _⟩ | ⟨L, n, b, o, rfl, rfl, _, _, hb, hc⟩
    · exact bdig_any F m t hm ht a [] 0 h cap W hF (Or.inl rfl)
    · exact bdig_any F m t hm ht _ L (n + 1) h cap W hF (Or.inr ⟨b, o, rfl, hb, hc⟩)

set_option maxRecDepth 100000 in
theorem bDigits_lifted (os : Os) (started : os.Started) (H : Type) (enc : TypeId × Value → H) :
    ReturnsInTold none {} Ybaf.checked os 4 .any Input.okWide ((OpenSpec.ofChange Rows.lawS3375BDigitsSpec).preRow enc Ybaf.prog Ybaf.f4 [] false []) (fun F => ((OpenSpec.ofChange Rows.lawS3375BDigitsSpec).at F).post enc Ybaf.prog Ybaf.f4 false true false false) (aloneAtReturn Ybaf.prog) nothingAlways := by
  refine returnsInTold_of_row (C := Ybaf.checked) (s := OpenSpec.ofChange Rows.lawS3375BDigitsSpec) (by kernel_rfl) own started (by kernel_rfl) Ybaf.func4
    (OpenSpec.witness_stopped (enc := enc) (C := Ybaf.checked) false ⟨#[], #[.slice none 0 0, .int .u8 0, .int .u8 0], []⟩ 8 (by kernel_rfl) (by kernel_rfl) (by kernel_rfl) (by kernel_rfl)) ?_
  intro F W base args ds gs before _ hF hval0 hW _ _ hsz _ _
  have hval : ∀ (j : Nat) t v, Ybaf.f4.params[j]? = some t → args[j]? = some v → Value.okWide Ybaf.prog W .any base t v := hval0
  have hW' := hW
  obtain ⟨p, q, hA0, hV, rfl, _, _⟩ := hW
  have hA : DataW.TrodAll enc Ybaf.prog W 0 (fun _ => true) true Ybaf.f4.params.toList args.toList ds p := hA0
  rw [Ybaf.params4] at hA hval
  obtain ⟨v0, v1, v2, d0, d1, d2, p0, p1, p2, rfl, rfl, rfl, h0, h1, h2⟩ := trodAll_three hA
  obtain ⟨rfl, rfl⟩ := trodVars_none hV
  obtain ⟨a0, len, cap, rfl⟩ := okWide_slice Ybaf.underlying22 (hval 0 22 v0 rfl rfl)
  obtain ⟨x, rfl, rfl, rfl, wx⟩ := open_int Ybaf.underlying5 (hval 1 5 v1 rfl rfl) h1
  obtain ⟨y, rfl, rfl, rfl, wy⟩ := open_int Ybaf.underlying5 (hval 2 5 v2 rfl rfl) h2
  have h0k := h0
  obtain ⟨fuel, hf⟩ := h0
  clear hA0 hval0
  simp only [List.append_nil] at hW'
  have hlt : ∀ x ∈ p0, x.block < W.heap.size := fun x hx => by simpa using hW'.lt x (by simpa using hx)
  have hargs : ∀ (W' : World), Below W.heap.size W W' → DataW.Trod enc Ybaf.prog W' 0 (fun b => decide (b < W.heap.size)) true 22 (.slice a0 len cap) d0 p0 :=
    fun W' hn => Below.trod laidOut (by kernel_rfl) (of_decide_eq_true (by kernel_rfl)) h0k hn hlt
  refine (bDigits_walk F.told x y wx wy a0 len cap W hF (bytes_of hf)).mono fun e W' ⟨he, hnx⟩ => ?_
  subst he
  have tA := trodAll_mk3 (hargs _ hnx) (shut_int Ybaf.underlying5 (w := W') (base := 0) (spare := fun b => decide (b < W.heap.size)) wx) (shut_int Ybaf.underlying5 wy)
  simp only [List.append_nil] at tA
  exact ⟨_, rfl, _, _, _, [], p0, [], hW', trodAll_mk1 (shut_bool Ybaf.underlying4 true), tA, rfl, hnx.frame _, fun h => by cases h⟩

theorem lawS3375BDigits_proved : Rows.LawS3375BDigitsToldSaid :=
  Claim7.holds_of_told_any 4 Ybaf.f4 "fmt.errorf" [] [] _ _ _ (by kernel_rfl) rfl rfl rfl laidOut (by kernel_rfl) rfl ⟨rfl, rfl, rfl, rfl, rfl, rfl, rfl⟩ rfl rfl (by kernel_rfl) (by kernel_rfl) Ybaf.func4 (by kernel_rfl)
    (of_decide_eq_true (by kernel_rfl)) (of_decide_eq_true (by kernel_rfl)) stopsP.symm rfl stopKnobs.symm (by kernel_rfl)
    (by kernel_rfl) (by kernel_rfl) (by kernel_rfl) (by kernel_rfl) (by kernel_rfl) (by kernel_rfl) (by kernel_rfl) (by kernel_rfl) (by kernel_rfl) rfl (by kernel_rfl) rfl rfl
    rfl rfl
    rfl (by kernel_rfl) (by kernel_rfl) (by kernel_rfl) (by decide) (by kernel_rfl)
    (OpenClaim.moreEntering_of (by kernel_rfl) (by kernel_rfl) (by kernel_rfl) (by kernel_rfl) (by kernel_rfl) (by kernel_rfl) (by kernel_rfl) (by kernel_rfl) (by kernel_rfl) (by kernel_rfl))
    ⟨_, WideRow.started_initial, quietP _⟩
    (fun os started _ H enc _ => bDigits_lifted os started H enc)

end Go.Proofs.YbulkbqwiFmt
