/-
  DERIVED. FROM THE WALKS TO THE ROWS: what all laws of the seat share: a slice of bytes that came in, opened; the closed facts of the program.
-/
import Derived.Test.YbulkbqwiFmtAgree
import Derived.ProofKit
import Derived.ChangeSlices
import Derived.ChangeSame
import Derived.ChangeMaps5
import Derived.JoinedOf
import Derived.Carry
import Derived.Stop.JoinedAt
import Derived.Stop.Texts
import Derived.Stop.JoinedTold
import Derived.SizedLaws
import Derived.SevenToldRow
namespace Go.Proofs.YbulkbqwiFmt
open Go.ChangeShapes Go.WideShapes Go.ChangeAt Go.RowKit Go.Kit
open Go.Extern.Stop Go.Stop Go.Extern

theorem own : ownKnob Ybaf.prog.godebug = none := by kernel_rfl
theorem laidOut : laidOutB Ybaf.pinned.checked.prog = true := by kernel_rfl
theorem cells5 : Ybaf.prog.cellsOf 5 = 1 := by kernel_rfl
theorem stopsP : Ybaf.pinned.checked.prog.stops = ["fmt.errorf"] := by kernel_rfl
theorem stopKnobs : Ybaf.pinned.checked.prog.stopKnobs = [] := by kernel_rfl
theorem quietP (os : Os) : Stop.quiet Ybaf.pinned.checked.prog os := by
  intro k hk
  rw [stopKnobs] at hk
  cases hk

/-- a slice of bytes as the walks take it. -/
def IsBytes (W : World) (a : Option Addr) (len cap : Nat) : Prop :=
  (len = 0 ∧ (a = none → cap = 0)) ∨ ∃ (L : List UInt8) (n b o : Nat), a = some ⟨b, o, none⟩ ∧ len = n + 1 ∧ L.length = n + 1 ∧ n + 1 ≤ cap ∧ b < W.heap.size ∧ ∀ j, j < n + 1 → W.cell? ⟨b, o + j, none⟩ = some (.int .u8 (bt L j : Int))

theorem bytes_of {H : Type} {enc : TypeId × Value → H} {W : World} {a0 : Option Addr} {len cap fuel : Nat} {d0 : DataW H} {p : List MemPlace} {base : Nat} {sp : Nat → Bool}
    (hf : DataW.trod enc Ybaf.prog W base sp true fuel 22 (Value.slice a0 len cap).cells.toList = some (d0, p)) : IsBytes W a0 len cap := by
  rcases open_ints Ybaf.underlying22 Ybaf.underlying5 cells5 hf with ⟨hcs, hx⟩ | ⟨a, len', cap', zs, hcs, _, hl, hm, hz, hx, hcell, hwz⟩
  · simp [Value.cells] at hcs
    obtain ⟨rfl, rfl, rfl⟩ := hcs
    exact Or.inl ⟨rfl, fun _ => rfl⟩
  · simp [Value.cells] at hcs
    obtain ⟨rfl, rfl, rfl⟩ := hcs
    cases len with
    | zero => exact Or.inl ⟨rfl, fun h => by cases h⟩
    | succ n =>
      have hzl : n + 1 ≤ zs.length := by
        rw [hz]; split <;> omega
      obtain ⟨b, o, spot⟩ := a
      have hspot : spot = none := by simpa [Addr.add] using World.cell?_spot (hcell 0 (by omega))
      subst hspot
      have hcell' : ∀ j, j < n + 1 → W.cell? ⟨b, o + j, none⟩ = some (.int .u8 (zs.getD j 0)) := fun j hj => by
        rw [← add_plain]; exact hcell j (by omega)
      have hb : b < W.heap.size := by
        rcases Nat.lt_or_ge b W.heap.size with h | h
        · exact h
        · have := hcell' 0 (by omega)
          simp [World.cell?, Array.getElem?_eq_none h] at this
      refine Or.inr ⟨(zs.take (n + 1)).map fun z => UInt8.ofNat z.toNat, n, b, o, rfl, rfl, by rw [List.length_map, List.length_take]; omega, hl, hb, fun j hj => ?_⟩
      rw [hcell' j hj]
      have hjz : j < zs.length := by omega
      have hwf := hwz zs[j] (List.getElem_mem hjz)
      have hbd : 0 ≤ zs[j] ∧ zs[j] ≤ 255 := by
        have := hwf
        simp [Lit.wf, IntKind.min, IntKind.max, IntKind.signed, IntKind.bits] at this
        omega
      have e1 : zs.getD j 0 = zs[j] := by simp [List.getD, List.getElem?_eq_getElem hjz]
      have e2 : ((zs.take (n + 1)).map fun z => UInt8.ofNat z.toNat).getD j 0 = UInt8.ofNat zs[j].toNat := by
        simp [List.getD, List.getElem?_map, List.getElem?_take_of_lt hj, List.getElem?_eq_getElem hjz]
      unfold bt
      rw [e1, e2]
      have e3 : (UInt8.ofNat zs[j].toNat).toNat = zs[j].toNat := by
        rw [UInt8.toNat_ofNat']
        omega
      rw [e3]
      congr 2
      omega
end Go.Proofs.YbulkbqwiFmt
