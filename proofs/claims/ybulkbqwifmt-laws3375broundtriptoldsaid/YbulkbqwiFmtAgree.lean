/-
  DERIVED. THE WALKS, sixth part: zzs3375bagree answers true at every slice of at most 1024 bytes; the law LawS3375BModel's walk.
-/
import Derived.Test.YbulkbqwiFmtWalks5
namespace Go.Proofs.YbulkbqwiFmt
open Go.RowKit M
open Go.Extern.Stop Go.Stop Go.Extern

set_option maxHeartbeats 400000 in
theorem agree_of (sv : Value) (ok : Bool) (v : Int) (w : World)
    (HP : Calls Ybaf.prog 11 #[sv] w fun e w' => (ok = true ∧ e = .returned (.tuple #[.int .u64 v, .nilIface]) ∧ Below w.heap.size w w') ∨ (ok = false ∧ Fails w e w'))
    (HM : ∀ w', Below w.heap.size w w' → Calls Ybaf.prog 15 #[sv] w' fun e w'' => ((ok = true ∧ e = .returned (.tuple #[.int .u64 v, .bool true])) ∨ (ok = false ∧ e = .returned (.tuple #[.int .u64 0, .bool false]))) ∧ w'' = w') :
    Calls Ybaf.prog 9 #[sv] w fun e w' => e = .returned (.bool true) ∧ Below w.heap.size w w' := by
  cases ok with
  | true =>
    go_enter Ybaf.func9, Ybaf.ntmps9
    go_wp2_with fail
    refine HP.mono ?_
    rintro e w2 (⟨_, rfl, hB⟩ | ⟨h, _⟩)
    · go_wp2_with fail
      refine (HM _ hB).mono ?_
      rintro e w3 ⟨(⟨_, rfl⟩ | ⟨h, _⟩), rfl⟩
      · go_wp2
        go_ret
        exact ⟨rfl, hB⟩
      · cases h
    · cases h
  | false =>
    go_enter Ybaf.func9, Ybaf.ntmps9
    go_wp2_with fail
    refine HP.mono ?_
    rintro e w2 (⟨h, _⟩ | ⟨_, ⟨t, x, rfl⟩, hB⟩)
    · cases h
    · go_wp2_with fail
      refine (HM _ hB).mono ?_
      rintro e w3 ⟨(⟨h, _⟩ | ⟨_, rfl⟩), rfl⟩
      · cases h
      · go_wp2
        go_ret
        exact ⟨rfl, hB⟩

theorem agree_empty (a : Option Addr) (cap : Nat) (w : World) : Calls Ybaf.prog 9 #[.slice a 0 cap] w fun e w' => e = .returned (.bool true) ∧ Below w.heap.size w w' :=
  agree_of _ false 0 w ((pc_empty a cap w).mono fun _ _ h => Or.inr ⟨rfl, h⟩) (fun w' _ => (bmodel_empty a cap w').mono fun _ _ h => ⟨Or.inr ⟨rfl, h.1⟩, h.2⟩)

theorem bt_take' (l : List UInt8) (k j : Nat) (h : j < k) : bt (l.take k) j = bt l j := bt_take l k j h

theorem agree_any (F : Interp) (L : List UInt8) (n : Nat) (hl : L.length = n + 1) (b o cap : Nat) (hcap : n + 1 ≤ cap) (w : World) (hb : b < w.heap.size) (hF : F.answers w.tape)
    (hc : ∀ j, j < n + 1 → w.cell? ⟨b, o + j, none⟩ = some (.int .u8 (bt L j : Int))) :
    Calls Ybaf.prog 9 #[.slice (some ⟨b, o, none⟩) (n + 1) cap] w fun e w' => e = .returned (.bool true) ∧ Below w.heap.size w w' := by
  rcases Nat.lt_or_ge n 21 with hn | hn
  · by_cases h10 : bt L n = 10
    · have hcn : w.cell? ⟨b, o + n, none⟩ = some (.int .u8 10) := by have := hc n (by omega); rw [h10] at this; exact this
      have hc' : ∀ j, j < n → w.cell? ⟨b, o + j, none⟩ = some (.int .u8 (bt (L.take n) j : Int)) := fun j hj => by
        rw [bt_take L n j hj]; exact hc j (by omega)
      have hlt : (L.take n).length = n := by rw [List.length_take]; omega
      cases n with
      | zero =>
        refine agree_of _ (okB []) (val []) w (pc_body F [] 0 (by omega) b o cap hcap w hF hcn (parseTime_empty F (some ⟨b, o, none⟩) cap (fun h => by cases h) w hF)) ?_
        intro w' hB
        refine (bmodel_nl_only b o cap (by omega) w' (by rw [hB.cell (p := ⟨b, o, none⟩) hb]; exact hcn)).mono ?_
        rintro e w'' ⟨he, hw⟩
        exact ⟨Or.inr ⟨rfl, he⟩, hw⟩
      | succ m =>
        refine agree_of _ (okB (L.take (m + 1))) (val (L.take (m + 1))) w (pc_body F _ (m + 1) (by omega) b o cap hcap w hF hcn (parseTime_any F _ (m + 1) (by omega) (by omega) hlt b o cap (by omega) w hb hF hc')) ?_
        intro w' hB
        exact bmodel_any _ (m + 1) (by omega) (by omega) hlt b o cap hcap w' (by rw [hB.cell (p := ⟨b, o + (m + 1), none⟩) hb]; exact hcn) (cells_below hB hb hc')
    · have hcn := hc n (by omega)
      have h10' : ((bt L n : Int) != 10) = true := by simp; omega
      exact agree_of _ false 0 w ((pc_nonl b o n cap (by omega) _ h10' w hcn).mono fun _ _ h => Or.inr ⟨rfl, h⟩)
        (fun w' hB => (bmodel_nonl b o n cap (by omega) _ h10' w' (by rw [hB.cell (p := ⟨b, o + n, none⟩) hb]; exact hcn)).mono fun _ _ h => ⟨Or.inr ⟨rfl, h.1⟩, h.2⟩)
  · exact agree_of _ false 0 w ((pc_long F _ n cap hn w hF).mono fun _ _ h => Or.inr ⟨rfl, h⟩) (fun w' _ => (bmodel_long _ n cap hn w').mono fun _ _ h => ⟨Or.inr ⟨rfl, h.1⟩, h.2⟩)

/-! the law's walk -/
set_option maxHeartbeats 400000 in
theorem bmod_long (a : Option Addr) (n cap : Nat) (h : 1024 < n) (w : World) :
    Calls Ybaf.prog 3 #[.slice a n cap] w fun e w' => e = .returned (.bool true) ∧ Below w.heap.size w w' := by
  go_enter Ybaf.func3, Ybaf.ntmps3
  go_wp2
  go_ret
  exact ⟨rfl, Below.refl _ _⟩
set_option maxHeartbeats 400000 in
theorem bmod_short (a : Option Addr) (n cap : Nat) (h : n ≤ 1024) (w : World) (HA : Calls Ybaf.prog 9 #[.slice a n cap] w fun e w' => e = .returned (.bool true) ∧ Below w.heap.size w w') :
    Calls Ybaf.prog 3 #[.slice a n cap] w fun e w' => e = .returned (.bool true) ∧ Below w.heap.size w w' := by
  go_enter Ybaf.func3, Ybaf.ntmps3
  go_wp2_with (go_at_call 9; refine HA.mono ?_; rintro e w2 ⟨rfl, hB⟩)
  go_ret
  exact ⟨rfl, hB⟩
end Go.Proofs.YbulkbqwiFmt
