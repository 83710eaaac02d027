/-
  DERIVED. THE WALKS, seventh part: (*Time).UnmarshalText, zzs3375ccheck; the law LawS3375CModel's walk.
-/
import Derived.Test.YbulkbqwiFmtWalks5
namespace Go.Proofs.YbulkbqwiFmt
open Go.RowKit M
open Go.Extern.Stop Go.Stop Go.Extern

/-- what UnmarshalText does at the receiver ⟨k, 0⟩: it lays the value there, or an error comes back and nothing has turned. -/
def UT (l : List UInt8) (k : Nat) (w : World) (e : Ending) (w' : World) : Prop :=
  (okB l = true ∧ e = .returned .nilIface ∧ ∃ w2, Below w.heap.size w w2 ∧ w' = w2.setCell ⟨k, 0, none⟩ (.int .u64 (val l : Int))) ∨
  (okB l = false ∧ (∃ p, e = .returned (.iface 54 p)) ∧ Below w.heap.size w w')

set_option maxHeartbeats 400000 in
theorem unmarshal_of (F : Interp) (l : List UInt8) (sv : Value) (k : Nat) (x : Int) (w : World) (hF : F.answers w.tape) (hk : k < w.heap.size) (hck : w.cell? ⟨k, 0, none⟩ = some (.int .u64 x)) (hfk : w.frozen? ⟨k, 0, none⟩ = false)
    (HP : Calls Ybaf.prog 19 #[sv] w fun e w' => PT l w e w') :
    Calls Ybaf.prog 14 #[.pointer (some ⟨k, 0, none⟩), sv] w fun e w' => UT l k w e w' := by
  go_enter Ybaf.func14, Ybaf.ntmps14
  go_wp2_with fail
  refine HP.mono ?_
  rintro e w2 (⟨ho, rfl, hB⟩ | ⟨ho, k2, t, rfl, g1, g2, g3⟩)
  · have HO : Hid (okB l = true) := ho
    have hck2 : w2.cell? ⟨k, 0, none⟩ = some (.int .u64 x) := by rw [hB.cell (p := ⟨k, 0, none⟩) hk]; exact hck
    have hfk2 : w2.frozen? ⟨k, 0, none⟩ = false := by rw [hB.frozen (p := ⟨k, 0, none⟩) hk]; exact hfk
    clear ho
    go_wp2
    go_ret
    exact Or.inl ⟨HO.out, rfl, w2, hB, rfl⟩
  · have HO : Hid (okB l = false) := ho
    have hk2 : ∀ o, (w2.alloc o).cell? ⟨k2, 0, none⟩ = some (.string t) := fun o => by
      rw [((Below.refl _ w2).alloc (Nat.le_refl _) o).cell (p := ⟨k2, 0, none⟩) g2]; exact g1
    have hF2 : F.answers w2.tape := by rw [g3.tape]; exact hF
    clear ho
    go_wp2_with (go_at_call 18; refine (errorf_G F _ ⟨k2, 0, none⟩ t _ (by exact hF2) (by go_simp) (hk2 _)).mono ?_; rintro e w3 ⟨⟨p, rfl⟩, hB⟩)
    go_ret
    exact Or.inr ⟨HO.out, ⟨_, rfl⟩, alloc_below _ g3 hB⟩

/-- the new variable t, and the world behind it. -/
theorem setCell_cell (w : World) (k : Nat) (x v : Value) (h : w.cell? ⟨k, 0, none⟩ = some x) : (w.setCell ⟨k, 0, none⟩ v).cell? ⟨k, 0, none⟩ = some v := by
  simp [go_sem, h]

set_option maxHeartbeats 400000 in
theorem ccheck_of (F : Interp) (l : List UInt8) (sv : Value) (x : Int) (w : World) (hF : F.answers w.tape)
    (HP : ∀ w', Below w.heap.size w w' → Calls Ybaf.prog 19 #[sv] w' fun e w'' => PT l w' e w'')
    (HM : ∀ w', Below w.heap.size w w' → Calls Ybaf.prog 20 #[sv] w' fun e w'' => MD l e ∧ w'' = w') :
    Calls Ybaf.prog 12 #[.int .u64 x, sv] w fun e w' => e = .returned (.bool true) ∧ Below w.heap.size w w' := by
  have HA : ∀ o, Below w.heap.size w (w.alloc o) := fun o => (Below.refl _ w).alloc (Nat.le_refl _) o
  have hz : ∀ o, (w.alloc o).heap.size = w.heap.size + 1 := fun o => by simp
  have HU : Calls Ybaf.prog 14 #[.pointer (some ⟨w.heap.size, 0, none⟩), sv] (w.alloc (.cells #[.int .u64 x] 27)) fun e w' => UT l w.heap.size (w.alloc (.cells #[.int .u64 x] 27)) e w' :=
    unmarshal_of F l sv w.heap.size x _ (by exact hF) (by simp) (by simp [go_sem]) (by simp [go_sem]) (HP _ (HA _))
  have hcx : (w.alloc (.cells #[.int .u64 x] 27)).cell? ⟨w.heap.size, 0, none⟩ = some (.int .u64 x) := by simp [go_sem]
  go_enter Ybaf.func12, Ybaf.ntmps12
  go_wp2_with fail
  refine HU.mono ?_
  rintro e w2 (⟨ho, rfl, w3, hB, rfl⟩ | ⟨ho, ⟨p, rfl⟩, hB⟩)
  · have hB' : Below w.heap.size w w3 := (HA _).trans (hB.mono (by simp))
    have hcx3 : w3.cell? ⟨w.heap.size, 0, none⟩ = some (.int .u64 x) := by
      rw [hB.cell (p := ⟨w.heap.size, 0, none⟩) (by simp)]; exact hcx
    have hs := setCell_cell w3 w.heap.size _ (.int .u64 (val l : Int)) hcx3
    have hB2 : Below w.heap.size w (w3.setCell ⟨w.heap.size, 0, none⟩ (.int .u64 (val l : Int))) := hB'.setCell (Nat.le_refl _) _
    generalize w3.setCell ⟨w.heap.size, 0, none⟩ (.int .u64 (val l : Int)) = w4 at *
    clear hcx3 hB hcx HU
    go_wp2_with fail
    refine (HM _ hB2).mono ?_
    rintro e w5 ⟨(⟨_, rfl⟩ | ⟨h, _⟩), rfl⟩
    · clear ho
      go_wp2
      go_ret
      exact ⟨rfl, hB2⟩
    · rw [ho] at h; cases h
  · have hB' : Below w.heap.size w w2 := (HA _).trans (hB.mono (by simp))
    have hcx3 : w2.cell? ⟨w.heap.size, 0, none⟩ = some (.int .u64 x) := by
      rw [hB.cell (p := ⟨w.heap.size, 0, none⟩) (by simp)]; exact hcx
    clear hB hcx HU
    go_wp2_with fail
    refine (HM _ hB').mono ?_
    rintro e w5 ⟨(⟨h, _⟩ | ⟨_, rfl⟩), rfl⟩
    · rw [ho] at h; cases h
    · clear ho
      go_wp2
      go_ret
      exact ⟨rfl, hB'⟩

theorem ccheck_empty (F : Interp) (a : Option Addr) (cap : Nat) (ha : a = none → cap = 0) (x : Int) (w : World) (hF : F.answers w.tape) :
    Calls Ybaf.prog 12 #[.int .u64 x, .slice a 0 cap] w fun e w' => e = .returned (.bool true) ∧ Below w.heap.size w w' :=
  ccheck_of F [] _ x w hF (fun w' hB => parseTime_empty F a cap ha w' (by rw [hB.tape]; exact hF)) (fun w' _ => cmodel_empty a cap w')
theorem ccheck_any (F : Interp) (L : List UInt8) (n : Nat) (hl : L.length = n + 1) (hn : n + 1 ≤ 1024) (b o cap : Nat) (hcap : n + 1 ≤ cap) (x : Int) (w : World) (hb : b < w.heap.size) (hF : F.answers w.tape)
    (hc : ∀ j, j < n + 1 → w.cell? ⟨b, o + j, none⟩ = some (.int .u8 (bt L j : Int))) :
    Calls Ybaf.prog 12 #[.int .u64 x, .slice (some ⟨b, o, none⟩) (n + 1) cap] w fun e w' => e = .returned (.bool true) ∧ Below w.heap.size w w' :=
  ccheck_of F L _ x w hF
    (fun w' hB => parseTime_any F L (n + 1) (by omega) hn hl b o cap hcap w' (Nat.lt_of_lt_of_le hb hB.size) (by rw [hB.tape]; exact hF) (cells_below hB hb hc))
    (fun w' hB => cmodel_any L (n + 1) (by omega) hn hl b o cap w' (cells_below hB hb hc))

/-! the law LawS3375CModel's walk -/
set_option maxHeartbeats 400000 in
theorem cmod_long (x : Int) (a : Option Addr) (n cap : Nat) (h : 1024 < n) (w : World) :
    Calls Ybaf.prog 6 #[.int .u64 x, .slice a n cap] w fun e w' => e = .returned (.bool true) ∧ Below w.heap.size w w' := by
  go_enter Ybaf.func6, Ybaf.ntmps6
  go_wp2
  go_ret
  exact ⟨rfl, Below.refl _ _⟩
set_option maxHeartbeats 400000 in
theorem cmod_short (x : Int) (a : Option Addr) (n cap : Nat) (h : n ≤ 1024) (w : World) (HA : Calls Ybaf.prog 12 #[.int .u64 x, .slice a n cap] w fun e w' => e = .returned (.bool true) ∧ Below w.heap.size w w') :
    Calls Ybaf.prog 6 #[.int .u64 x, .slice a n cap] w fun e w' => e = .returned (.bool true) ∧ Below w.heap.size w w' := by
  go_enter Ybaf.func6, Ybaf.ntmps6
  go_wp2_with (go_at_call 12; refine HA.mono ?_; rintro e w2 ⟨rfl, hB⟩)
  go_ret
  exact ⟨rfl, hB⟩
end Go.Proofs.YbulkbqwiFmt
