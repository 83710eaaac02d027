/-
  DERIVED. LawS3378BFirstFlagged, third part: (Policy).flaggedTier: the first tier whose flag is set, or none.
-/
import Derived.Test.YbulkbqxyFlag1
namespace Go.Proofs.Ybulkbqxy
open Go.RowKit

/-- the first flagged one, or none. -/
def Found (ds : List (Nat × Option Nat)) (k : Nat) (m b : Nat) : Prop := ds[k]? = some (m, some b) ∧ ∀ j d, j < k → ds[j]? = some d → d.2 = none
def NoneF (ds : List (Nat × Option Nat)) (k : Nat) : Prop := ∀ j d, j < k → ds[j]? = some d → d.2 = none
def FTR (ds : List (Nat × Option Nat)) (e : Ending) : Prop :=
  (∃ k m b, Found ds k m b ∧ e = .returned (.tuple #[.agg #[.pointer none, .pointer (some ⟨m, 0, none⟩), .pointer (some ⟨b, 0, none⟩)], .bool true])) ∨
  (NoneF ds ds.length ∧ e = .returned (.tuple #[.agg #[.pointer none, .pointer none, .pointer none], .bool false]))
theorem NoneF.succ {ds : List (Nat × Option Nat)} {k : Nat} {m : Nat} (h : NoneF ds k) (hk : ds[k]? = some (m, none)) : NoneF ds (k + 1) := fun j d hj hd => by
  rcases Nat.lt_or_ge j k with h1 | h1
  · exact h j d h1 hd
  · have : j = k := by omega
    subst this
    rw [hk] at hd
    injection hd with hd
    subst hd
    rfl
theorem al (w : World) (o : Obj) : Below w.heap.size w (w.alloc o) := (Below.refl _ w).alloc (Nat.le_refl _) o
theorem hid {p : Prop} (h : p) : Hid p := h
def polC (T : Value) : Array Value := #[.pointer none, .pointer none, T, .pointer none, .int .i64 0, .pointer none, .pointer none, .pointer none, .pointer none, .map none, .pointer none]

set_option maxRecDepth 20000 in
set_option maxHeartbeats 1600000 in
theorem flaggedTier_any (ta : Option Addr) (tc : Nat) (ds : List (Nat × Option Nat)) (hn : ds.length ≤ 1024) (w : World)
    (hT : ds.length = 0 ∨ ∃ g, ta = some ⟨g, 0, none⟩ ∧ g < w.heap.size ∧ ∀ j, j < ds.length * 3 → w.cell? ⟨g, j, none⟩ = (tcells ds)[j]?) :
    Calls Yba.prog 6 #[.agg #[.pointer none, .pointer none, .slice ta ds.length tc, .pointer none, .int .i64 0, .pointer none, .pointer none, .pointer none, .pointer none, .map none, .pointer none]] w fun e w' => FTR ds e ∧ Below w.heap.size w w' := by
  obtain ⟨i0, hi0, hz0, hz1, hz2⟩ := info_parts i32
  go_enter Yba.func6, Yba.ntmps6
  go_wp2
  have hWsz : ((w.alloc (.cells #[.pointer none, .pointer none, .slice ta ds.length tc, .pointer none, .int .i64 0, .pointer none, .pointer none, .pointer none, .pointer none, .map none, .pointer none] 43)).alloc (.cells #[.pointer none, .pointer none, .pointer none] 32)).heap.size = w.heap.size + 2 := by simp
  have hBW : Below w.heap.size w ((w.alloc (.cells #[.pointer none, .pointer none, .slice ta ds.length tc, .pointer none, .int .i64 0, .pointer none, .pointer none, .pointer none, .pointer none, .map none, .pointer none] 43)).alloc (.cells #[.pointer none, .pointer none, .pointer none] 32)) := ((Below.refl _ w).alloc (Nat.le_refl _) _).alloc (by simp) _
  go_loopw [9] (fun i wr => ∃ k, k ≤ ds.length ∧ i = .int .i64 (k : Nat) ∧ NoneF ds k ∧ Below (w.heap.size + 2) ((w.alloc (.cells #[.pointer none, .pointer none, .slice ta ds.length tc, .pointer none, .int .i64 0, .pointer none, .pointer none, .pointer none, .pointer none, .map none, .pointer none] 43)).alloc (.cells #[.pointer none, .pointer none, .pointer none] 32)) wr) (fun i _ => ds.length - (intOf i).toNat)
  case atStart => exact ⟨0, Nat.zero_le _, rfl, (fun j d hj => by omega), Below.refl _ _⟩
  case round =>
    obtain ⟨k, hk, rfl, hN, hB⟩ := hrel
    have hsz := hB.size
    rw [hWsz] at hsz
    have q0 : wr.cell? ⟨w.heap.size + 1, 0, none⟩ = some (.pointer none) := by rw [hB.cell (p := ⟨w.heap.size + 1, 0, none⟩) (by simp)]; simp [go_sem]
    have q1 : wr.cell? ⟨w.heap.size + 1, 1, none⟩ = some (.pointer none) := by rw [hB.cell (p := ⟨w.heap.size + 1, 1, none⟩) (by simp)]; simp [go_sem]
    have q2 : wr.cell? ⟨w.heap.size + 1, 2, none⟩ = some (.pointer none) := by rw [hB.cell (p := ⟨w.heap.size + 1, 2, none⟩) (by simp)]; simp [go_sem]
    have z0 : wr.frozen? ⟨w.heap.size + 1, 0, none⟩ = false := by rw [hB.frozen (p := ⟨w.heap.size + 1, 0, none⟩) (by simp)]; simp [go_sem]
    have z1 : wr.frozen? ⟨w.heap.size + 1, 1, none⟩ = false := by rw [hB.frozen (p := ⟨w.heap.size + 1, 1, none⟩) (by simp)]; simp [go_sem]
    have z2 : wr.frozen? ⟨w.heap.size + 1, 2, none⟩ = false := by rw [hB.frozen (p := ⟨w.heap.size + 1, 2, none⟩) (by simp)]; simp [go_sem]
    have hBw : Below w.heap.size w wr := hBW.trans (hB.mono (by omega))
    by_cases hlt : k < ds.length
    · rcases hT with h0 | ⟨g, rfl, hg, hc⟩
      · omega
      · obtain ⟨d, hd⟩ : ∃ d, ds[k]? = some d := ⟨ds[k], by simp⟩
        obtain ⟨t0, t1, t2⟩ := tcells_at ds k d hd
        have c0 : wr.cell? ⟨g, k * 3, none⟩ = some (.pointer none) := by rw [hBw.cell (p := ⟨g, k * 3, none⟩) hg, hc _ (by omega)]; exact t0
        have c1 : wr.cell? ⟨g, k * 3 + 1, none⟩ = some (.pointer (some ⟨d.1, 0, none⟩)) := by rw [hBw.cell (p := ⟨g, k * 3 + 1, none⟩) hg, hc _ (by omega)]; exact t1
        have c2 : wr.cell? ⟨g, k * 3 + 2, none⟩ = some (fpt d.2) := by rw [hBw.cell (p := ⟨g, k * 3 + 2, none⟩) hg, hc _ (by omega)]; exact t2
        obtain ⟨m, f⟩ := d
        cases f with
        | none =>
          have HN := hid (hN.succ hd)
          have HB := hid hB
          have hfp : fpt none = .pointer none := rfl
          rw [hfp] at c2
          clear hN hB hBw hBW hc t0 t1 t2 hd hWsz
          go_wp2
          go_roundw
          case rel => exact ⟨k + 1, hlt, by go_num, HN.out, HB.out.alloc (by omega) _⟩
          case measure => simp [intOf]; omega
        | some b =>
          have HF : Hid (Found ds k m b) := ⟨hd, hN⟩
          have HB := hid hB
          have HBw := hid hBw
          have hfp : fpt (some b) = .pointer (some ⟨b, 0, none⟩) := rfl
          rw [hfp] at c2
          have hlw : w.heap.size + 1 < wr.heap.size := by omega
          have qq0 : (wr.alloc (.cells #[.pointer none, .pointer (some ⟨m, 0, none⟩), .pointer (some ⟨b, 0, none⟩)] 32)).cell? ⟨w.heap.size + 1, 0, none⟩ = some (.pointer none) := by rw [(al wr _).cell (p := ⟨w.heap.size + 1, 0, none⟩) hlw]; exact q0
          have zz0 : (wr.alloc (.cells #[.pointer none, .pointer (some ⟨m, 0, none⟩), .pointer (some ⟨b, 0, none⟩)] 32)).frozen? ⟨w.heap.size + 1, 0, none⟩ = false := by rw [(al wr _).frozen (p := ⟨w.heap.size + 1, 0, none⟩) hlw]; exact z0
          have qq1 : (wr.alloc (.cells #[.pointer none, .pointer (some ⟨m, 0, none⟩), .pointer (some ⟨b, 0, none⟩)] 32)).cell? ⟨w.heap.size + 1, 1, none⟩ = some (.pointer none) := by rw [(al wr _).cell (p := ⟨w.heap.size + 1, 1, none⟩) hlw]; exact q1
          have zz1 : (wr.alloc (.cells #[.pointer none, .pointer (some ⟨m, 0, none⟩), .pointer (some ⟨b, 0, none⟩)] 32)).frozen? ⟨w.heap.size + 1, 1, none⟩ = false := by rw [(al wr _).frozen (p := ⟨w.heap.size + 1, 1, none⟩) hlw]; exact z1
          have qq2 : (wr.alloc (.cells #[.pointer none, .pointer (some ⟨m, 0, none⟩), .pointer (some ⟨b, 0, none⟩)] 32)).cell? ⟨w.heap.size + 1, 2, none⟩ = some (.pointer none) := by rw [(al wr _).cell (p := ⟨w.heap.size + 1, 2, none⟩) hlw]; exact q2
          have zz2 : (wr.alloc (.cells #[.pointer none, .pointer (some ⟨m, 0, none⟩), .pointer (some ⟨b, 0, none⟩)] 32)).frozen? ⟨w.heap.size + 1, 2, none⟩ = false := by rw [(al wr _).frozen (p := ⟨w.heap.size + 1, 2, none⟩) hlw]; exact z2
          clear hN hB hBw hBW hc t0 t1 t2 hd hWsz
          go_wp2
          refine bodyPost_ret (v := .tuple #[.agg #[.pointer none, .pointer (some ⟨m, 0, none⟩), .pointer (some ⟨b, 0, none⟩)], .bool true]) ?_ rfl ⟨Or.inl ⟨k, m, b, HF.out, rfl⟩, ?_⟩
          · have hl3 : w.heap.size + 1 < (((wr.setCell ⟨w.heap.size + 1, 0, none⟩ (.pointer none)).setCell ⟨w.heap.size + 1, 1, none⟩ (.pointer (some ⟨m, 0, none⟩))).setCell ⟨w.heap.size + 1, 2, none⟩ (.pointer (some ⟨b, 0, none⟩))).heap.size := by simpa using hlw
            have r0 : ((((wr.setCell ⟨w.heap.size + 1, 0, none⟩ (.pointer none)).setCell ⟨w.heap.size + 1, 1, none⟩ (.pointer (some ⟨m, 0, none⟩))).setCell ⟨w.heap.size + 1, 2, none⟩ (.pointer (some ⟨b, 0, none⟩))).alloc (.cells #[.pointer none, .pointer (some ⟨m, 0, none⟩), .pointer (some ⟨b, 0, none⟩)] 32)).cell? ⟨w.heap.size + 1, 0, none⟩ = some (.pointer none) := by rw [(al (((wr.setCell ⟨w.heap.size + 1, 0, none⟩ (.pointer none)).setCell ⟨w.heap.size + 1, 1, none⟩ (.pointer (some ⟨m, 0, none⟩))).setCell ⟨w.heap.size + 1, 2, none⟩ (.pointer (some ⟨b, 0, none⟩))) _).cell (p := ⟨w.heap.size + 1, 0, none⟩) hl3]; simp [go_sem, q0]
            have r1 : ((((wr.setCell ⟨w.heap.size + 1, 0, none⟩ (.pointer none)).setCell ⟨w.heap.size + 1, 1, none⟩ (.pointer (some ⟨m, 0, none⟩))).setCell ⟨w.heap.size + 1, 2, none⟩ (.pointer (some ⟨b, 0, none⟩))).alloc (.cells #[.pointer none, .pointer (some ⟨m, 0, none⟩), .pointer (some ⟨b, 0, none⟩)] 32)).cell? ⟨w.heap.size + 1, 1, none⟩ = some (.pointer (some ⟨m, 0, none⟩)) := by rw [(al (((wr.setCell ⟨w.heap.size + 1, 0, none⟩ (.pointer none)).setCell ⟨w.heap.size + 1, 1, none⟩ (.pointer (some ⟨m, 0, none⟩))).setCell ⟨w.heap.size + 1, 2, none⟩ (.pointer (some ⟨b, 0, none⟩))) _).cell (p := ⟨w.heap.size + 1, 1, none⟩) hl3]; simp [go_sem, q1]
            have r2 : ((((wr.setCell ⟨w.heap.size + 1, 0, none⟩ (.pointer none)).setCell ⟨w.heap.size + 1, 1, none⟩ (.pointer (some ⟨m, 0, none⟩))).setCell ⟨w.heap.size + 1, 2, none⟩ (.pointer (some ⟨b, 0, none⟩))).alloc (.cells #[.pointer none, .pointer (some ⟨m, 0, none⟩), .pointer (some ⟨b, 0, none⟩)] 32)).cell? ⟨w.heap.size + 1, 2, none⟩ = some (.pointer (some ⟨b, 0, none⟩)) := by rw [(al (((wr.setCell ⟨w.heap.size + 1, 0, none⟩ (.pointer none)).setCell ⟨w.heap.size + 1, 1, none⟩ (.pointer (some ⟨m, 0, none⟩))).setCell ⟨w.heap.size + 1, 2, none⟩ (.pointer (some ⟨b, 0, none⟩))) _).cell (p := ⟨w.heap.size + 1, 2, none⟩) hl3]; simp [go_sem, q2]
            simp [results, Yba.results6, go_sem, r0, r1, r2]
          · exact (((HBw.out.setCell (by simp) _).setCell (by simp) _).setCell (by simp) _).alloc (by simp; omega) _
    · have hke : k = ds.length := by omega
      subst hke
      clear hT
      have HN := hid hN
      have HBw := hid hBw
      clear hN hB hBw hBW hWsz
      go_wp2
      refine bodyPost_ret (v := .tuple #[.agg #[.pointer none, .pointer none, .pointer none], .bool false]) ?_ rfl ⟨Or.inr ⟨HN.out, rfl⟩, ?_⟩
      · simp [results, Yba.results6, go_sem, q0, q1, q2]
      · exact ((HBw.out.setCell (by simp) _).setCell (by simp) _).setCell (by simp) _
end Go.Proofs.Ybulkbqxy
