/-
  DERIVED. THE WALKS, eighth part: slices of bytes that the call itself makes; the law LawS3375CDigits' walk.
-/
import Derived.Test.YbulkbqwiFmtWalks6
import Derived.Lib.UnsafeStr
namespace Go.Proofs.YbulkbqwiFmt
open Go.RowKit M
open Go.Extern.Stop Go.Stop Go.Extern

theorem info5 : (Ybaf.prog.info? 5).map (fun i => (i.zero, i.size, i.bytes)) = some (some (.int .u8 0), 1, 1) := by kernel_rfl

/-- what is known of a slice of bytes of the call's own. -/
theorem own_facts {w : World} {B g n cap : Nat} {D : List UInt8} (h : w.ownsRow B 5 1 (.slice (some ⟨g, 0, none⟩) n cap) n (Lib.byteCells D)) :
    D.length = n ∧ n ≤ cap ∧ B ≤ g ∧ g < w.heap.size ∧ (∀ j, j < n → w.cell? ⟨g, j, none⟩ = some (.int .u8 (bt D j : Int))) ∧ (∀ j, w.frozen? ⟨g, j, none⟩ = false) := by
  obtain ⟨h1, h2⟩ := h
  have hlen : D.length = n := by rw [Lib.byteCells_length] at h1; omega
  rcases h2 with ⟨h', _⟩ | ⟨g', cap', cur, h', hb, hg, hnc, hcm, hcs, htake⟩
  · simp at h'
  · simp only [Value.slice.injEq, Option.some.injEq, Addr.mk.injEq, and_true, true_and] at h'
    obtain ⟨rfl, rfl⟩ := h'
    have hlt : g < w.heap.size := (Array.getElem?_eq_some_iff.1 hg).1
    refine ⟨hlen, hnc, hb, hlt, fun j hj => ?_, fun j => ?_⟩
    · have e1 : cur[j]? = some (.int .u8 (bt D j : Int)) := by
        have := congrArg (fun l => l[j]?) htake
        simp only [Nat.mul_one] at this
        rw [List.getElem?_take_of_lt hj] at this
        rw [← Array.getElem?_toList, this]
        unfold Lib.byteCells bt
        have hj' : j < D.length := by omega
        rw [List.getElem?_map, List.getElem?_eq_getElem hj']
        simp [List.getD, List.getElem?_eq_getElem hj']
      simp [World.cell?, hg, e1]
    · simp [World.frozen?, hg]

theorem made_bytes (n : Nat) : (madeCells (Value.int .u8 0).cells (n * 1)).toList = Lib.byteCells (List.replicate n 0) := by
  unfold madeCells Lib.byteCells
  apply List.ext_getElem
  · simp
  · intro j h1 h2
    simp [Value.cells, Nat.mod_one]

theorem set_bytes (D : List UInt8) (j c : Nat) (hc : c < 256) : (Lib.byteCells D).set j (.int .u8 (c : Int)) = Lib.byteCells (D.set j (UInt8.ofNat c)) := by
  unfold Lib.byteCells
  rw [List.map_set]
  congr 3
  rw [UInt8.toNat_ofNat']
  omega

/-- one store into a slice of bytes of the call's own. -/
theorem own_store {w w0 : World} {B g n cap j : Nat} {D : List UInt8} (h : w.ownsRow B 5 1 (.slice (some ⟨g, 0, none⟩) n cap) n (Lib.byteCells D)) (hB : Below w0.heap.size w0 w) (hBg : w0.heap.size ≤ B) (c : Nat) (hc : c < 256) :
    (∃ D', (w.setCell ⟨g, j, none⟩ (.int .u8 (c : Int))).ownsRow B 5 1 (.slice (some ⟨g, 0, none⟩) n cap) n (Lib.byteCells D')) ∧ Below w0.heap.size w0 (w.setCell ⟨g, j, none⟩ (.int .u8 (c : Int))) := by
  have hs := h.stored j (.int .u8 (c : Int))
  rw [set_bytes D j c hc] at hs
  exact ⟨⟨_, hs.1⟩, hB.setCell (by have := (own_facts h).2.2.1; exact Nat.le_trans hBg this) _⟩

theorem ccheck_own (F : Interp) (x : Int) (w wr : World) (hF : F.answers w.tape) (g n : Nat) (hn : n ≤ 1024) (D : List UInt8) (hown : wr.ownsRow w.heap.size 5 1 (.slice (some ⟨g, 0, none⟩) n n) n (Lib.byteCells D)) (hB : Below w.heap.size w wr) :
    Calls Ybaf.prog 12 #[.int .u64 x, .slice (some ⟨g, 0, none⟩) n n] wr fun e w' => e = .returned (.bool true) ∧ Below w.heap.size w w' := by
  obtain ⟨h1, h2, h3, h4, h5, h6⟩ := own_facts hown
  have hFr : F.answers wr.tape := by rw [hB.tape]; exact hF
  cases n with
  | zero => exact (ccheck_empty F _ 0 (fun h => by cases h) x wr hFr).mono fun e w' h => ⟨h.1, hB.trans (h.2.mono hB.size)⟩
  | succ m => exact (ccheck_any F D m h1 hn g 0 (m + 1) (Nat.le_refl _) x wr h4 hFr (fun j hj => by rw [Nat.zero_add]; exact h5 j hj)).mono fun e w' h => ⟨h.1, hB.trans (h.2.mono hB.size)⟩

set_option maxHeartbeats 400000 in
theorem cdig_long (x : Int) (a : Option Addr) (n cap : Nat) (h : 1024 < n) (w : World) :
    Calls Ybaf.prog 7 #[.int .u64 x, .slice a n cap] w fun e w' => e = .returned (.bool true) ∧ Below w.heap.size w w' := by
  go_enter Ybaf.func7, Ybaf.ntmps7
  go_wp2
  go_ret
  exact ⟨rfl, Below.refl _ _⟩

set_option maxHeartbeats 800000 in
theorem cdig_any (F : Interp) (x : Int) (a : Option Addr) (l : List UInt8) (n : Nat) (hn : n ≤ 1024) (cap : Nat) (w : World) (hF : F.answers w.tape)
    (ha : n = 0 ∨ ∃ b o, a = some ⟨b, o, none⟩ ∧ b < w.heap.size ∧ ∀ j, j < n → w.cell? ⟨b, o + j, none⟩ = some (.int .u8 (bt l j : Int))) :
    Calls Ybaf.prog 7 #[.int .u64 x, .slice a n cap] w fun e w' => e = .returned (.bool true) ∧ Below w.heap.size w w' := by
  obtain ⟨i0, hi, hz0, hz1, hz2⟩ := info_parts info5
  have HC := fun wr D => ccheck_own F x w wr hF w.heap.size n hn D
  go_enter Ybaf.func7, Ybaf.ntmps7
  go_wp2_with (at_make; refine wpList_make_full _ rfl (.tmp 11) (.tmp 11) 22 rfl w.heap.size 5 i0 (.int .u8 0) 1 Ybaf.underlying22 hi hz0 hz1 .i64 .i64 _ _ n rfl rfl rfl rfl (by rw [hz2]; omega) (by unfold maxLen; omega) (Nat.le_refl _) ?_; intro w1 hown hgrow)
  rw [made_bytes] at hown
  have hB1 : Below w.heap.size w w1 := (Below.refl _ w).grown hgrow (Nat.le_refl _) (fun k hk => by cases hk)
  clear hgrow hi hz0 hz1 hz2
  go_loopw [6] (fun i wr => ∃ (k : Nat) (D : List UInt8), k ≤ n ∧ i = .int .i64 k ∧ wr.ownsRow w.heap.size 5 1 (.slice (some ⟨w.heap.size, 0, none⟩) n n) n (Lib.byteCells D) ∧ Below w.heap.size w wr) (fun i _ => n - (intOf i).toNat)
  case atStart => exact ⟨0, _, by omega, rfl, hown, hB1⟩
  case round =>
    clear hown hB1
    obtain ⟨k, D, hk, rfl, hown, hB⟩ := hrel
    by_cases hlt : k < n
    · rcases ha with h0 | ⟨b, o, rfl, hb, hc⟩
      · omega
      · have hck : wr.cell? ⟨b, o + k, none⟩ = some (.int .u8 (bt l k : Int)) := by rw [hB.cell (p := ⟨b, o + k, none⟩) hb]; exact hc k hlt
        obtain ⟨f1, f2, f3, f4, f5, f6⟩ := own_facts hown
        have hcd := f5 k hlt
        have hfd := f6 k
        have hbl := bt_lt l k
        have R := own_store (j := k) hown hB (Nat.le_refl _) (48 + bt l k % 10) (by omega)
        clear f1 f2 f3 f4 f5 f6 hown hc
        go_wp2
        go_roundw
        case rel =>
          obtain ⟨⟨D', h1⟩, h2⟩ := R
          have e : ((48 + bt l k % 10 : Nat) : Int) = 48 + (bt l k : Int) % 10 := by omega
          rw [e] at h1 h2
          exact ⟨k + 1, D', by omega, by go_num, h1, h2⟩
        case measure => simp [intOf]; omega
    · have hcc := HC _ _ hown hB
      clear ha
      go_wp2_with (go_at_call 12; refine hcc.mono ?_; rintro e w3 ⟨rfl, hB3⟩)
      go_ret
      exact ⟨rfl, hB3⟩
end Go.Proofs.YbulkbqwiFmt
