/-
  DERIVED. THE WALKS, ninth part: a block of bytes of the call's own; the law LawS3375BDigits' walk.
-/
import Derived.Test.YbulkbqwiFmtAgree
import Derived.ArgAppend
namespace Go.Proofs.YbulkbqwiFmt
open Go.RowKit M
open Go.Extern.Stop Go.Stop Go.Extern

theorem info5b : (Ybaf.prog.info? 5).map (fun i => (i.zero, i.size, i.bytes)) = some (some (.int .u8 0), 1, 1) := by kernel_rfl

/-- block g, of the call's own, holds N bytes; of what was there when the call began nothing has turned. -/
structure OwnB (w0 wr : World) (g N : Nat) : Prop where
  low : w0.heap.size ≤ g
  lt : g < wr.heap.size
  cell : ∀ j, j < N → ∃ c : Nat, c < 256 ∧ wr.cell? ⟨g, j, none⟩ = some (.int .u8 (c : Int))
  free : ∀ j, j < N → wr.frozen? ⟨g, j, none⟩ = false
  below : Below w0.heap.size w0 wr

theorem OwnB.alloc {w0 wr : World} {g N : Nat} (h : OwnB w0 wr g N) (o : Obj) : OwnB w0 (wr.alloc o) g N := by
  have hb : Below wr.heap.size wr (wr.alloc o) := (Below.refl _ wr).alloc (Nat.le_refl _) o
  refine ⟨h.low, by have := h.lt; simp; omega, fun j hj => ?_, fun j hj => ?_, h.below.alloc h.below.size o⟩
  · obtain ⟨c, hc, hcell⟩ := h.cell j hj
    exact ⟨c, hc, by rw [hb.cell (p := ⟨g, j, none⟩) h.lt]; exact hcell⟩
  · rw [hb.frozen (p := ⟨g, j, none⟩) h.lt]; exact h.free j hj
theorem OwnB.drew {w0 wr : World} {g N : Nat} (h : OwnB w0 wr g N) : OwnB w0 wr.drew g N :=
  ⟨h.low, h.lt, h.cell, h.free, h.below.drew⟩
theorem OwnB.set {w0 wr : World} {g N : Nat} (h : OwnB w0 wr g N) (i c : Nat) (hi : i < N) (hc : c < 256) : OwnB w0 (wr.setCell ⟨g, i, none⟩ (.int .u8 (c : Int))) g N := by
  obtain ⟨c0, _, hc0⟩ := h.cell i hi
  refine ⟨h.low, by have := h.lt; simp [World.setCell]; omega, fun j hj => ?_, fun j hj => ?_, h.below.setCell h.low _⟩
  · by_cases e : j = i
    · subst e
      exact ⟨c, hc, by simp [go_sem, hc0]⟩
    · obtain ⟨c1, h1, h2⟩ := h.cell j hj
      refine ⟨c1, h1, ?_⟩
      rw [World.cell?_setCell_other]
      · exact h2
      · exact fun hh => e (by injection hh with _ h2 _; exact h2.symm)
  · have := h.free j hj
    simpa [go_sem] using this

/-- a slice into such a block, handed to 'zzs3375bagree'. -/
theorem OwnB.agree {w0 wr : World} {g N : Nat} (h : OwnB w0 wr g N) (F : Interp) (hF : F.answers w0.tape) (off len cap : Nat) (h1 : off + len ≤ N) (h2 : len ≤ cap) :
    Calls Ybaf.prog 9 #[.slice (some ⟨g, off, none⟩) len cap] wr fun e w' => e = .returned (.bool true) ∧ Below w0.heap.size w0 w' := by
  cases len with
  | zero => exact (agree_empty _ cap wr).mono fun e w' hh => ⟨hh.1, h.below.trans (hh.2.mono h.below.size)⟩
  | succ m =>
    obtain ⟨f, hf⟩ : ∃ f : Nat → Nat, ∀ j, j < N → f j < 256 ∧ wr.cell? ⟨g, j, none⟩ = some (.int .u8 (f j : Int)) :=
      ⟨fun j => if hj : j < N then Classical.choose (h.cell j hj) else 0, fun j hj => by dsimp only; rw [dif_pos hj]; exact Classical.choose_spec (h.cell j hj)⟩
    refine (agree_any F ((List.range (m + 1)).map fun j => UInt8.ofNat (f (off + j))) m (by simp) g off cap h2 wr h.lt (by rw [h.below.tape]; exact hF) (fun j hj => ?_)).mono fun e w' hh => ⟨hh.1, h.below.trans (hh.2.mono h.below.size)⟩
    have hfj := hf (off + j) (by omega)
    rw [hfj.2]
    have e1 : bt ((List.range (m + 1)).map fun j => UInt8.ofNat (f (off + j))) j = f (off + j) := by
      unfold bt
      simp only [List.getD, List.getElem?_map, List.getElem?_range hj, Option.map_some, Option.getD_some]
      rw [UInt8.toNat_ofNat']
      omega
    rw [e1]

/-- 'append' of one byte where there is room. -/
theorem wpList_append_byte (w : World) {ops : Array Oper} {rest : List Oper} {o : Oper} {a : Act} {Q : Exit → Act → World → Prop}
    (hg : o.guard = none) (s x : Operand) (hop : o.op = Op.call { callee := Callee.builtin Builtin.append, args := #[s, x], argTypes := #[22, 22] })
    (g off len cap : Nat) (hs : a.eval s = .slice (some ⟨g, off, none⟩) len cap) (k : Nat) (v : Value) (hx : a.eval x = .slice (some ⟨k, 0, none⟩) 1 1) (hck : w.cell? ⟨k, 0, none⟩ = some v) (hv : v.oneCell' = true)
    (hroom : len + 1 ≤ cap) (hcell : (w.cell? ⟨g, off + len, none⟩).isSome = true) (hfz : w.frozen? ⟨g, off + len, none⟩ = false)
    (hK : wpList Ybaf.prog ops Q rest (a.put o.dst (.slice (some ⟨g, off, none⟩) (len + 1) cap)) (w.setCell ⟨g, off + len, none⟩ v)) :
    wpList Ybaf.prog ops Q (o :: rest) a w := by
  obtain ⟨i0, hi, hz0, hz1, hz2⟩ := info_parts info5b
  refine wpList_plain hg fun K hK' => ?_
  have hrun := run_append_room_cells (P := Ybaf.prog) w 22 o.type 5 i0 Ybaf.underlying22 hi g off len cap ⟨k, 0, none⟩ 1 1 [v] (by rw [hz1]; rfl)
    (fun j u hj => by
      match j, hj with
      | 0, hj => simp at hj; subst hj; simpa [Addr.add] using hck) (fun u hu => by simp at hu; subst hu; exact hv) hroom
    (fun j hj => by simp at hj; subst hj; rw [hz1]; simpa using hcell) (fun j hj => by simp at hj; subst hj; rw [hz1]; simpa using hfz)
  rw [hz1, Nat.mul_one] at hrun
  unfold Oper.wp
  simp [execOp, hop, resolve, invoke, builtin, hs, hx, hrun, Result.andThen]
  exact hK' _ _ hK

theorem OwnB.made (w : World) (N : Nat) : OwnB w (w.alloc (.cells (madeCells (Value.int .u8 0).cells N) 5)) w.heap.size N := by
  have hh : (w.alloc (.cells (madeCells (Value.int .u8 0).cells N) 5)).heap[w.heap.size]? = some (.cells (madeCells (Value.int .u8 0).cells N) 5) := heap_alloc_new w _
  refine ⟨Nat.le_refl _, by simp, fun j hj => ⟨0, by decide, ?_⟩, fun j _ => ?_, (Below.refl _ w).alloc (Nat.le_refl _) _⟩
  · unfold World.cell?
    rw [hh]
    simp [madeCells, Value.cells, hj, Nat.mod_one]
  · unfold World.frozen?
    rw [hh]
    simp
theorem OwnB.some {w0 wr : World} {g N : Nat} (h : OwnB w0 wr g N) (j : Nat) (hj : j < N) : (wr.cell? ⟨g, j, none⟩).isSome = true := by
  obtain ⟨c, _, hc⟩ := h.cell j hj
  rw [hc]; rfl

theorem make_run (w : World) (N : Nat) (h : N ≤ 2000) : (Instr.makeSlice 22 (.int .i64 0) (.int .i64 (N : Int))).run Ybaf.prog w = .ok (.slice (some ⟨w.heap.size, 0, none⟩) 0 N) (w.alloc (.cells (madeCells (Value.int .u8 0).cells N) 5)) := by
  obtain ⟨i0, hi, hz0, hz1, hz2⟩ := info_parts info5b
  have hr := run_make (P := Ybaf.prog) w 22 5 i0 (.int .u8 0) Ybaf.underlying22 hi hz0 .i64 .i64 0 N (Int.le_refl _) (by omega) (by rw [hz2]; omega) (by omega)
  simp only [Int.toNat_zero, Int.toNat_natCast] at hr
  rw [hz1, Nat.mul_one] at hr
  exact hr

set_option maxHeartbeats 400000 in
theorem bdig_long (mode at' : Int) (a : Option Addr) (n cap : Nat) (h : 1024 < n) (w : World) :
    Calls Ybaf.prog 4 #[.slice a n cap, .int .u8 mode, .int .u8 at'] w fun e w' => e = .returned (.bool true) ∧ Below w.heap.size w w' := by
  go_enter Ybaf.func4, Ybaf.ntmps4
  go_wp2
  go_ret
  exact ⟨rfl, Below.refl _ _⟩

def LQ (k q : Nat) : Prop := q = 0 ∨ q < k
theorem LQ.le {k q : Nat} (h : LQ k q) (hk : 1 ≤ k) : q + 1 ≤ k := by unfold LQ at h; omega
theorem LQ.zero {q : Nat} (h : LQ 0 q) : q = 0 := by unfold LQ at h; omega

set_option maxHeartbeats 1600000 in
theorem bdig_any (F : Interp) (mode at' : Nat) (hmode : mode < 256) (hat : at' < 256) (a : Option Addr) (l : List UInt8) (n : Nat) (hn : n ≤ 1024) (cap : Nat) (w : World) (hF : F.answers w.tape)
    (ha : n = 0 ∨ ∃ b o, a = some ⟨b, o, none⟩ ∧ b < w.heap.size ∧ ∀ j, j < n → w.cell? ⟨b, o + j, none⟩ = some (.int .u8 (bt l j : Int))) :
    Calls Ybaf.prog 4 #[.slice a n cap, .int .u8 (mode : Int), .int .u8 (at' : Int)] w fun e w' => e = .returned (.bool true) ∧ Below w.heap.size w w' := by
  have hmk : (Instr.makeSlice 22 (.int .i64 0) (.int .i64 ((n : Int) + 2))).run Ybaf.prog w = .ok (.slice (some ⟨w.heap.size, 0, none⟩) 0 (n + 2)) (w.alloc (.cells (madeCells (Value.int .u8 0).cells (n + 2)) 5)) := make_run w (n + 2) (by omega)
  have hO := OwnB.made w (n + 2)
  go_enter Ybaf.func4, Ybaf.ntmps4
  go_wp2
  clear hmk
  go_loopw [7, 8] (fun v i wr => ∃ k : Nat, k ≤ n ∧ i = .int .i64 k ∧ v = .slice (some ⟨w.heap.size, 0, none⟩) k (n + 2) ∧ OwnB w wr w.heap.size (n + 2)) (fun _ i _ => n - (intOf i).toNat)
  case atStart => exact ⟨0, by omega, rfl, rfl, hO⟩
  case round =>
    clear hO
    obtain ⟨k, hk, rfl, rfl, hO⟩ := hrel
    by_cases hlt : k < n
    · rcases ha with h0 | ⟨b, o, rfl, hb, hc⟩
      · omega
      · have hck : wr.cell? ⟨b, o + k, none⟩ = some (.int .u8 (bt l k : Int)) := by rw [hO.below.cell (p := ⟨b, o + k, none⟩) hb]; exact hc k hlt
        have hbl := bt_lt l k
        have hO2 := (hO.alloc (.cells #[.int .u8 (48 + (bt l k : Int) % 10)] 5))
        have hs := hO2.some (0 + k) (by omega)
        have hf := hO2.free (0 + k) (by omega)
        clear hc
        go_wp2_with (at_builtin; go_must (refine wpList_append_byte _ rfl (.tmp 24) (.tmp 31) rfl w.heap.size 0 k (n + 2) rfl wr.heap.size (.int .u8 (48 + (bt l k : Int) % 10)) rfl (by go_simp) rfl (by omega) (by exact hs) (by exact hf) ?_))
        go_roundw
        case rel =>
          have hO3 := hO2.set k (48 + bt l k % 10) (by omega) (by omega)
          have e : ((48 + bt l k % 10 : Nat) : Int) = 48 + (bt l k : Int) % 10 := by omega
          rw [e] at hO3
          exact ⟨k + 1, by omega, by go_num, rfl, hO3⟩
        case measure => simp [intOf]; omega
    · have hkn : k = n := by omega
      subst hkn
      have hA := fun wr' (h : OwnB w wr' w.heap.size (k + 2)) off len cap h1 h2 => h.agree F hF off len cap h1 h2
      clear ha
      have hm : (mode : Int) % 4 = 0 ∨ (mode : Int) % 4 = 1 ∨ (mode : Int) % 4 = 2 ∨ (mode : Int) % 4 = 3 := by omega
      rcases hm with hm | hm | hm | hm
      · have hO2 := hO.alloc (.cells #[.int .u8 10] 5)
        have hs := hO2.some (0 + k) (by omega)
        have hf := hO2.free (0 + k) (by omega)
        have hO3 := hO2.set k 10 (by omega) (by omega)
        go_wp2_with (first | (at_builtin; refine wpList_append_byte _ rfl (.tmp 80) (.tmp 81) rfl w.heap.size 0 k (k + 2) rfl wr.heap.size (.int .u8 10) rfl (by go_simp) rfl (by omega) (by exact hs) (by exact hf) ?_) | (go_at_call 9; refine (hA _ hO3 0 (k + 1) (k + 2) (by omega) (by omega)).mono ?_; rintro e w3 ⟨rfl, hB3⟩))
        go_ret
        exact ⟨rfl, hB3⟩
      · go_wp2
        go_loop [10] (fun i => ∃ q : Nat, LQ k q ∧ i = .int .i64 q) (fun i => k - (intOf i).toNat)
        case atStart => exact ⟨0, Or.inl rfl, rfl⟩
        case round =>
          obtain ⟨q, hq, rfl⟩ := hrel
          by_cases hk0 : k = 0
          · subst hk0
            have hq0 := hq.zero
            subst hq0
            have hO2 := hO.alloc (.cells #[.int .u8 48] 5)
            have hs := hO2.some 0 (by omega)
            have hf := hO2.free 0 (by omega)
            have hO3 := hO2.set 0 48 (by omega) (by omega)
            have hO4 := hO3.alloc (.cells #[.int .u8 10] 5)
            have hs4 := hO4.some 1 (by omega)
            have hf4 := hO4.free 1 (by omega)
            have hO5 := hO4.set 1 10 (by omega) (by omega)
            go_wp2_with (first | (at_builtin; refine wpList_append_byte _ rfl (.tmp 57) (.tmp 58) rfl w.heap.size 0 0 2 rfl wr.heap.size (.int .u8 48) rfl (by go_simp) rfl (by omega) (by exact hs) (by exact hf) ?_) | (at_builtin; refine wpList_append_byte _ rfl (.tmp 80) (.tmp 81) rfl w.heap.size 0 1 2 rfl (wr.heap.size + 1) (.int .u8 10) rfl (by go_simp) rfl (by omega) (by exact hs4) (by exact hf4) ?_) | (go_at_call 9; refine (hA _ hO5 0 2 2 (by omega) (by omega)).mono ?_; rintro e w3 ⟨rfl, hB3⟩))
            go_ret
            exact ⟨rfl, hB3⟩
          · have hql := hq.le (by omega)
            clear hq
            by_cases hlt2 : q + 1 < k
            · obtain ⟨c, hc, hcell⟩ := hO.cell q (by omega)
              by_cases hc48 : (c : Int) = 48
              · have hc48' : ((c : Int) == 48) = true := by simp [hc48]
                clear hc48
                go_wp2
                go_round
                case rel => exact ⟨q + 1, Or.inr (by omega), by go_num⟩
                case measure => simp [intOf]; omega
              · have hc48' : ((c : Int) == 48) = false := by simp [hc48]
                clear hc48
                have hO2 := hO.alloc (.cells #[.int .u8 10] 5)
                have hs := hO2.some (q + (k - q)) (by omega)
                have hf := hO2.free (q + (k - q)) (by omega)
                have hO3 := hO2.set (q + (k - q)) 10 (by omega) (by omega)
                go_wp2_with (first | (at_builtin; refine wpList_append_byte _ rfl (.tmp 80) (.tmp 81) rfl w.heap.size q (k - q) (k + 2 - q) rfl wr.heap.size (.int .u8 10) rfl (by go_simp) rfl (by omega) (by exact hs) (by exact hf) ?_) | (go_at_call 9; refine (hA _ hO3 q (k - q + 1) (k + 2 - q) (by omega) (by omega)).mono ?_; rintro e w3 ⟨rfl, hB3⟩))
                go_ret
                exact ⟨rfl, hB3⟩
            · have hO2 := hO.alloc (.cells #[.int .u8 10] 5)
              have hs := hO2.some (q + (k - q)) (by omega)
              have hf := hO2.free (q + (k - q)) (by omega)
              have hO3 := hO2.set (q + (k - q)) 10 (by omega) (by omega)
              go_wp2_with (first | (at_builtin; refine wpList_append_byte _ rfl (.tmp 80) (.tmp 81) rfl w.heap.size q (k - q) (k + 2 - q) rfl wr.heap.size (.int .u8 10) rfl (by go_simp) rfl (by omega) (by exact hs) (by exact hf) ?_) | (go_at_call 9; refine (hA _ hO3 q (k - q + 1) (k + 2 - q) (by omega) (by omega)).mono ?_; rintro e w3 ⟨rfl, hB3⟩))
              go_ret
              exact ⟨rfl, hB3⟩
      · go_wp2_with (go_at_call 9; refine (hA _ hO 0 k (k + 2) (by omega) (by omega)).mono ?_; rintro e w3 ⟨rfl, hB3⟩)
        go_ret
        exact ⟨rfl, hB3⟩
      · by_cases hk0 : k = 0
        · subst hk0
          have hO2 := hO.alloc (.cells #[.int .u8 10] 5)
          have hs := hO2.some 0 (by omega)
          have hf := hO2.free 0 (by omega)
          have hO3 := hO2.set 0 10 (by omega) (by omega)
          go_wp2_with (first | (at_builtin; refine wpList_append_byte _ rfl (.tmp 80) (.tmp 81) rfl w.heap.size 0 0 2 rfl wr.heap.size (.int .u8 10) rfl (by go_simp) rfl (by omega) (by exact hs) (by exact hf) ?_) | (go_at_call 9; refine (hA _ hO3 0 1 2 (by omega) (by omega)).mono ?_; rintro e w3 ⟨rfl, hB3⟩))
          go_ret
          exact ⟨rfl, hB3⟩
        · have hr : at' % k < k := Nat.mod_lt _ (by omega)
          obtain ⟨c0, _, hc0⟩ := hO.cell (at' % k) (by omega)
          have hf0 := hO.free (at' % k) (by omega)
          have m1 : (0 : Int) ≤ (at' : Int) % (k : Int) := by omega
          have m2 : (at' : Int) % (k : Int) < (k : Int) := by omega
          have m3 : (0 : Int) ≤ (at' : Int) % 7 := by omega
          have m4 : (at' : Int) % 7 < 7 := by omega
          have hk1 : 1 ≤ (k : Int) := by omega
          have HS : ∀ c : Nat, c < 256 → OwnB w ((wr.setCell ⟨w.heap.size, at' % k, none⟩ (.int .u8 (c : Int))).alloc (.cells #[.int .u8 10] 5)).drew w.heap.size (k + 2) := fun c hc => ((hO.set (at' % k) c (by omega) hc).alloc _).drew
          go_wp2
          go_region
          go_wp2_with (at_builtin; go_must (refine wpList_append_byte _ rfl (.tmp 80) (.tmp 81) rfl w.heap.size 0 k (k + 2) rfl wr.heap.size (.int .u8 10) rfl (by go_simp) rfl (by omega) (by exact (HS _ (UInt8.toNat_lt _)).some (0 + k) (by omega)) (by exact (HS _ (UInt8.toNat_lt _)).free (0 + k) (by omega)) ?_))
          refine (hA _ (((hO.set (at' % k) _ (by omega) (UInt8.toNat_lt _)).alloc _).set k 10 (by omega) (by omega)).drew 0 (k + 1) (k + 2) (by omega) (by omega)).mono ?_
          rintro e w3 ⟨rfl, hB3⟩
          go_wp2
          go_ret
          exact ⟨rfl, hB3⟩
end Go.Proofs.YbulkbqwiFmt
