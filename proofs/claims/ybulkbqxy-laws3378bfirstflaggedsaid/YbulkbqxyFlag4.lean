/-
  DERIVED. LawS3378BFirstFlagged, the walk.
-/
import Derived.Test.YbulkbqxyFlag3
namespace Go.Proofs.Ybulkbqxy
open Go.RowKit

theorem inv_start (w : World) (fl : List Bool) : Inv w w fl [] (.slice none 0 0) (.slice none 0 0) (.slice none 0 0) :=
  ⟨World.ownsRow_nil _ _ _ _, World.ownsRow_nil _ _ _ _, World.ownsRow_nil _ _ _ _, (fun j d h => by simp at h), Below.refl _ _⟩

theorem news3 (w : World) (g : Nat) (hg : g = w.heap.size) (x y z : Value) (t : TypeId) : ∀ j u, [x, y, z][j]? = some u → (w.alloc (.cells #[x, y, z] t)).cell? ((⟨g, 0, none⟩ : Addr).add j) = some u := by
  intro j u hj
  subst hg
  match j, hj with
  | 0, hj => simp at hj; subst hj; simp [Addr.add, go_sem]
  | 1, hj => simp at hj; subst hj; simp [Addr.add, go_sem]
  | 2, hj => simp at hj; subst hj; simp [Addr.add, go_sem]
  | j + 3, hj => simp at hj
theorem news1 (w : World) (g : Nat) (hg : g = w.heap.size) (x : Value) (t : TypeId) : ∀ j u, [x][j]? = some u → (w.alloc (.cells #[x] t)).cell? ((⟨g, 0, none⟩ : Addr).add j) = some u := by
  intro j u hj
  subst hg
  match j, hj with
  | 0, hj => simp at hj; subst hj; simp [Addr.add, go_sem]
  | j + 1, hj => simp at hj
theorem one3 (o o' o'' : Option Addr) : ∀ u ∈ [Value.pointer o, .pointer o', .pointer o''], u.oneCell' = true := by
  intro u hu
  simp at hu
  rcases hu with rfl | rfl | rfl <;> rfl
theorem one1 (o : Option Addr) : ∀ u ∈ [Value.pointer o], u.oneCell' = true := by
  intro u hu
  simp at hu
  subst hu
  rfl

theorem info34 : (Yba.prog.info? 34).map (fun i => (i.zero, i.size, i.bytes)) = some (some (.agg #[.pointer none, .int .i64 0]), 2, 16) := by kernel_rfl
theorem p30_same (a : Nat) (w : World) : (binOp .eql 30 (.pointer (some ⟨a, 0, none⟩)) (.pointer (some ⟨a, 0, none⟩))).run Yba.prog w = .ok (.bool true) w := by
  obtain ⟨i0, hi, _, _, _⟩ := info_parts info34
  simp only [binOp]
  have h : ∀ d : Nat, (Op.equalIn (d + 1) 30 (.pointer (some ⟨a, 0, none⟩)) (.pointer (some ⟨a, 0, none⟩))).run Yba.prog w = .ok true w := fun d => by
    simp [Op.equalIn, run_underlying Yba.underlying30, sizeOf, typeInfo, hi, run_sameAddr_same]
  simp [Op.equal, Op.maxDepth, h 9999]
theorem p30_neq_same (a : Nat) (w : World) : (binOp .neq 30 (.pointer (some ⟨a, 0, none⟩)) (.pointer (some ⟨a, 0, none⟩))).run Yba.prog w = .ok (.bool false) w := by
  obtain ⟨i0, hi, _, _, _⟩ := info_parts info34
  simp only [binOp]
  have h : ∀ d : Nat, (Op.equalIn (d + 1) 30 (.pointer (some ⟨a, 0, none⟩)) (.pointer (some ⟨a, 0, none⟩))).run Yba.prog w = .ok true w := fun d => by
    simp [Op.equalIn, run_underlying Yba.underlying30, sizeOf, typeInfo, hi, run_sameAddr_same]
  simp [Op.equal, Op.maxDepth, h 9999]

/-- what flaggedTier's answer is, in one form. -/
def Got (ds : List (Nat × Option Nat)) (pm pf : Option Addr) (ok : Bool) : Prop :=
  (∃ k m b, Found ds k m b ∧ pm = some ⟨m, 0, none⟩ ∧ pf = some ⟨b, 0, none⟩ ∧ ok = true) ∨ (NoneF ds ds.length ∧ pm = none ∧ pf = none ∧ ok = false)
theorem FTR.got {ds : List (Nat × Option Nat)} {e : Ending} (h : FTR ds e) : ∃ pm pf ok, e = .returned (.tuple #[.agg #[.pointer none, .pointer pm, .pointer pf], .bool ok]) ∧ Got ds pm pf ok := by
  rcases h with ⟨k, m, b, hf, rfl⟩ | ⟨hn, rfl⟩
  · exact ⟨_, _, _, rfl, Or.inl ⟨k, m, b, hf, rfl, rfl, rfl⟩⟩
  · exact ⟨_, _, _, rfl, Or.inr ⟨hn, rfl, rfl, rfl⟩⟩
/-- the three rows' cells, as the last part of the law reads them. -/
structure Rows3 (wr : World) (ds : List (Nat × Option Nat)) (ta ma ra : Option Addr) : Prop where
  t : ds.length = 0 ∨ ∃ g, ta = some ⟨g, 0, none⟩ ∧ g < wr.heap.size ∧ ∀ j, j < ds.length * 3 → wr.cell? ⟨g, j, none⟩ = (tcells ds)[j]?
  m : ds.length = 0 ∨ ∃ g, ma = some ⟨g, 0, none⟩ ∧ g < wr.heap.size ∧ ∀ j, j < ds.length → wr.cell? ⟨g, j, none⟩ = (mcells ds)[j]?
  r : ds.length = 0 ∨ ∃ g, ra = some ⟨g, 0, none⟩ ∧ g < wr.heap.size ∧ ∀ j, j < ds.length → wr.cell? ⟨g, j, none⟩ = (rcells ds)[j]?
/-- one element's cells in a later world. -/
theorem Rows3.at {wr W : World} {ds : List (Nat × Option Nat)} {ta ma ra : Option Addr} (h : Rows3 wr ds ta ma ra) (hB : Below wr.heap.size wr W) {k : Nat} {d : Nat × Option Nat} (hd : ds[k]? = some d) :
    ∃ g m r, ta = some ⟨g, 0, none⟩ ∧ ma = some ⟨m, 0, none⟩ ∧ ra = some ⟨r, 0, none⟩ ∧
      W.cell? ⟨g, k * 3 + 1, none⟩ = some (.pointer (some ⟨d.1, 0, none⟩)) ∧ W.cell? ⟨g, k * 3 + 2, none⟩ = some (fpt d.2) ∧
      W.cell? ⟨m, k, none⟩ = some (.pointer (some ⟨d.1, 0, none⟩)) ∧ W.cell? ⟨r, k, none⟩ = some (fpt d.2) := by
  have hk : k < ds.length := by
    rcases Nat.lt_or_ge k ds.length with h1 | h1
    · exact h1
    · rw [List.getElem?_eq_none h1] at hd; cases hd
  rcases h.t with h0 | ⟨g, rfl, hg, hc⟩
  · omega
  rcases h.m with h0 | ⟨m, rfl, hm, hcm⟩
  · omega
  rcases h.r with h0 | ⟨r, rfl, hr, hcr⟩
  · omega
  obtain ⟨_, t1, t2⟩ := tcells_at ds k d hd
  refine ⟨g, m, r, rfl, rfl, rfl, ?_, ?_, ?_, ?_⟩
  · rw [hB.cell (p := ⟨g, k * 3 + 1, none⟩) hg, hc _ (by omega)]; exact t1
  · rw [hB.cell (p := ⟨g, k * 3 + 2, none⟩) hg, hc _ (by omega)]; exact t2
  · rw [hB.cell (p := ⟨m, k, none⟩) hm, hcm _ hk]; simp [mcells, hd]
  · rw [hB.cell (p := ⟨r, k, none⟩) hr, hcr _ hk]; simp [rcells, hd]

theorem got_none {w0 wr : World} {fl : List Bool} {ds : List (Nat × Option Nat)} {T M R : Value} {pm pf : Option Addr} {ok : Bool} (hI : Inv w0 wr fl ds T M R) (hG : Got ds pm pf ok)
    (hz : ∀ j, j < ds.length → fl.getD j false = false) : pm = none ∧ pf = none ∧ ok = false := by
  rcases hG with ⟨k, m, b, ⟨hk, _⟩, _⟩ | ⟨_, h⟩
  · have hl : k < ds.length := by
      rcases Nat.lt_or_ge k ds.length with h1 | h1
      · exact h1
      · rw [List.getElem?_eq_none h1] at hk; cases hk
    have := (hI.f k _ hk).1
    rw [hz k hl] at this
    cases this
  · exact h
theorem got_some {w0 wr : World} {fl : List Bool} {ds : List (Nat × Option Nat)} {T M R : Value} {pm pf : Option Addr} {ok : Bool} (hI : Inv w0 wr fl ds T M R) (hG : Got ds pm pf ok) {k : Nat} (hk : k < ds.length)
    (hz : ∀ j, j < k → fl.getD j false = false) (ht : fl.getD k false = true) :
    ∃ m b, ds[k]? = some (m, some b) ∧ pm = some ⟨m, 0, none⟩ ∧ pf = some ⟨b, 0, none⟩ ∧ ok = true ∧ wr.heap[b]? = some (.cells #[.pointer none, .int .i64 (k : Int)] 34 (0, 0)) := by
  have hdk : ds[k]? = some ds[k] := by simp
  have h1 := (hI.f k _ hdk).1
  rw [ht] at h1
  rcases hG with ⟨k', m, b, ⟨hk', hlow⟩, rfl, rfl, rfl⟩ | ⟨hn, _⟩
  · have h2 := (hI.f k' _ hk').1
    have e : k' = k := by
      rcases Nat.lt_trichotomy k' k with h | h | h
      · rw [hz k' h] at h2; cases h2
      · exact h
      · rw [hlow k _ h hdk] at h1; cases h1
    subst e
    exact ⟨m, b, hk', rfl, rfl, rfl, (hI.f k' _ hk').2 b rfl⟩
  · rw [hn k _ hk hdk] at h1; cases h1
theorem flag_at {w W : World} {a : Option Addr} {fl : List Bool} {n : Nat} (ha : n = 0 ∨ ∃ b o, a = some ⟨b, o, none⟩ ∧ b < w.heap.size ∧ ∀ j, j < n → w.cell? ⟨b, o + j, none⟩ = some (.bool (fl.getD j false)))
    (hB : Below w.heap.size w W) {k : Nat} (hk : k < n) : ∃ b o, a = some ⟨b, o, none⟩ ∧ W.cell? ⟨b, o + k, none⟩ = some (.bool (fl.getD k false)) := by
  rcases ha with h0 | ⟨b, o, rfl, hb, hc⟩
  · omega
  · exact ⟨b, o, rfl, by rw [hB.cell (p := ⟨b, o + k, none⟩) hb]; exact hc _ hk⟩
theorem below_far {a b c d : World} (h1 : Below a.heap.size a b) (h2 : Below b.heap.size b c) (h3 : Below c.heap.size c d) : Below a.heap.size a d :=
  (h1.trans (h2.mono h1.size)).trans (h3.mono (Nat.le_trans h1.size h2.size))

set_option maxRecDepth 20000 in
set_option maxHeartbeats 1600000 in
theorem law_any (a : Option Addr) (fl : List Bool) (n : Nat) (hn : n ≤ 1024) (cap : Nat) (w : World)
    (ha : n = 0 ∨ ∃ b o, a = some ⟨b, o, none⟩ ∧ b < w.heap.size ∧ ∀ j, j < n → w.cell? ⟨b, o + j, none⟩ = some (.bool (fl.getD j false))) :
    Calls Yba.prog 3 #[.slice a n cap] w fun e w' => e = .returned (.bool true) ∧ Below w.heap.size w w' := by
  obtain ⟨it, hti, ht0, ht1, ht2⟩ := info_parts i32
  obtain ⟨im, hmi, hm0, hm1, hm2⟩ := info_parts i26
  obtain ⟨ir, hri, hr0, hr1, hr2⟩ := info_parts i30
  have HN := fun (k : Nat) (hk : k ≤ 1024) => newInt_any (k : Int) (by omega) (by omega)
  go_enter Yba.func3, Yba.ntmps3
  go_wp2
  go_loopw [3, 4, 5, 22] (fun T M R i wr => ∃ ds : List (Nat × Option Nat), ds.length ≤ n ∧ i = .int .i64 ds.length ∧ Inv w wr fl ds T M R) (fun _ _ _ i _ => n - (intOf i).toNat)
  case atStart => exact ⟨[], by simp, rfl, inv_start w fl⟩
  case round =>
    obtain ⟨ds, hk, rfl, hI⟩ := hrel
    by_cases hlt : ds.length < n
    · rcases ha with h0 | ⟨b, o, rfl, hb, hc⟩
      · omega
      · have hck : wr.cell? ⟨b, o + ds.length, none⟩ = some (.bool (fl.getD ds.length false)) := by rw [hI.below.cell (p := ⟨b, o + ds.length, none⟩) hb]; exact hc _ hlt
        have HNk := HN ds.length (by omega) wr
        clear hc HN
        cases hf : fl.getD ds.length false
        · rw [hf] at hck
          go_wp2_with fail
          refine HNk.mono ?_
          rintro e w1 ⟨mb, rfl, hmb, hbig, hB1⟩
          have hBW : Below wr.heap.size wr (w1.alloc (.cells #[.pointer none, .pointer (some ⟨mb, 0, none⟩), .pointer none] 32)) := hB1.alloc hB1.size _
          have hT2 := own_below (own_below hI.t hBW) (al (w1.alloc (.cells #[.pointer none, .pointer (some ⟨mb, 0, none⟩), .pointer none] 32)) (.cells #[.pointer none, .pointer (some ⟨mb, 0, none⟩), .pointer none] 32))
          have hM2 := own_below (own_below hI.m hBW) (al (w1.alloc (.cells #[.pointer none, .pointer (some ⟨mb, 0, none⟩), .pointer none] 32)) (.cells #[.pointer none, .pointer (some ⟨mb, 0, none⟩), .pointer none] 32))
          have hR2 := own_below (own_below hI.r hBW) (al (w1.alloc (.cells #[.pointer none, .pointer (some ⟨mb, 0, none⟩), .pointer none] 32)) (.cells #[.pointer none, .pointer (some ⟨mb, 0, none⟩), .pointer none] 32))
          have hs1 := hB1.size
          have hb0 := hI.below.size
          have hTlt := hI.t.lt
          have hz1 : (w1.alloc (.cells #[.pointer none, .pointer (some ⟨mb, 0, none⟩), .pointer none] 32)).heap.size = w1.heap.size + 1 := by simp
          have hz2 : ((w1.alloc (.cells #[.pointer none, .pointer (some ⟨mb, 0, none⟩), .pointer none] 32)).alloc (.cells #[.pointer none, .pointer (some ⟨mb, 0, none⟩), .pointer none] 32)).heap.size = w1.heap.size + 1 + 1 := by simp
          have hblk : (w1.alloc (.cells #[.pointer none, .pointer (some ⟨mb, 0, none⟩), .pointer none] 32)).heap[w1.heap.size]? = some (.cells #[.pointer none, .pointer (some ⟨mb, 0, none⟩), .pointer none] 32) := heap_alloc_new w1 (.cells #[.pointer none, .pointer (some ⟨mb, 0, none⟩), .pointer none] 32)
          have hblk2 := ((al (w1.alloc (.cells #[.pointer none, .pointer (some ⟨mb, 0, none⟩), .pointer none] 32)) (.cells #[.pointer none, .pointer (some ⟨mb, 0, none⟩), .pointer none] 32)).block w1.heap.size (by rw [hz1]; omega)).trans hblk
          have hfb : ∀ b, (none : Option Nat) = some b → (w1.alloc (.cells #[.pointer none, .pointer (some ⟨mb, 0, none⟩), .pointer none] 32)).heap[b]? = some (.cells #[.pointer none, .int .i64 (ds.length : Int)] 34 (0, 0)) := (fun b hb => by cases hb)
          have HNW := hid (news3 (w1.alloc (.cells #[.pointer none, .pointer (some ⟨mb, 0, none⟩), .pointer none] 32)) (w1.heap.size + 1) hz1.symm (.pointer none) (.pointer (some ⟨mb, 0, none⟩)) (.pointer none) 32)
          have HW5 : Hid (w.heap.size ≤ ((w1.alloc (.cells #[.pointer none, .pointer (some ⟨mb, 0, none⟩), .pointer none] 32)).alloc (.cells #[.pointer none, .pointer (some ⟨mb, 0, none⟩), .pointer none] 32)).heap.size) := by
            have : w.heap.size ≤ ((w1.alloc (.cells #[.pointer none, .pointer (some ⟨mb, 0, none⟩), .pointer none] 32)).alloc (.cells #[.pointer none, .pointer (some ⟨mb, 0, none⟩), .pointer none] 32)).heap.size := by rw [hz2]; omega
            exact this
          have HT2 := hid hT2
          have HM2 := hid hM2
          have HR2 := hid hR2
          have HBW := hid hBW
          have HI := hid hI
          have HF := hid hf
          have HFB := hid hfb
          have HBL := hid hblk2
          have HTL := hid hTlt
          clear hT2 hM2 hR2 hBW hI hf HNk hz1 hz2 hblk hblk2 hfb hTlt
          go_wp2_with (at_builtin; go_must (refine wpList_append_own _ rfl (.tmp 37) (.tmp 39) 23 rfl w.heap.size 32 it (.agg #[.pointer none, .pointer none, .pointer none]) 3 24 Yba.underlying23 hti ht0 ht1 ht2 rfl (by decide) _ _ _ rfl (by exact HT2.out) ⟨w1.heap.size + 1, 0, none⟩ 1 1 [.pointer none, .pointer (some ⟨mb, 0, none⟩), .pointer none] rfl rfl (by exact HNW.out) (one3 _ _ _) (by unfold maxLen; omega) (by omega) (by exact HW5.out) ?_))
          intro T1 w3 hT3 gT _
          have hM3 := own_other HM2.out HT2.out (by decide) gT
          have hR3 := own_other HR2.out HT2.out (by decide) gT
          have hne : some w1.heap.size ≠ u3.ownBlock := fun e => by
            have := (HTL.out _ e.symm).2
            omega
          have hblk3 := keep_block gT HBL.out hne
          have hs3 := gT.size
          have hw5 := HW5.out
          have hw3 : w.heap.size ≤ w3.heap.size := by omega
          have hz3 : (w3.alloc (.cells #[.pointer (some ⟨mb, 0, none⟩)] 26)).heap.size = w3.heap.size + 1 := by simp
          have HM4 := hid (own_below hM3 (al w3 (.cells #[.pointer (some ⟨mb, 0, none⟩)] 26)))
          have HR4 := hid (own_below hR3 (al w3 (.cells #[.pointer (some ⟨mb, 0, none⟩)] 26)))
          have HN1 := hid (news1 w3 w3.heap.size rfl (.pointer (some ⟨mb, 0, none⟩)) 26)
          have HBL3 := hid (((al w3 (.cells #[.pointer (some ⟨mb, 0, none⟩)] 26)).block w1.heap.size (lt_of_heap hblk3)).trans hblk3)
          have HW6 : Hid (w.heap.size ≤ (w3.alloc (.cells #[.pointer (some ⟨mb, 0, none⟩)] 26)).heap.size) := by
            have : w.heap.size ≤ (w3.alloc (.cells #[.pointer (some ⟨mb, 0, none⟩)] 26)).heap.size := by rw [hz3]; omega
            exact this
          have GT := hid gT
          have HT3 := hid hT3
          clear hM3 hR3 hne hblk3 gT hT3 hs3 hw5 hz3
          go_wp2_with (at_builtin; go_must (refine wpList_append_own _ rfl (.tmp 41) (.tmp 43) 24 rfl w.heap.size 26 im (.pointer none) 1 8 Yba.underlying24 hmi hm0 hm1 hm2 rfl (by decide) _ _ _ rfl (by exact HM4.out) ⟨w3.heap.size, 0, none⟩ 1 1 [.pointer (some ⟨mb, 0, none⟩)] rfl rfl (by exact HN1.out) (one1 _) (by unfold maxLen; omega) (by omega) (by exact HW6.out) ?_))
          intro M1 w5 hM5 gM _
          have hR5 := own_other HR4.out HM4.out (by decide) gM
          have hblk5 := keep_block gM HBL3.out (ne_block HM4.out HBL3.out (by decide))
          have hc2 : w5.cell? ⟨w1.heap.size, 2, none⟩ = some (.pointer none) := by simp [World.cell?, hblk5]
          have hs5 := gM.size
          have hw6 := HW6.out
          have hw5 : w.heap.size ≤ w5.heap.size := by omega
          have hz5 : (w5.alloc (.cells #[.pointer none] 30)).heap.size = w5.heap.size + 1 := by simp
          have HR6 := hid (own_below hR5 (al w5 (.cells #[.pointer none] 30)))
          have HN2 := hid (news1 w5 w5.heap.size rfl (.pointer none) 30)
          have HW7 : Hid (w.heap.size ≤ (w5.alloc (.cells #[.pointer none] 30)).heap.size) := by
            have : w.heap.size ≤ (w5.alloc (.cells #[.pointer none] 30)).heap.size := by rw [hz5]; omega
            exact this
          have GM := hid gM
          have HM5 := hid hM5
          clear hR5 hblk5 hs5 hw6 hz5 gM hM5
          go_wp2_with (at_builtin; go_must (refine wpList_append_own _ rfl (.tmp 45) (.tmp 48) 25 rfl w.heap.size 30 ir (.pointer none) 1 8 Yba.underlying25 hri hr0 hr1 hr2 rfl (by decide) _ _ _ rfl (by exact HR6.out) ⟨w5.heap.size, 0, none⟩ 1 1 [.pointer none] rfl rfl (by exact HN2.out) (one1 _) (by unfold maxLen; omega) (by omega) (by exact HW7.out) ?_))
          intro R1 w7 hR7 gR _
          have HS := hid (Inv.step HI.out (mb, none) HBW.out HT3.out GT.out HM5.out GM.out hR7 gR HF.out.symm HFB.out)
          clear hR7 gR hc2
          go_wp2
          go_roundw
          case rel => exact ⟨ds ++ [(mb, none)], by rw [List.length_append]; exact hlt, by rw [List.length_append]; go_num, HS.out⟩
          case measure => simp [intOf]; omega
        · rw [hf] at hck
          go_wp2_with fail
          refine HNk.mono ?_
          rintro e w1 ⟨mb, rfl, hmb, hbig, hB1⟩
          have hBW : Below wr.heap.size wr ((w1.alloc (.cells #[.pointer none, .pointer (some ⟨mb, 0, none⟩), .pointer (some ⟨w1.heap.size + 1, 0, none⟩)] 32)).alloc (.cells #[.pointer none, .int .i64 (ds.length : Int)] 34)) := (hB1.alloc hB1.size _).alloc (by have := hB1.size; simp; omega) _
          have hT2 := own_below (own_below hI.t hBW) (al ((w1.alloc (.cells #[.pointer none, .pointer (some ⟨mb, 0, none⟩), .pointer (some ⟨w1.heap.size + 1, 0, none⟩)] 32)).alloc (.cells #[.pointer none, .int .i64 (ds.length : Int)] 34)) (.cells #[.pointer none, .pointer (some ⟨mb, 0, none⟩), .pointer (some ⟨w1.heap.size + 1, 0, none⟩)] 32))
          have hM2 := own_below (own_below hI.m hBW) (al ((w1.alloc (.cells #[.pointer none, .pointer (some ⟨mb, 0, none⟩), .pointer (some ⟨w1.heap.size + 1, 0, none⟩)] 32)).alloc (.cells #[.pointer none, .int .i64 (ds.length : Int)] 34)) (.cells #[.pointer none, .pointer (some ⟨mb, 0, none⟩), .pointer (some ⟨w1.heap.size + 1, 0, none⟩)] 32))
          have hR2 := own_below (own_below hI.r hBW) (al ((w1.alloc (.cells #[.pointer none, .pointer (some ⟨mb, 0, none⟩), .pointer (some ⟨w1.heap.size + 1, 0, none⟩)] 32)).alloc (.cells #[.pointer none, .int .i64 (ds.length : Int)] 34)) (.cells #[.pointer none, .pointer (some ⟨mb, 0, none⟩), .pointer (some ⟨w1.heap.size + 1, 0, none⟩)] 32))
          have hs1 := hB1.size
          have hb0 := hI.below.size
          have hTlt := hI.t.lt
          have hz1 : ((w1.alloc (.cells #[.pointer none, .pointer (some ⟨mb, 0, none⟩), .pointer (some ⟨w1.heap.size + 1, 0, none⟩)] 32)).alloc (.cells #[.pointer none, .int .i64 (ds.length : Int)] 34)).heap.size = w1.heap.size + 1 + 1 := by simp
          have hz2 : (((w1.alloc (.cells #[.pointer none, .pointer (some ⟨mb, 0, none⟩), .pointer (some ⟨w1.heap.size + 1, 0, none⟩)] 32)).alloc (.cells #[.pointer none, .int .i64 (ds.length : Int)] 34)).alloc (.cells #[.pointer none, .pointer (some ⟨mb, 0, none⟩), .pointer (some ⟨w1.heap.size + 1, 0, none⟩)] 32)).heap.size = w1.heap.size + 1 + 1 + 1 := by simp
          have hblk : ((w1.alloc (.cells #[.pointer none, .pointer (some ⟨mb, 0, none⟩), .pointer (some ⟨w1.heap.size + 1, 0, none⟩)] 32)).alloc (.cells #[.pointer none, .int .i64 (ds.length : Int)] 34)).heap[w1.heap.size]? = some (.cells #[.pointer none, .pointer (some ⟨mb, 0, none⟩), .pointer (some ⟨w1.heap.size + 1, 0, none⟩)] 32) := ((al (w1.alloc (.cells #[.pointer none, .pointer (some ⟨mb, 0, none⟩), .pointer (some ⟨w1.heap.size + 1, 0, none⟩)] 32)) (.cells #[.pointer none, .int .i64 (ds.length : Int)] 34)).block w1.heap.size (by simp)).trans (heap_alloc_new w1 (.cells #[.pointer none, .pointer (some ⟨mb, 0, none⟩), .pointer (some ⟨w1.heap.size + 1, 0, none⟩)] 32))
          have hblk2 := ((al ((w1.alloc (.cells #[.pointer none, .pointer (some ⟨mb, 0, none⟩), .pointer (some ⟨w1.heap.size + 1, 0, none⟩)] 32)).alloc (.cells #[.pointer none, .int .i64 (ds.length : Int)] 34)) (.cells #[.pointer none, .pointer (some ⟨mb, 0, none⟩), .pointer (some ⟨w1.heap.size + 1, 0, none⟩)] 32)).block w1.heap.size (by rw [hz1]; omega)).trans hblk
          have hfb : ∀ b, (some (w1.heap.size + 1) : Option Nat) = some b → ((w1.alloc (.cells #[.pointer none, .pointer (some ⟨mb, 0, none⟩), .pointer (some ⟨w1.heap.size + 1, 0, none⟩)] 32)).alloc (.cells #[.pointer none, .int .i64 (ds.length : Int)] 34)).heap[b]? = some (.cells #[.pointer none, .int .i64 (ds.length : Int)] 34 (0, 0)) := (fun b hb => by
            injection hb with hb
            subst hb
            have e9 : (w1.alloc (.cells #[.pointer none, .pointer (some ⟨mb, 0, none⟩), .pointer (some ⟨w1.heap.size + 1, 0, none⟩)] 32)).heap.size = w1.heap.size + 1 := by simp
            have h9 := heap_alloc_new (w1.alloc (.cells #[.pointer none, .pointer (some ⟨mb, 0, none⟩), .pointer (some ⟨w1.heap.size + 1, 0, none⟩)] 32)) (.cells #[.pointer none, .int .i64 (ds.length : Int)] 34)
            rw [e9] at h9
            exact h9)
          have HNW := hid (news3 ((w1.alloc (.cells #[.pointer none, .pointer (some ⟨mb, 0, none⟩), .pointer (some ⟨w1.heap.size + 1, 0, none⟩)] 32)).alloc (.cells #[.pointer none, .int .i64 (ds.length : Int)] 34)) (w1.heap.size + 1 + 1) hz1.symm (.pointer none) (.pointer (some ⟨mb, 0, none⟩)) (.pointer (some ⟨w1.heap.size + 1, 0, none⟩)) 32)
          have HW5 : Hid (w.heap.size ≤ (((w1.alloc (.cells #[.pointer none, .pointer (some ⟨mb, 0, none⟩), .pointer (some ⟨w1.heap.size + 1, 0, none⟩)] 32)).alloc (.cells #[.pointer none, .int .i64 (ds.length : Int)] 34)).alloc (.cells #[.pointer none, .pointer (some ⟨mb, 0, none⟩), .pointer (some ⟨w1.heap.size + 1, 0, none⟩)] 32)).heap.size) := by
            have : w.heap.size ≤ (((w1.alloc (.cells #[.pointer none, .pointer (some ⟨mb, 0, none⟩), .pointer (some ⟨w1.heap.size + 1, 0, none⟩)] 32)).alloc (.cells #[.pointer none, .int .i64 (ds.length : Int)] 34)).alloc (.cells #[.pointer none, .pointer (some ⟨mb, 0, none⟩), .pointer (some ⟨w1.heap.size + 1, 0, none⟩)] 32)).heap.size := by rw [hz2]; omega
            exact this
          have HT2 := hid hT2
          have HM2 := hid hM2
          have HR2 := hid hR2
          have HBW := hid hBW
          have HI := hid hI
          have HF := hid hf
          have HFB := hid hfb
          have HBL := hid hblk2
          have HTL := hid hTlt
          clear hT2 hM2 hR2 hBW hI hf HNk hz1 hz2 hblk hblk2 hfb hTlt
          go_wp2_with (at_builtin; go_must (refine wpList_append_own _ rfl (.tmp 37) (.tmp 39) 23 rfl w.heap.size 32 it (.agg #[.pointer none, .pointer none, .pointer none]) 3 24 Yba.underlying23 hti ht0 ht1 ht2 rfl (by decide) _ _ _ rfl (by exact HT2.out) ⟨w1.heap.size + 1 + 1, 0, none⟩ 1 1 [.pointer none, .pointer (some ⟨mb, 0, none⟩), .pointer (some ⟨w1.heap.size + 1, 0, none⟩)] rfl rfl (by exact HNW.out) (one3 _ _ _) (by unfold maxLen; omega) (by omega) (by exact HW5.out) ?_))
          intro T1 w3 hT3 gT _
          have hM3 := own_other HM2.out HT2.out (by decide) gT
          have hR3 := own_other HR2.out HT2.out (by decide) gT
          have hne : some w1.heap.size ≠ u3.ownBlock := fun e => by
            have := (HTL.out _ e.symm).2
            omega
          have hblk3 := keep_block gT HBL.out hne
          have hs3 := gT.size
          have hw5 := HW5.out
          have hw3 : w.heap.size ≤ w3.heap.size := by omega
          have hz3 : (w3.alloc (.cells #[.pointer (some ⟨mb, 0, none⟩)] 26)).heap.size = w3.heap.size + 1 := by simp
          have HM4 := hid (own_below hM3 (al w3 (.cells #[.pointer (some ⟨mb, 0, none⟩)] 26)))
          have HR4 := hid (own_below hR3 (al w3 (.cells #[.pointer (some ⟨mb, 0, none⟩)] 26)))
          have HN1 := hid (news1 w3 w3.heap.size rfl (.pointer (some ⟨mb, 0, none⟩)) 26)
          have HBL3 := hid (((al w3 (.cells #[.pointer (some ⟨mb, 0, none⟩)] 26)).block w1.heap.size (lt_of_heap hblk3)).trans hblk3)
          have HW6 : Hid (w.heap.size ≤ (w3.alloc (.cells #[.pointer (some ⟨mb, 0, none⟩)] 26)).heap.size) := by
            have : w.heap.size ≤ (w3.alloc (.cells #[.pointer (some ⟨mb, 0, none⟩)] 26)).heap.size := by rw [hz3]; omega
            exact this
          have GT := hid gT
          have HT3 := hid hT3
          clear hM3 hR3 hne hblk3 gT hT3 hs3 hw5 hz3
          go_wp2_with (at_builtin; go_must (refine wpList_append_own _ rfl (.tmp 41) (.tmp 43) 24 rfl w.heap.size 26 im (.pointer none) 1 8 Yba.underlying24 hmi hm0 hm1 hm2 rfl (by decide) _ _ _ rfl (by exact HM4.out) ⟨w3.heap.size, 0, none⟩ 1 1 [.pointer (some ⟨mb, 0, none⟩)] rfl rfl (by exact HN1.out) (one1 _) (by unfold maxLen; omega) (by omega) (by exact HW6.out) ?_))
          intro M1 w5 hM5 gM _
          have hR5 := own_other HR4.out HM4.out (by decide) gM
          have hblk5 := keep_block gM HBL3.out (ne_block HM4.out HBL3.out (by decide))
          have hc2 : w5.cell? ⟨w1.heap.size, 2, none⟩ = some (.pointer (some ⟨w1.heap.size + 1, 0, none⟩)) := by simp [World.cell?, hblk5]
          have hs5 := gM.size
          have hw6 := HW6.out
          have hw5 : w.heap.size ≤ w5.heap.size := by omega
          have hz5 : (w5.alloc (.cells #[.pointer (some ⟨w1.heap.size + 1, 0, none⟩)] 30)).heap.size = w5.heap.size + 1 := by simp
          have HR6 := hid (own_below hR5 (al w5 (.cells #[.pointer (some ⟨w1.heap.size + 1, 0, none⟩)] 30)))
          have HN2 := hid (news1 w5 w5.heap.size rfl (.pointer (some ⟨w1.heap.size + 1, 0, none⟩)) 30)
          have HW7 : Hid (w.heap.size ≤ (w5.alloc (.cells #[.pointer (some ⟨w1.heap.size + 1, 0, none⟩)] 30)).heap.size) := by
            have : w.heap.size ≤ (w5.alloc (.cells #[.pointer (some ⟨w1.heap.size + 1, 0, none⟩)] 30)).heap.size := by rw [hz5]; omega
            exact this
          have GM := hid gM
          have HM5 := hid hM5
          clear hR5 hblk5 hs5 hw6 hz5 gM hM5
          go_wp2_with (at_builtin; go_must (refine wpList_append_own _ rfl (.tmp 45) (.tmp 48) 25 rfl w.heap.size 30 ir (.pointer none) 1 8 Yba.underlying25 hri hr0 hr1 hr2 rfl (by decide) _ _ _ rfl (by exact HR6.out) ⟨w5.heap.size, 0, none⟩ 1 1 [.pointer (some ⟨w1.heap.size + 1, 0, none⟩)] rfl rfl (by exact HN2.out) (one1 _) (by unfold maxLen; omega) (by omega) (by exact HW7.out) ?_))
          intro R1 w7 hR7 gR _
          have HS := hid (Inv.step HI.out (mb, some (w1.heap.size + 1)) HBW.out HT3.out GT.out HM5.out GM.out hR7 gR HF.out.symm HFB.out)
          clear hR7 gR hc2
          go_wp2
          go_roundw
          case rel => exact ⟨ds ++ [(mb, some (w1.heap.size + 1))], by rw [List.length_append]; exact hlt, by rw [List.length_append]; go_num, HS.out⟩
          case measure => simp [intOf]; omega
    · have hne : n = ds.length := by omega
      subst hne
      obtain ⟨ta, tc, rfl, hTc⟩ := own_slice hI.t
      obtain ⟨ma, mc, rfl, hMc⟩ := own_slice hI.m
      obtain ⟨ra, rc, rfl, hRc⟩ := own_slice hI.r
      have H3 : Hid (Rows3 wr ds ta ma ra) := by
        refine (⟨?_, ?_, ?_⟩ : Rows3 wr ds ta ma ra)
        · rcases hTc with h | ⟨g, h1, _, h2, h3⟩
          · exact Or.inl h
          · exact Or.inr ⟨g, h1, h2, h3⟩
        · rcases hMc with h | ⟨g, h1, _, h2, h3⟩
          · exact Or.inl h
          · exact Or.inr ⟨g, h1, h2, fun j hj => h3 j (by omega)⟩
        · rcases hRc with h | ⟨g, h1, _, h2, h3⟩
          · exact Or.inl h
          · exact Or.inr ⟨g, h1, h2, fun j hj => h3 j (by omega)⟩
      have HI := hid hI
      have HA := hid ha
      have hFT := flaggedTier_any ta tc ds hn (wr.alloc (.cells #[.pointer none, .pointer none, .slice ta ds.length tc, .pointer none, .int .i64 0, .pointer none, .pointer none, .pointer none, .pointer none, .map none, .pointer none] 43)) (by
        rcases hTc with h | ⟨g, h1, _, h2, h3⟩
        · exact Or.inl h
        · exact Or.inr ⟨g, h1, by simp; omega, fun j hj => by rw [(al wr _).cell (p := ⟨g, j, none⟩) h2]; exact h3 j hj⟩)
      clear hTc hMc hRc hI ha HN
      go_wp2_with fail
      refine hFT.mono ?_
      rintro e w2 ⟨hR, hB2⟩
      obtain ⟨pm, pf, ok, rfl, hG⟩ := hR.got
      have hBr : Below wr.heap.size wr w2 := (al wr _).trans (hB2.mono (by simp))
      have HBr := hid hBr
      have HG := hid hG
      clear hR hB2 hFT hG hBr
      go_wp2
      have hBs : Below wr.heap.size wr (w2.alloc (.cells #[.pointer none, .pointer pm, .pointer pf] 32)) := HBr.out.alloc HBr.out.size _
      have HBs := hid hBs
      clear hBs
      go_loopw [60] (fun i wx => ∃ k, k ≤ ds.length ∧ i = .int .i64 (k : Nat) ∧ Below (w2.heap.size + 1) (w2.alloc (.cells #[.pointer none, .pointer pm, .pointer pf] 32)) wx) (fun i _ => ds.length - (intOf i).toNat)
      case atStart => exact ⟨0, Nat.zero_le _, rfl, Below.refl _ _⟩
      case round =>
        obtain ⟨k, hk2, rfl, hB⟩ := hrel
        have hBy := HBs.out.trans (hB.mono (by have := HBr.out.size; omega))
        have HB := hid hB
        have HBy := hid hBy
        clear hB hBy
        by_cases hlt : k < ds.length
        · obtain ⟨d, hd⟩ : ∃ d, ds[k]? = some d := ⟨ds[k], by simp⟩
          obtain ⟨g, m, r, rfl, rfl, rfl, c1, c2, c3, c4⟩ := H3.out.at HBy.out hd
          clear hd
          obtain ⟨dm, df⟩ := d
          have HQ2 := ptr_neq_same
          have HQ4 := p30_neq_same
          cases df with
          | none =>
            have hfp : fpt none = .pointer none := rfl
            rw [hfp] at c2 c4
            go_wp2
            go_quiet (fail)
            go_wp2
            go_roundw
            case rel => exact ⟨k + 1, hlt, by go_num, below_drewN HB.out _⟩
            case measure => simp [intOf]; omega
          | some b =>
            have hfp : fpt (some b) = .pointer (some ⟨b, 0, none⟩) := rfl
            rw [hfp] at c2 c4
            go_wp2
            go_quiet (fail)
            go_wp2
            go_roundw
            case rel => exact ⟨k + 1, hlt, by go_num, below_drewN HB.out _⟩
            case measure => simp [intOf]; omega
        · have hke : k = ds.length := by omega
          subst hke
          go_wp2
          have gc0 : wr.cell? ⟨w2.heap.size, 0, none⟩ = some (.pointer none) := by rw [HB.out.cell (p := ⟨w2.heap.size, 0, none⟩) (by simp)]; simp [go_sem]
          have gc1 : wr.cell? ⟨w2.heap.size, 1, none⟩ = some (.pointer pm) := by rw [HB.out.cell (p := ⟨w2.heap.size, 1, none⟩) (by simp)]; simp [go_sem]
          have gc2 : wr.cell? ⟨w2.heap.size, 2, none⟩ = some (.pointer pf) := by rw [HB.out.cell (p := ⟨w2.heap.size, 2, none⟩) (by simp)]; simp [go_sem]
          have HBw : Hid (Below w.heap.size w wr) := by
            have : Below w.heap.size w wr := HI.out.below.trans (HBy.out.mono HI.out.below.size)
            exact this
          go_loopw [14, 89] (fun wt i wx => ∃ k, k ≤ ds.length ∧ i = .int .i64 (k : Nat) ∧ wt = .int .i64 (-1) ∧ (∀ j, j < k → fl.getD j false = false) ∧ wx = wr) (fun _ i _ => ds.length - (intOf i).toNat)
          case atStart => exact ⟨0, Nat.zero_le _, rfl, rfl, (fun j hj => by omega), rfl⟩
          case round =>
            obtain ⟨q, hq, rfl, rfl, hz, rfl⟩ := hrel
            by_cases hlt : q < ds.length
            · obtain ⟨b, o, rfl, hck⟩ := flag_at HA.out HBw.out hlt
              cases hf : fl.getD q false
              · rw [hf] at hck
                have hz2 : Hid (∀ j, j < q + 1 → fl.getD j false = false) := by
                  intro j hj
                  rcases Nat.lt_or_ge j q with h1 | h1
                  · exact hz j h1
                  · rw [show j = q by omega]; exact hf
                clear hz hf
                go_wp2
                go_roundw
                case rel => exact ⟨q + 1, hlt, by go_num, rfl, hz2.out, trivial⟩
                case measure => simp [intOf]; omega
              · rw [hf] at hck
                obtain ⟨m, b9, hdk, rfl, rfl, rfl, hblk⟩ := got_some HI.out HG.out hlt hz hf
                obtain ⟨g, mm, r, rfl, rfl, rfl, c1, c2, c3, c4⟩ := H3.out.at HBy.out hdk
                have hfp : fpt (some b9) = .pointer (some ⟨b9, 0, none⟩) := rfl
                rw [hfp] at c2 c4
                have hd1 : wr.cell? ⟨b9, 1, none⟩ = some (.int .i64 (q : Int)) := by rw [HBy.out.cell (p := ⟨b9, 1, none⟩) (lt_of_heap hblk)]; simp [World.cell?, hblk]
                have HQ1 := ptr_same
                have HQ3 := p30_same
                clear hz hf hdk hblk c1 c2
                go_wp2
                go_quiet (fail)
                go_wp2
                go_ret
                exact ⟨rfl, below_drewN HBw.out _⟩
            · have hqe : q = ds.length := by omega
              subst hqe
              obtain ⟨rfl, rfl, rfl⟩ := got_none HI.out HG.out hz
              clear hz
              go_wp2
              go_ret
              exact ⟨rfl, HBw.out⟩
end Go.Proofs.Ybulkbqxy
