/-
  DERIVED. LawS3378BFirstFlagged, first part: the three rows that the law builds, in plain words; what an append keeps.
-/
import Derived.Test.YbulkbqxyWalks1
namespace Go.Proofs.Ybulkbqxy
open Go.RowKit

theorem i32 : (Yba.prog.info? 32).map (fun i => (i.zero, i.size, i.bytes)) = some (some (.agg #[.pointer none, .pointer none, .pointer none]), 3, 24) := by kernel_rfl
theorem i26 : (Yba.prog.info? 26).map (fun i => (i.zero, i.size, i.bytes)) = some (some (.pointer none), 1, 8) := by kernel_rfl
theorem i30 : (Yba.prog.info? 30).map (fun i => (i.zero, i.size, i.bytes)) = some (some (.pointer none), 1, 8) := by kernel_rfl

/-- a pointer to a block, or nil. -/
def fpt (o : Option Nat) : Value := .pointer (o.map fun b => ⟨b, 0, none⟩)
def tcell (d : Nat × Option Nat) : List Value := [.pointer none, .pointer (some ⟨d.1, 0, none⟩), fpt d.2]
def tcells (ds : List (Nat × Option Nat)) : List Value := ds.flatMap tcell
def mcells (ds : List (Nat × Option Nat)) : List Value := ds.map fun d => .pointer (some ⟨d.1, 0, none⟩)
def rcells (ds : List (Nat × Option Nat)) : List Value := ds.map fun d => fpt d.2
theorem tcells_snoc (ds : List (Nat × Option Nat)) (d : Nat × Option Nat) : tcells (ds ++ [d]) = tcells ds ++ tcell d := by simp [tcells]
theorem mcells_snoc (ds : List (Nat × Option Nat)) (d : Nat × Option Nat) : mcells (ds ++ [d]) = mcells ds ++ [.pointer (some ⟨d.1, 0, none⟩)] := by simp [mcells]
theorem rcells_snoc (ds : List (Nat × Option Nat)) (d : Nat × Option Nat) : rcells (ds ++ [d]) = rcells ds ++ [fpt d.2] := by simp [rcells]

theorem grown_of_below {w w' : World} (h : Below w.heap.size w w') : w.grownBy w' none := ⟨h.os, h.tape, h.output, h.size, fun k hk _ => h.block k hk⟩
theorem own_below {w w' : World} {B e s n : Nat} {v : Value} {xs : List Value} (h : w.ownsRow B e s v n xs) (hB : Below w.heap.size w w') : w'.ownsRow B e s v n xs := by
  refine h.kept (grown_of_below hB) ?_
  cases hv : v.ownBlock with
  | none => exact Or.inl rfl
  | some g => exact Or.inr (fun e => by cases e)

/-- the block of an owned row bears the row's type. -/
theorem own_block {w : World} {B e s n g : Nat} {v : Value} {xs : List Value} (h : w.ownsRow B e s v n xs) (hv : v.ownBlock = some g) : ∃ cur, w.heap[g]? = some (.cells cur e (0, 0)) := by
  rcases h.2 with ⟨rfl, _⟩ | ⟨g', cap, cur, rfl, _, hg, _⟩
  · cases hv
  · simp only [Value.ownBlock, Option.some.injEq] at hv
    subst hv
    exact ⟨cur, hg⟩
theorem ne_block {w : World} {B e s n b t : Nat} {v : Value} {xs : List Value} {c : Array Value} {z : Nat × Nat} (h : w.ownsRow B e s v n xs) (hb : w.heap[b]? = some (.cells c t z)) (hne : t ≠ e) : some b ≠ v.ownBlock := by
  intro e1
  obtain ⟨cur, hc⟩ := own_block h e1.symm
  rw [hb] at hc
  injection hc with hc
  injection hc with _ h2 _
  exact hne h2
theorem own_other {w w' : World} {B e s n e' s' m : Nat} {v u : Value} {xs ys : List Value} (h : w.ownsRow B e s v n xs) (hu : w.ownsRow B e' s' u m ys) (hne : e ≠ e') (hg : w.grownBy w' u.ownBlock) : w'.ownsRow B e s v n xs := by
  refine h.kept hg ?_
  cases hv : v.ownBlock with
  | none => exact Or.inl rfl
  | some g =>
    right
    obtain ⟨cur, hc⟩ := own_block h hv
    exact ne_block hu hc hne
/-- blocks of FlagRules stay as they are. -/
def K34 (w w' : World) : Prop := ∀ (b : Nat) (c : Array Value), w.heap[b]? = some (.cells c 34 (0, 0)) → w'.heap[b]? = some (.cells c 34 (0, 0))
theorem K34.trans {a b c : World} (h : K34 a b) (k : K34 b c) : K34 a c := fun x y z => k x y (h x y z)
theorem k34_below {w w' : World} (h : Below w.heap.size w w') : K34 w w' := fun b c hb => by rw [h.block b (lt_of_heap hb)]; exact hb
theorem keep_block {w w' : World} {row : Option Nat} {b : Nat} {o : Obj} (hg : w.grownBy w' row) (hb : w.heap[b]? = some o) (hne : some b ≠ row) : w'.heap[b]? = some o := by
  rw [hg.block b (lt_of_heap hb) hne]; exact hb
theorem k34_grown {w w' : World} {B e s m : Nat} {u : Value} {ys : List Value} (hu : w.ownsRow B e s u m ys) (hne : 34 ≠ e) (hg : w.grownBy w' u.ownBlock) : K34 w w' := fun _ _ hb =>
  keep_block hg hb (ne_block hu hb hne)

/-- the state behind k rounds of the first loop. -/
structure Inv (w0 wr : World) (fl : List Bool) (ds : List (Nat × Option Nat)) (T M R : Value) : Prop where
  t : wr.ownsRow w0.heap.size 32 3 T ds.length (tcells ds)
  m : wr.ownsRow w0.heap.size 26 1 M ds.length (mcells ds)
  r : wr.ownsRow w0.heap.size 30 1 R ds.length (rcells ds)
  f : ∀ j d, ds[j]? = some d → d.2.isSome = fl.getD j false ∧ ∀ b, d.2 = some b → wr.heap[b]? = some (.cells #[.pointer none, .int .i64 (j : Int)] 34 (0, 0))
  below : Below w0.heap.size w0 wr

/-- the relation over one round: three appends, a block after another. -/
theorem Inv.step {w0 wr w1 w3 w5 w7 : World} {fl : List Bool} {ds : List (Nat × Option Nat)} {T M R T' M' R' : Value} {o2 o4 o6 : Obj} (h : Inv w0 wr fl ds T M R) (d : Nat × Option Nat)
    (hB1 : Below wr.heap.size wr w1)
    (hT : w3.ownsRow w0.heap.size 32 3 T' (ds.length + 1) (tcells ds ++ tcell d)) (gT : (w1.alloc o2).grownBy w3 T.ownBlock)
    (hM : w5.ownsRow w0.heap.size 26 1 M' (ds.length + 1) (mcells ds ++ [.pointer (some ⟨d.1, 0, none⟩)])) (gM : (w3.alloc o4).grownBy w5 M.ownBlock)
    (hR : w7.ownsRow w0.heap.size 30 1 R' (ds.length + 1) (rcells ds ++ [fpt d.2])) (gR : (w5.alloc o6).grownBy w7 R.ownBlock)
    (hd : d.2.isSome = fl.getD ds.length false) (hf : ∀ b, d.2 = some b → w1.heap[b]? = some (.cells #[.pointer none, .int .i64 (ds.length : Int)] 34 (0, 0))) :
    Inv w0 w7 fl (ds ++ [d]) T' M' R' := by
  have al : ∀ (w : World) (o : Obj), Below w.heap.size w (w.alloc o) := fun w o => (Below.refl _ w).alloc (Nat.le_refl _) o
  have t2 := own_below (own_below h.t hB1) (al w1 o2)
  have m2 := own_below (own_below h.m hB1) (al w1 o2)
  have r2 := own_below (own_below h.r hB1) (al w1 o2)
  have m4 := own_below (own_other m2 t2 (by decide) gT) (al w3 o4)
  have r4 := own_below (own_other r2 t2 (by decide) gT) (al w3 o4)
  have t4 := own_below hT (al w3 o4)
  have r6 := own_below (own_other r4 m4 (by decide) gM) (al w5 o6)
  have t6 := own_below (own_other t4 m4 (by decide) gM) (al w5 o6)
  have m6 := own_below hM (al w5 o6)
  have k1 : K34 w1 w7 := (k34_below (al w1 o2)).trans ((k34_grown t2 (by decide) gT).trans ((k34_below (al w3 o4)).trans ((k34_grown m4 (by decide) gM).trans ((k34_below (al w5 o6)).trans (k34_grown r6 (by decide) gR)))))
  have b1 : Below w0.heap.size w0 w1 := h.below.trans (hB1.mono h.below.size)
  have b2 : Below w0.heap.size w0 (w1.alloc o2) := b1.alloc b1.size o2
  have b3 : Below w0.heap.size w0 w3 := b2.grown gT b2.size (fun k hk => (h.t.lt k hk).1)
  have b4 : Below w0.heap.size w0 (w3.alloc o4) := b3.alloc b3.size o4
  have b5 : Below w0.heap.size w0 w5 := b4.grown gM b4.size (fun k hk => (h.m.lt k hk).1)
  have b6 : Below w0.heap.size w0 (w5.alloc o6) := b5.alloc b5.size o6
  have b7 : Below w0.heap.size w0 w7 := b6.grown gR b6.size (fun k hk => (h.r.lt k hk).1)
  refine ⟨?_, ?_, ?_, fun j x hj => ?_, b7⟩
  · rw [tcells_snoc, List.length_append]; exact own_other t6 r6 (by decide) gR
  · rw [mcells_snoc, List.length_append]; exact own_other m6 r6 (by decide) gR
  · rw [rcells_snoc, List.length_append]; exact hR
  · rcases Nat.lt_or_ge j ds.length with hlt | hge
    · rw [List.getElem?_append_left hlt] at hj
      have := h.f j x hj
      exact ⟨this.1, fun b hb => k1 b _ (k34_below hB1 b _ (this.2 b hb))⟩
    · rw [List.getElem?_append_right hge] at hj
      have hj0 : j - ds.length = 0 := by
        rcases Nat.eq_zero_or_pos (j - ds.length) with h0 | h0
        · exact h0
        · rw [List.getElem?_eq_none (by simp; omega)] at hj; cases hj
      have hje : j = ds.length := by omega
      rw [hj0] at hj
      simp only [List.getElem?_cons_zero, Option.some.injEq] at hj
      subst hj
      subst hje
      exact ⟨hd, fun b hb => k1 b _ (hf b hb)⟩

/-- an owned row's value is a slice; where it holds anything, at the head of a block. -/
theorem own_slice {w : World} {B e s n : Nat} {v : Value} {xs : List Value} (h : w.ownsRow B e s v n xs) :
    ∃ a cap, v = .slice a n cap ∧ (n = 0 ∨ ∃ g, a = some ⟨g, 0, none⟩ ∧ B ≤ g ∧ g < w.heap.size ∧ ∀ j, j < n * s → w.cell? ⟨g, j, none⟩ = xs[j]?) := by
  rcases h.2 with ⟨rfl, h0⟩ | ⟨g, cap, cur, rfl, hb, hg, hnc, hcm, hcs, htake⟩
  · subst h0
    exact ⟨none, 0, rfl, Or.inl rfl⟩
  · refine ⟨_, cap, rfl, Or.inr ⟨g, rfl, hb, lt_of_heap hg, fun j hj => ?_⟩⟩
    rw [← htake, List.getElem?_take_of_lt hj]
    simp [World.cell?, hg]
theorem tcells_len (ds : List (Nat × Option Nat)) : (tcells ds).length = ds.length * 3 := by
  induction ds with
  | nil => rfl
  | cons d r ih =>
    have e : tcells (d :: r) = tcell d ++ tcells r := rfl
    rw [e, List.length_append, ih, List.length_cons]
    have : (tcell d).length = 3 := rfl
    omega
theorem tcells_at (ds : List (Nat × Option Nat)) (i : Nat) (d : Nat × Option Nat) (h : ds[i]? = some d) :
    (tcells ds)[i * 3]? = some (.pointer none) ∧ (tcells ds)[i * 3 + 1]? = some (.pointer (some ⟨d.1, 0, none⟩)) ∧ (tcells ds)[i * 3 + 2]? = some (fpt d.2) := by
  induction ds generalizing i with
  | nil => simp at h
  | cons c r ih =>
    have e : tcells (c :: r) = tcell c ++ tcells r := rfl
    have hl : (tcell c).length = 3 := rfl
    cases i with
    | zero =>
      simp only [List.getElem?_cons_zero, Option.some.injEq] at h
      subst h
      exact ⟨rfl, rfl, rfl⟩
    | succ i =>
      rw [List.getElem?_cons_succ] at h
      obtain ⟨h1, h2, h3⟩ := ih i h
      rw [e]
      refine ⟨?_, ?_, ?_⟩
      · rw [List.getElem?_append_right (by rw [hl]; omega), hl, show (i + 1) * 3 - 3 = i * 3 by omega]; exact h1
      · rw [List.getElem?_append_right (by rw [hl]; omega), hl, show (i + 1) * 3 + 1 - 3 = i * 3 + 1 by omega]; exact h2
      · rw [List.getElem?_append_right (by rw [hl]; omega), hl, show (i + 1) * 3 + 2 - 3 = i * 3 + 2 by omega]; exact h3
end Go.Proofs.Ybulkbqxy
