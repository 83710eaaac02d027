/-
  DERIVED. THE WALKS, third part: timeError, parseTime.
-/
import Derived.Test.YbulkbqwiFmtFmt
import Derived.Laws.BytesArg
namespace Go.Proofs.YbulkbqwiFmt
open Go.RowKit M
open Go.Extern.Stop Go.Stop Go.Extern

/-- a new error of errors' make lies behind the call. -/
def NewErr (w : World) (e : Ending) (w' : World) : Prop := ∃ k t, e = .returned (.iface 50 (.pointer (some ⟨k, 0, none⟩))) ∧ w'.cell? ⟨k, 0, none⟩ = some (.string t) ∧ k < w'.heap.size ∧ Below w.heap.size w w'
theorem NewErr.of {w w2 : World} {o : Obj} {t : ByteArray} (h1 : w2.cell? ⟨(w.alloc o).heap.size, 0, none⟩ = some (.string t)) (h2 : (w.alloc o).heap.size < w2.heap.size) (h3 : Below (w.alloc o).heap.size (w.alloc o) w2) :
    NewErr w (.returned (.iface 50 (.pointer (some ⟨w.heap.size + 1, 0, none⟩)))) w2 := by
  have e : (w.alloc o).heap.size = w.heap.size + 1 := by simp
  rw [e] at h1 h2
  exact ⟨_, t, rfl, h1, h2, ((Below.refl _ w).alloc (Nat.le_refl _) o).trans (h3.mono (by simp))⟩

set_option maxHeartbeats 400000 in
theorem timeError_zero (F : Interp) (l : List UInt8) (n : Nat) (h1 : 1 < n) (hl : l.length = n) (h0 : bt l 0 = 48) (b o cap : Nat) (w : World) (hF : F.answers w.tape)
    (hc : ∀ j, j < n → w.cell? ⟨b, o + j, none⟩ = some (.int .u8 (bt l j : Int))) :
    Calls Ybaf.prog 28 #[.slice (some ⟨b, o, none⟩) n cap] w fun e w' => NewErr w e w' := by
  have hcv := conv_run w b o cap n l hl hc
  have hc0 : w.cell? ⟨b, o, none⟩ = some (.int .u8 48) := by have := hc 0 (by omega); rw [h0] at this; exact this
  clear hc hl h0
  go_enter Ybaf.func28, Ybaf.ntmps28
  go_wp2_with (go_at_call 18; refine (errorf_A F _ ⟨l.toArray⟩ _ (by exact hF) (by go_simp)).mono ?_; rintro e w2 ⟨t, rfl, g1, g2, g3⟩)
  go_ret
  exact NewErr.of g1 g2 g3
theorem bt_take (l : List UInt8) (k j : Nat) (h : j < k) : bt (l.take k) j = bt l j := by
  unfold bt; simp [List.getD, List.getElem?_take_of_lt h]

set_option maxHeartbeats 800000 in
theorem timeError_rest (F : Interp) (l : List UInt8) (n : Nat) (h1 : 1 ≤ n) (hn : n ≤ 1024) (hl : l.length = n) (h0 : n = 1 ∨ bt l 0 ≠ 48) (b o cap : Nat) (hcap : n ≤ cap) (w : World) (hF : F.answers w.tape)
    (hc : ∀ j, j < n → w.cell? ⟨b, o + j, none⟩ = some (.int .u8 (bt l j : Int))) :
    Calls Ybaf.prog 28 #[.slice (some ⟨b, o, none⟩) n cap] w fun e w' => NewErr w e w' := by
  have hcv := conv_run w b o cap n l hl hc
  have HP : ∀ k c, k ≤ n → Calls Ybaf.prog 34 #[.slice (some ⟨b, o, none⟩) k c] w fun e w' => e = .returned (.bool (pastB (l.take k))) ∧ w' = w := by
    intro k c hk
    refine past_any (l.take k) k (by rw [List.length_take]; omega) b o c w (fun j hj => ?_)
    rw [bt_take l k j hj]; exact hc j (by omega)
  have hc0 : w.cell? ⟨b, o, none⟩ = some (.int .u8 (bt l 0 : Int)) := hc 0 (by omega)
  have hcap0 : ¬ cap = 0 := by omega
  have HL : Hid (l.length = n) := hl
  clear hl
  have h00 : n ≤ 1 ∨ ((bt l 0 : Int) == 48) = false := by
    rcases h0 with h | h
    · left; omega
    · right; simp; omega
  clear h0
  by_cases hn1 : 1 < n
  · have h01 : ((bt l 0 : Int) == 48) = false := by
      rcases h00 with h | h
      · omega
      · exact h
    clear h00
    go_enter Ybaf.func28, Ybaf.ntmps28
    go_wp2
    clear hc0 h01
    go_loop [3] (fun i => ∃ k : Nat, k ≤ n ∧ i = .int .i64 k) (fun i => n - (intOf i).toNat)
    case atStart => exact ⟨0, by omega, rfl⟩
    case round =>
      obtain ⟨k, hk, rfl⟩ := hrel
      by_cases hlt : k < n
      · have hck := hc k hlt
        by_cases c1 : 48 ≤ (bt l k : Int)
        · by_cases c2 : (bt l k : Int) ≤ 57
          · go_wp2
            go_round
            case rel => exact ⟨k + 1, by omega, by go_num⟩
            case measure => simp [intOf]; omega
          · cases hp : pastB (l.take k)
            · go_wp2_with (first | (go_at_call 34; refine (HP k _ hk).mono ?_; rintro e w2 ⟨rfl, rfl⟩) | (go_at_call 18; refine (errorf_C F _ ⟨l.toArray⟩ _ (by exact hF) (by go_simp)).mono ?_; rintro e w2 ⟨t, rfl, g1, g2, g3⟩))
              go_ret
              exact NewErr.of g1 g2 g3
            · go_wp2_with (first | (go_at_call 34; refine (HP k _ hk).mono ?_; rintro e w2 ⟨rfl, rfl⟩) | (go_at_call 18; refine (errorf_B F _ ⟨l.toArray⟩ _ (by exact hF) (by go_simp)).mono ?_; rintro e w2 ⟨t, rfl, g1, g2, g3⟩))
              go_ret
              exact NewErr.of g1 g2 g3
        · cases hp : pastB (l.take k)
          · go_wp2_with (first | (go_at_call 34; refine (HP k _ hk).mono ?_; rintro e w2 ⟨rfl, rfl⟩) | (go_at_call 18; refine (errorf_C F _ ⟨l.toArray⟩ _ (by exact hF) (by go_simp)).mono ?_; rintro e w2 ⟨t, rfl, g1, g2, g3⟩))
            go_ret
            exact NewErr.of g1 g2 g3
          · go_wp2_with (first | (go_at_call 34; refine (HP k _ hk).mono ?_; rintro e w2 ⟨rfl, rfl⟩) | (go_at_call 18; refine (errorf_B F _ ⟨l.toArray⟩ _ (by exact hF) (by go_simp)).mono ?_; rintro e w2 ⟨t, rfl, g1, g2, g3⟩))
            go_ret
            exact NewErr.of g1 g2 g3
      · cases hp : pastB (l.take k)
        · go_wp2_with (first | (go_at_call 34; refine (HP k _ hk).mono ?_; rintro e w2 ⟨rfl, rfl⟩) | (go_at_call 18; refine (errorf_C F _ ⟨l.toArray⟩ _ (by exact hF) (by go_simp)).mono ?_; rintro e w2 ⟨t, rfl, g1, g2, g3⟩))
          go_ret
          exact NewErr.of g1 g2 g3
        · go_wp2_with (first | (go_at_call 34; refine (HP k _ hk).mono ?_; rintro e w2 ⟨rfl, rfl⟩) | (go_at_call 18; refine (errorf_B F _ ⟨l.toArray⟩ _ (by exact hF) (by go_simp)).mono ?_; rintro e w2 ⟨t, rfl, g1, g2, g3⟩))
          go_ret
          exact NewErr.of g1 g2 g3
  · clear h00
    go_enter Ybaf.func28, Ybaf.ntmps28
    go_wp2
    clear hc0
    go_loop [3] (fun i => ∃ k : Nat, k ≤ n ∧ i = .int .i64 k) (fun i => n - (intOf i).toNat)
    case atStart => exact ⟨0, by omega, rfl⟩
    case round =>
      obtain ⟨k, hk, rfl⟩ := hrel
      by_cases hlt : k < n
      · have hck := hc k hlt
        by_cases c1 : 48 ≤ (bt l k : Int)
        · by_cases c2 : (bt l k : Int) ≤ 57
          · go_wp2
            go_round
            case rel => exact ⟨k + 1, by omega, by go_num⟩
            case measure => simp [intOf]; omega
          · cases hp : pastB (l.take k)
            · go_wp2_with (first | (go_at_call 34; refine (HP k _ hk).mono ?_; rintro e w2 ⟨rfl, rfl⟩) | (go_at_call 18; refine (errorf_C F _ ⟨l.toArray⟩ _ (by exact hF) (by go_simp)).mono ?_; rintro e w2 ⟨t, rfl, g1, g2, g3⟩))
              go_ret
              exact NewErr.of g1 g2 g3
            · go_wp2_with (first | (go_at_call 34; refine (HP k _ hk).mono ?_; rintro e w2 ⟨rfl, rfl⟩) | (go_at_call 18; refine (errorf_B F _ ⟨l.toArray⟩ _ (by exact hF) (by go_simp)).mono ?_; rintro e w2 ⟨t, rfl, g1, g2, g3⟩))
              go_ret
              exact NewErr.of g1 g2 g3
        · cases hp : pastB (l.take k)
          · go_wp2_with (first | (go_at_call 34; refine (HP k _ hk).mono ?_; rintro e w2 ⟨rfl, rfl⟩) | (go_at_call 18; refine (errorf_C F _ ⟨l.toArray⟩ _ (by exact hF) (by go_simp)).mono ?_; rintro e w2 ⟨t, rfl, g1, g2, g3⟩))
            go_ret
            exact NewErr.of g1 g2 g3
          · go_wp2_with (first | (go_at_call 34; refine (HP k _ hk).mono ?_; rintro e w2 ⟨rfl, rfl⟩) | (go_at_call 18; refine (errorf_B F _ ⟨l.toArray⟩ _ (by exact hF) (by go_simp)).mono ?_; rintro e w2 ⟨t, rfl, g1, g2, g3⟩))
            go_ret
            exact NewErr.of g1 g2 g3
      · cases hp : pastB (l.take k)
        · go_wp2_with (first | (go_at_call 34; refine (HP k _ hk).mono ?_; rintro e w2 ⟨rfl, rfl⟩) | (go_at_call 18; refine (errorf_C F _ ⟨l.toArray⟩ _ (by exact hF) (by go_simp)).mono ?_; rintro e w2 ⟨t, rfl, g1, g2, g3⟩))
          go_ret
          exact NewErr.of g1 g2 g3
        · go_wp2_with (first | (go_at_call 34; refine (HP k _ hk).mono ?_; rintro e w2 ⟨rfl, rfl⟩) | (go_at_call 18; refine (errorf_B F _ ⟨l.toArray⟩ _ (by exact hF) (by go_simp)).mono ?_; rintro e w2 ⟨t, rfl, g1, g2, g3⟩))
          go_ret
          exact NewErr.of g1 g2 g3

theorem conv_empty (w : World) (a : Option Addr) (cap : Nat) : (convert 22 9 (.slice a 0 cap)).run Ybaf.prog w = .ok (.string ⟨#[]⟩) w := by
  cases a with
  | none => exact run_convert_bytes_nil w 22 5 Ybaf.underlying22 Ybaf.underlying5 0 cap 9 Ybaf.underlying9
  | some a => exact run_convert_bytes_back (P := Ybaf.prog) w 22 9 5 a cap [] Ybaf.underlying22 Ybaf.underlying5 Ybaf.underlying9 (fun j hj => by simp at hj)

set_option maxHeartbeats 800000 in
theorem timeError_empty (F : Interp) (a : Option Addr) (cap : Nat) (ha : a = none → cap = 0) (w : World) (hF : F.answers w.tape) :
    Calls Ybaf.prog 28 #[.slice a 0 cap] w fun e w' => NewErr w e w' := by
  have hcv := conv_empty w a cap
  have HP : ∀ a c, Calls Ybaf.prog 34 #[.slice a 0 c] w fun e w' => e = .returned (.bool false) ∧ w' = w := fun a c => past_no a 0 c (by omega) w
  cases a with
  | none =>
    have hz := ha rfl
    subst hz
    clear ha
    go_enter Ybaf.func28, Ybaf.ntmps28
    go_wp2
    go_loop [3] (fun i => i = .int .i64 0) (fun _ => 0)
    case atStart => rfl
    case round =>
      subst hrel
      go_wp2_with (first | (go_at_call 34; refine (HP _ _).mono ?_; rintro e w2 ⟨rfl, rfl⟩) | (go_at_call 18; refine (errorf_C F _ ⟨#[]⟩ _ (by exact hF) (by go_simp)).mono ?_; rintro e w2 ⟨t, rfl, g1, g2, g3⟩))
      go_ret
      exact NewErr.of g1 g2 g3
  | some a =>
    clear ha
    go_enter Ybaf.func28, Ybaf.ntmps28
    go_wp2
    go_loop [3] (fun i => i = .int .i64 0) (fun _ => 0)
    case atStart => rfl
    case round =>
      subst hrel
      go_wp2_with (first | (go_at_call 34; refine (HP _ _).mono ?_; rintro e w2 ⟨rfl, rfl⟩) | (go_at_call 18; refine (errorf_C F _ ⟨#[]⟩ _ (by exact hF) (by go_simp)).mono ?_; rintro e w2 ⟨t, rfl, g1, g2, g3⟩))
      go_ret
      exact NewErr.of g1 g2 g3

theorem timeError_any (F : Interp) (l : List UInt8) (n : Nat) (h1 : 1 ≤ n) (hn : n ≤ 1024) (hl : l.length = n) (b o cap : Nat) (hcap : n ≤ cap) (w : World) (hF : F.answers w.tape)
    (hc : ∀ j, j < n → w.cell? ⟨b, o + j, none⟩ = some (.int .u8 (bt l j : Int))) :
    Calls Ybaf.prog 28 #[.slice (some ⟨b, o, none⟩) n cap] w fun e w' => NewErr w e w' := by
  by_cases h : 1 < n ∧ bt l 0 = 48
  · exact timeError_zero F l n h.1 hl h.2 b o cap w hF hc
  · exact timeError_rest F l n h1 hn hl (by omega) b o cap hcap w hF hc

/-- what parseTime hands back for the bytes l. -/
def PT (l : List UInt8) (w : World) (e : Ending) (w' : World) : Prop :=
  (okB l = true ∧ e = .returned (.tuple #[.int .u64 (val l : Int), .nilIface]) ∧ Below w.heap.size w w') ∨
  (okB l = false ∧ ∃ k t, e = .returned (.tuple #[.int .u64 0, .iface 50 (.pointer (some ⟨k, 0, none⟩))]) ∧ w'.cell? ⟨k, 0, none⟩ = some (.string t) ∧ k < w'.heap.size ∧ Below w.heap.size w w')

set_option maxHeartbeats 400000 in
theorem parseTime_empty (F : Interp) (a : Option Addr) (cap : Nat) (ha : a = none → cap = 0) (w : World) (hF : F.answers w.tape) :
    Calls Ybaf.prog 19 #[.slice a 0 cap] w fun e w' => PT [] w e w' := by
  have HT := timeError_empty F a cap ha w hF
  clear ha
  go_enter Ybaf.func19, Ybaf.ntmps19
  go_wp2_with (first | (go_at_call 27; refine (dec_empty a cap _).mono ?_; rintro e w2 ⟨rfl, rfl⟩) | (go_at_call 28; refine HT.mono ?_; rintro e w2 ⟨k, t, rfl, g1, g2, g3⟩))
  go_ret2
  exact Or.inr ⟨rfl, k, t, rfl, g1, g2, g3⟩

theorem ok_lead (l : List UInt8) (n : Nat) (hl : l.length = n) (h : 1 < n) (h0 : bt l 0 = 48) : okB l = false := by
  rw [ok_iff]
  have : (l.getD 0 0 == 48) = true := by
    rw [beq_iff_eq, ← UInt8.toNat_inj]; exact h0
  rw [this, hl, decide_eq_true h]; simp
theorem ok_nolead (l : List UInt8) (n : Nat) (hl : l.length = n) (h : ¬ (1 < n ∧ bt l 0 = 48)) : okB l = okD l := by
  rw [ok_iff]
  have : (decide (1 < l.length) && l.getD 0 0 == 48) = false := by
    rw [hl]
    cases hd : decide (1 < n) with
    | false => rfl
    | true =>
      cases he : (l.getD 0 0 == 48) with
      | false => rfl
      | true =>
        rw [beq_iff_eq, ← UInt8.toNat_inj] at he
        exact absurd ⟨of_decide_eq_true hd, he⟩ h
  rw [this]; simp

set_option maxHeartbeats 400000 in
theorem parseTime_any (F : Interp) (l : List UInt8) (n : Nat) (h1 : 1 ≤ n) (hn : n ≤ 1024) (hl : l.length = n) (b o cap : Nat) (hcap : n ≤ cap) (w : World) (hb : b < w.heap.size) (hF : F.answers w.tape)
    (hc : ∀ j, j < n → w.cell? ⟨b, o + j, none⟩ = some (.int .u8 (bt l j : Int))) :
    Calls Ybaf.prog 19 #[.slice (some ⟨b, o, none⟩) n cap] w fun e w' => PT l w e w' := by
  have HD := decimalValue_any l n h1 hl b o cap hcap w hb hc
  have HT : ∀ w', Below w.heap.size w w' → Calls Ybaf.prog 28 #[.slice (some ⟨b, o, none⟩) n cap] w' fun e w'' => NewErr w e w'' := by
    intro w' hB
    refine (timeError_any F l n h1 hn hl b o cap hcap w' (by rw [hB.tape]; exact hF) (cells_below hB hb hc)).mono ?_
    rintro e w'' ⟨k, t, he, g1, g2, g3⟩
    exact ⟨k, t, he, g1, g2, hB.trans (g3.mono hB.size)⟩
  have HC0 : ∀ w', Below w.heap.size w w' → w'.cell? ⟨b, o, none⟩ = some (.int .u8 (bt l 0 : Int)) := fun w' hB => cells_below hB hb hc 0 (by omega)
  by_cases hz : 1 < n ∧ bt l 0 = 48
  · have HO : Hid (okB l = false) := ok_lead l n hl hz.1 hz.2
    obtain ⟨hz1, hz2⟩ := hz
    rw [hz2] at HC0
    clear hc hl hz2
    cases hd : okD l
    · rw [hd] at HD
      go_enter Ybaf.func19, Ybaf.ntmps19
      go_wp2_with (first | (go_at_call 27; refine HD.mono ?_; rintro e w2 ⟨v, rfl, hv, hB⟩) | (go_at_call 28; refine (HT _ hB).mono ?_; rintro e w3 ⟨k, t, rfl, g1, g2, g3⟩))
      go_ret2
      exact Or.inr ⟨HO.out, k, t, rfl, g1, g2, g3⟩
    · rw [hd] at HD
      go_enter Ybaf.func19, Ybaf.ntmps19
      go_wp2_with (go_at_call 27; refine HD.mono ?_; rintro e w2 ⟨v, rfl, hv, hB⟩; have hc0 := HC0 _ hB)
      refine (HT _ hB).mono ?_
      rintro e w3 ⟨k, t, rfl, g1, g2, g3⟩
      go_wp2
      go_ret2
      exact Or.inr ⟨HO.out, k, t, rfl, g1, g2, g3⟩
  · have HO : Hid (okB l = okD l) := ok_nolead l n hl hz
    clear hc hl
    cases hd : okD l
    · rw [hd] at HD
      have HO2 : Hid (okB l = false) := HO.out.trans hd
      go_enter Ybaf.func19, Ybaf.ntmps19
      go_wp2_with (first | (go_at_call 27; refine HD.mono ?_; rintro e w2 ⟨v, rfl, hv, hB⟩) | (go_at_call 28; refine (HT _ hB).mono ?_; rintro e w3 ⟨k, t, rfl, g1, g2, g3⟩))
      go_ret2
      exact Or.inr ⟨HO2.out, k, t, rfl, g1, g2, g3⟩
    · rw [hd] at HD
      have HO2 : Hid (okB l = true) := HO.out.trans hd
      by_cases hn1 : 1 < n
      · have h0 : ((bt l 0 : Int) == 48) = false := by
          simp
          omega
        go_enter Ybaf.func19, Ybaf.ntmps19
        go_wp2_with (go_at_call 27; refine HD.mono ?_; rintro e w2 ⟨v, rfl, hv, hB⟩; have hv' := hv rfl; subst hv'; have hc0 := HC0 _ hB)
        go_ret2
        exact Or.inl ⟨HO2.out, rfl, hB⟩
      · go_enter Ybaf.func19, Ybaf.ntmps19
        go_wp2_with (go_at_call 27; refine HD.mono ?_; rintro e w2 ⟨v, rfl, hv, hB⟩; have hv' := hv rfl; subst hv')
        go_ret2
        exact Or.inl ⟨HO2.out, rfl, hB⟩
end Go.Proofs.YbulkbqwiFmt
