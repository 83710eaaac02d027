/-
  DERIVED. THE WALKS, fourth part: the two models (zz_law_s3375c.go, zz_law_s3375b.go).
-/
import Derived.Test.YbulkbqwiFmtWalks3
namespace Go.Proofs.YbulkbqwiFmt
open Go.RowKit M
open Go.Extern.Stop Go.Stop Go.Extern

/-! the model's loop, in plain words: after k bytes: all digits, the value so far below 2^64. -/
def upto (l : List UInt8) (k : Nat) : Prop := (l.take k).all isD = true ∧ val (l.take k) < 18446744073709551616
theorem upto_zero (l : List UInt8) : upto l 0 := by unfold upto; simp [val]
theorem bt_def (l : List UInt8) (k : Nat) : bt l k = (l.getD k 0).toNat := rfl
theorem upto_succ (l : List UInt8) (k : Nat) (hk : k < l.length) (h : upto l k) (h1 : 48 ≤ bt l k) (h2 : bt l k ≤ 57) (h3 : val (l.take k) * 10 + (bt l k - 48) < 18446744073709551616) :
    upto l (k + 1) ∧ val (l.take (k + 1)) = val (l.take k) * 10 + (bt l k - 48) := by
  have e : val (l.take (k + 1)) = val (l.take k) * 10 + (bt l k - 48) := by
    rw [take_bt l k hk, val_snoc]; rfl
  refine ⟨⟨?_, by rw [e]; exact h3⟩, e⟩
  rw [take_bt l k hk, List.all_append, h.1]
  have : isD (l.getD k 0) = true := (isD_iff _).2 ⟨h1, h2⟩
  rw [List.all_cons, this]; rfl
theorem not_digit (l : List UInt8) (k : Nat) (hk : k < l.length) (h : bt l k < 48 ∨ 57 < bt l k) : okB l = false := by
  have : l.all isD = false := by
    rw [List.all_eq_false]
    refine ⟨l.getD k 0, ?_, ?_⟩
    · simp [List.getD, List.getElem?_eq_getElem hk]
    · intro hd
      have := (isD_iff _).1 hd
      have e := bt_def l k
      omega
  unfold okB; rw [this]; simp
theorem too_great (l : List UInt8) (k : Nat) (hk : k < l.length) (h3 : 18446744073709551616 ≤ val (l.take k) * 10 + (bt l k - 48)) : okB l = false := by
  have e : val (l.take (k + 1)) = val (l.take k) * 10 + (bt l k - 48) := by
    rw [take_bt l k hk, val_snoc]; rfl
  have hm := val_mono (l.take (k + 1)) (l.drop (k + 1))
  rw [List.take_append_drop, e] at hm
  have hd : decide (val l < 18446744073709551616) = false := decide_eq_false (by omega)
  unfold okB
  rw [hd, Bool.and_false]
theorem upto_end (l : List UInt8) (n : Nat) (hl : l.length = n) (h1 : 1 ≤ n) (h : upto l n) (hz : ¬ (1 < n ∧ bt l 0 = 48)) : okB l = true ∧ val (l.take n) = val l := by
  have e : l.take n = l := List.take_of_length_le (by omega)
  unfold upto at h
  rw [e] at h
  refine ⟨?_, by rw [e]⟩
  unfold okB
  have h2 : (decide (1 < l.length) && l.getD 0 0 == 48) = false := by
    rw [hl]
    cases hd : decide (1 < n) with
    | false => rfl
    | true =>
      cases he : (l.getD 0 0 == 48) with
      | false => rfl
      | true =>
        rw [beq_iff_eq, ← UInt8.toNat_inj] at he
        exact absurd ⟨of_decide_eq_true hd, he⟩ hz
  have h3 : l.isEmpty = false := by
    cases l with
    | nil => simp at hl; omega
    | cons c r => rfl
  rw [h2, h3, h.1, decide_eq_true h.2]; rfl

/-- what the models hand back. -/
def MD (l : List UInt8) (e : Ending) : Prop :=
  (okB l = true ∧ e = .returned (.tuple #[.int .u64 (val l : Int), .bool true])) ∨ (okB l = false ∧ e = .returned (.tuple #[.int .u64 0, .bool false]))

set_option maxHeartbeats 400000 in
theorem cmodel_empty (a : Option Addr) (cap : Nat) (w : World) :
    Calls Ybaf.prog 20 #[.slice a 0 cap] w fun e w' => MD [] e ∧ w' = w := by
  go_enter Ybaf.func20, Ybaf.ntmps20
  go_wp2
  go_ret2
  exact ⟨Or.inr ⟨rfl, rfl⟩, rfl⟩
set_option maxHeartbeats 400000 in
theorem cmodel_zero (l : List UInt8) (n : Nat) (h1 : 1 < n) (hl : l.length = n) (h0 : bt l 0 = 48) (b o cap : Nat) (w : World)
    (hc : ∀ j, j < n → w.cell? ⟨b, o + j, none⟩ = some (.int .u8 (bt l j : Int))) :
    Calls Ybaf.prog 20 #[.slice (some ⟨b, o, none⟩) n cap] w fun e w' => MD l e ∧ w' = w := by
  have HO : Hid (okB l = false) := ok_lead l n hl h1 h0
  have hc0 : w.cell? ⟨b, o, none⟩ = some (.int .u8 48) := by have := hc 0 (by omega); rw [h0] at this; exact this
  clear hc hl h0
  go_enter Ybaf.func20, Ybaf.ntmps20
  go_wp2
  go_ret2
  exact ⟨Or.inr ⟨HO.out, rfl⟩, rfl⟩
set_option maxHeartbeats 800000 in
theorem cmodel_rest (l : List UInt8) (n : Nat) (h1 : 1 ≤ n) (hn : n ≤ 1024) (hl : l.length = n) (hz : ¬ (1 < n ∧ bt l 0 = 48)) (b o cap : Nat) (w : World)
    (hc : ∀ j, j < n → w.cell? ⟨b, o + j, none⟩ = some (.int .u8 (bt l j : Int))) :
    Calls Ybaf.prog 20 #[.slice (some ⟨b, o, none⟩) n cap] w fun e w' => MD l e ∧ w' = w := by
  have hc0 : w.cell? ⟨b, o, none⟩ = some (.int .u8 (bt l 0 : Int)) := hc 0 (by omega)
  have HL : Hid (l.length = n) := hl
  have HZ : Hid (¬ (1 < n ∧ bt l 0 = 48)) := hz
  have h00 : 1 < n → ((bt l 0 : Int) == 48) = false := by intro h; simp; omega
  clear hl hz
  by_cases hn1 : 1 < n
  · have h01 := h00 hn1
    clear h00
    go_enter Ybaf.func20, Ybaf.ntmps20
    go_wp2
    clear hc0 h01
    go_loop [4, 5] (fun v i => ∃ k : Nat, k ≤ n ∧ upto l k ∧ i = .int .i64 k ∧ v = .int .u64 (val (l.take k) : Int)) (fun _ i => n - (intOf i).toNat)
    case atStart => exact ⟨0, by omega, upto_zero l, rfl, rfl⟩
    case round =>
      obtain ⟨k, hk, hu, rfl, rfl⟩ := hrel
      by_cases hlt : k < n
      · have hck := hc k hlt
        have hv := hu.2
        have HU : Hid (upto l k) := hu
        clear hu
        generalize hvv : val (l.take k) = v at *
        have HV : Hid (val (l.take k) = v) := hvv
        clear hvv
        have hbl := bt_lt l k
        by_cases c1 : (bt l k : Int) < 48
        · have HO : Hid (okB l = false) := not_digit l k (by rw [HL.out]; exact hlt) (by omega)
          go_wp2
          go_ret2
          exact ⟨Or.inr ⟨HO.out, rfl⟩, rfl⟩
        · by_cases c2 : 57 < (bt l k : Int)
          · have HO : Hid (okB l = false) := not_digit l k (by rw [HL.out]; exact hlt) (by omega)
            go_wp2
            go_ret2
            exact ⟨Or.inr ⟨HO.out, rfl⟩, rfl⟩
          · by_cases c3 : (v : Int) * 10 + ((bt l k : Int) - 48) < 18446744073709551616
            · go_wp2
              go_round
              case rel =>
                have hs := upto_succ l k (by rw [HL.out]; exact hlt) HU.out (by omega) (by omega) (by rw [HV.out]; omega)
                refine ⟨k + 1, by omega, hs.1, by go_num, val_int ?_⟩
                rw [hs.2, HV.out]
                omega
              case measure => simp [intOf]; omega
            · have HO : Hid (okB l = false) := too_great l k (by rw [HL.out]; exact hlt) (by rw [HV.out]; omega)
              go_wp2
              go_ret2
              exact ⟨Or.inr ⟨HO.out, rfl⟩, rfl⟩
      · have hkn : k = n := by omega
        subst hkn
        have hq := upto_end l k HL.out h1 hu HZ.out
        have HO : Hid (okB l = true) := hq.1
        have HV : Hid (val (l.take k) = val l) := hq.2
        clear hq hu
        go_wp2
        go_ret2
        exact ⟨Or.inl ⟨HO.out, by rw [← HV.out]; rfl⟩, rfl⟩
  · clear h00
    go_enter Ybaf.func20, Ybaf.ntmps20
    go_wp2
    clear hc0
    go_loop [4, 5] (fun v i => ∃ k : Nat, k ≤ n ∧ upto l k ∧ i = .int .i64 k ∧ v = .int .u64 (val (l.take k) : Int)) (fun _ i => n - (intOf i).toNat)
    case atStart => exact ⟨0, by omega, upto_zero l, rfl, rfl⟩
    case round =>
      obtain ⟨k, hk, hu, rfl, rfl⟩ := hrel
      by_cases hlt : k < n
      · have hck := hc k hlt
        have hv := hu.2
        have HU : Hid (upto l k) := hu
        clear hu
        generalize hvv : val (l.take k) = v at *
        have HV : Hid (val (l.take k) = v) := hvv
        clear hvv
        have hbl := bt_lt l k
        by_cases c1 : (bt l k : Int) < 48
        · have HO : Hid (okB l = false) := not_digit l k (by rw [HL.out]; exact hlt) (by omega)
          go_wp2
          go_ret2
          exact ⟨Or.inr ⟨HO.out, rfl⟩, rfl⟩
        · by_cases c2 : 57 < (bt l k : Int)
          · have HO : Hid (okB l = false) := not_digit l k (by rw [HL.out]; exact hlt) (by omega)
            go_wp2
            go_ret2
            exact ⟨Or.inr ⟨HO.out, rfl⟩, rfl⟩
          · by_cases c3 : (v : Int) * 10 + ((bt l k : Int) - 48) < 18446744073709551616
            · go_wp2
              go_round
              case rel =>
                have hs := upto_succ l k (by rw [HL.out]; exact hlt) HU.out (by omega) (by omega) (by rw [HV.out]; omega)
                refine ⟨k + 1, by omega, hs.1, by go_num, val_int ?_⟩
                rw [hs.2, HV.out]
                omega
              case measure => simp [intOf]; omega
            · have HO : Hid (okB l = false) := too_great l k (by rw [HL.out]; exact hlt) (by rw [HV.out]; omega)
              go_wp2
              go_ret2
              exact ⟨Or.inr ⟨HO.out, rfl⟩, rfl⟩
      · have hkn : k = n := by omega
        subst hkn
        have hq := upto_end l k HL.out h1 hu HZ.out
        have HO : Hid (okB l = true) := hq.1
        have HV : Hid (val (l.take k) = val l) := hq.2
        clear hq hu
        go_wp2
        go_ret2
        exact ⟨Or.inl ⟨HO.out, by rw [← HV.out]; rfl⟩, rfl⟩
theorem cmodel_any (l : List UInt8) (n : Nat) (h1 : 1 ≤ n) (hn : n ≤ 1024) (hl : l.length = n) (b o cap : Nat) (w : World)
    (hc : ∀ j, j < n → w.cell? ⟨b, o + j, none⟩ = some (.int .u8 (bt l j : Int))) :
    Calls Ybaf.prog 20 #[.slice (some ⟨b, o, none⟩) n cap] w fun e w' => MD l e ∧ w' = w := by
  by_cases hz : 1 < n ∧ bt l 0 = 48
  · exact cmodel_zero l n hz.1 hl hz.2 b o cap w hc
  · exact cmodel_rest l n h1 hn hl hz b o cap w hc
end Go.Proofs.YbulkbqwiFmt
