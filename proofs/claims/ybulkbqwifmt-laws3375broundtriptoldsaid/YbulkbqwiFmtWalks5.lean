/-
  DERIVED. THE WALKS, fifth part: the one-line ceiling file: zzs3375bmodel, parseCeilingLine, zzs3375bagree.
-/
import Derived.Test.YbulkbqwiFmtWalks4
namespace Go.Proofs.YbulkbqwiFmt
open Go.RowKit M
open Go.Extern.Stop Go.Stop Go.Extern

set_option maxHeartbeats 400000 in
theorem bmodel_empty (a : Option Addr) (cap : Nat) (w : World) :
    Calls Ybaf.prog 15 #[.slice a 0 cap] w fun e w' => e = .returned (.tuple #[.int .u64 0, .bool false]) ∧ w' = w := by
  go_enter Ybaf.func15, Ybaf.ntmps15
  go_wp2
  go_ret2
  exact ⟨rfl, rfl⟩
set_option maxHeartbeats 400000 in
theorem bmodel_long (a : Option Addr) (n cap : Nat) (h : 21 ≤ n) (w : World) :
    Calls Ybaf.prog 15 #[.slice a (n + 1) cap] w fun e w' => e = .returned (.tuple #[.int .u64 0, .bool false]) ∧ w' = w := by
  go_enter Ybaf.func15, Ybaf.ntmps15
  go_wp2
  go_ret2
  exact ⟨rfl, rfl⟩
set_option maxHeartbeats 400000 in
theorem bmodel_nonl (b o n cap : Nat) (h : n ≤ 20) (c : Nat) (hc10 : ((c : Int) != 10) = true) (w : World) (hcn : w.cell? ⟨b, o + n, none⟩ = some (.int .u8 (c : Int))) :
    Calls Ybaf.prog 15 #[.slice (some ⟨b, o, none⟩) (n + 1) cap] w fun e w' => e = .returned (.tuple #[.int .u64 0, .bool false]) ∧ w' = w := by
  go_enter Ybaf.func15, Ybaf.ntmps15
  go_wp2
  go_ret2
  exact ⟨rfl, rfl⟩
set_option maxHeartbeats 400000 in
theorem bmodel_nl_only (b o cap : Nat) (hcap : 1 ≤ cap) (w : World) (hcn : w.cell? ⟨b, o, none⟩ = some (.int .u8 10)) :
    Calls Ybaf.prog 15 #[.slice (some ⟨b, o, none⟩) 1 cap] w fun e w' => e = .returned (.tuple #[.int .u64 0, .bool false]) ∧ w' = w := by
  have hcap0 : ¬ cap = 0 := by omega
  go_enter Ybaf.func15, Ybaf.ntmps15
  go_wp2
  go_ret2
  exact ⟨rfl, rfl⟩
set_option maxHeartbeats 400000 in
theorem bmodel_zero (l : List UInt8) (n : Nat) (h1 : 1 < n) (hn : n ≤ 20) (hl : l.length = n) (h0 : bt l 0 = 48) (b o cap : Nat) (hcap : n + 1 ≤ cap) (w : World) (hcn : w.cell? ⟨b, o + n, none⟩ = some (.int .u8 10))
    (hc : ∀ j, j < n → w.cell? ⟨b, o + j, none⟩ = some (.int .u8 (bt l j : Int))) :
    Calls Ybaf.prog 15 #[.slice (some ⟨b, o, none⟩) (n + 1) cap] w fun e w' => MD l e ∧ w' = w := by
  have hcap0 : ¬ cap = 0 := by omega
  have hN0 : ((n : Int) + 1 == 0) = false := by simp; omega
  have hN1 : (n : Int) + 1 ≤ 21 := by omega
  have HO : Hid (okB l = false) := ok_lead l n hl h1 h0
  have hc0 : w.cell? ⟨b, o, none⟩ = some (.int .u8 48) := by have := hc 0 (by omega); rw [h0] at this; exact this
  clear hc hl h0
  go_enter Ybaf.func15, Ybaf.ntmps15
  go_wp2
  go_ret2
  exact ⟨Or.inr ⟨HO.out, rfl⟩, rfl⟩
set_option maxHeartbeats 800000 in
theorem bmodel_rest (l : List UInt8) (n : Nat) (h1 : 1 ≤ n) (hn : n ≤ 20) (hl : l.length = n) (hz : ¬ (1 < n ∧ bt l 0 = 48)) (b o cap : Nat) (hcap : n + 1 ≤ cap) (w : World) (hcn : w.cell? ⟨b, o + n, none⟩ = some (.int .u8 10))
    (hc : ∀ j, j < n → w.cell? ⟨b, o + j, none⟩ = some (.int .u8 (bt l j : Int))) :
    Calls Ybaf.prog 15 #[.slice (some ⟨b, o, none⟩) (n + 1) cap] w fun e w' => MD l e ∧ w' = w := by
  have hcap0 : ¬ cap = 0 := by omega
  have hN0 : ((n : Int) + 1 == 0) = false := by simp; omega
  have hN1 : (n : Int) + 1 ≤ 21 := by omega
  have hc0 : w.cell? ⟨b, o, none⟩ = some (.int .u8 (bt l 0 : Int)) := hc 0 (by omega)
  have HL : Hid (l.length = n) := hl
  have HZ : Hid (¬ (1 < n ∧ bt l 0 = 48)) := hz
  have h00 : 1 < n → ((bt l 0 : Int) == 48) = false := by intro h; simp; omega
  clear hl hz
  by_cases hn1 : 1 < n
  · have h01 := h00 hn1
    clear h00
    go_enter Ybaf.func15, Ybaf.ntmps15
    go_wp2
    clear hc0 h01 hcn
    go_loop [6, 7] (fun v i => ∃ k : Nat, k ≤ n ∧ upto l k ∧ i = .int .i64 k ∧ v = .int .u64 (val (l.take k) : Int)) (fun _ i => n - (intOf i).toNat)
    case atStart => exact ⟨0, by omega, upto_zero l, rfl, rfl⟩
    case round =>
      obtain ⟨k, hk, hu, rfl, rfl⟩ := hrel
      by_cases hlt : k < n
      · have hck := hc k hlt
        have hv := hu.2
        have HU : Hid (upto l k) := hu
        clear hu
        generalize hvv : val (l.take k) = v at *
        have HV : Hid (val (l.take k) = v) := hvv
        clear hvv
        have hbl := bt_lt l k
        by_cases c1 : (bt l k : Int) < 48
        · have HO : Hid (okB l = false) := not_digit l k (by rw [HL.out]; exact hlt) (by omega)
          go_wp2
          go_ret2
          exact ⟨Or.inr ⟨HO.out, rfl⟩, rfl⟩
        · by_cases c2 : 57 < (bt l k : Int)
          · have HO : Hid (okB l = false) := not_digit l k (by rw [HL.out]; exact hlt) (by omega)
            go_wp2
            go_ret2
            exact ⟨Or.inr ⟨HO.out, rfl⟩, rfl⟩
          · by_cases c3 : (v : Int) * 10 + ((bt l k : Int) - 48) < 18446744073709551616
            · go_wp2
              go_round
              case rel =>
                have hs := upto_succ l k (by rw [HL.out]; exact hlt) HU.out (by omega) (by omega) (by rw [HV.out]; omega)
                refine ⟨k + 1, by omega, hs.1, by go_num, val_int ?_⟩
                rw [hs.2, HV.out]
                omega
              case measure => simp [intOf]; omega
            · have HO : Hid (okB l = false) := too_great l k (by rw [HL.out]; exact hlt) (by rw [HV.out]; omega)
              go_wp2
              go_ret2
              exact ⟨Or.inr ⟨HO.out, rfl⟩, rfl⟩
      · have hkn : k = n := by omega
        subst hkn
        have hq := upto_end l k HL.out h1 hu HZ.out
        have HO : Hid (okB l = true) := hq.1
        have HV : Hid (val (l.take k) = val l) := hq.2
        clear hq hu
        go_wp2
        go_ret2
        exact ⟨Or.inl ⟨HO.out, by rw [← HV.out]; rfl⟩, rfl⟩
  · clear h00
    go_enter Ybaf.func15, Ybaf.ntmps15
    go_wp2
    clear hc0 hcn
    go_loop [6, 7] (fun v i => ∃ k : Nat, k ≤ n ∧ upto l k ∧ i = .int .i64 k ∧ v = .int .u64 (val (l.take k) : Int)) (fun _ i => n - (intOf i).toNat)
    case atStart => exact ⟨0, by omega, upto_zero l, rfl, rfl⟩
    case round =>
      obtain ⟨k, hk, hu, rfl, rfl⟩ := hrel
      by_cases hlt : k < n
      · have hck := hc k hlt
        have hv := hu.2
        have HU : Hid (upto l k) := hu
        clear hu
        generalize hvv : val (l.take k) = v at *
        have HV : Hid (val (l.take k) = v) := hvv
        clear hvv
        have hbl := bt_lt l k
        by_cases c1 : (bt l k : Int) < 48
        · have HO : Hid (okB l = false) := not_digit l k (by rw [HL.out]; exact hlt) (by omega)
          go_wp2
          go_ret2
          exact ⟨Or.inr ⟨HO.out, rfl⟩, rfl⟩
        · by_cases c2 : 57 < (bt l k : Int)
          · have HO : Hid (okB l = false) := not_digit l k (by rw [HL.out]; exact hlt) (by omega)
            go_wp2
            go_ret2
            exact ⟨Or.inr ⟨HO.out, rfl⟩, rfl⟩
          · by_cases c3 : (v : Int) * 10 + ((bt l k : Int) - 48) < 18446744073709551616
            · go_wp2
              go_round
              case rel =>
                have hs := upto_succ l k (by rw [HL.out]; exact hlt) HU.out (by omega) (by omega) (by rw [HV.out]; omega)
                refine ⟨k + 1, by omega, hs.1, by go_num, val_int ?_⟩
                rw [hs.2, HV.out]
                omega
              case measure => simp [intOf]; omega
            · have HO : Hid (okB l = false) := too_great l k (by rw [HL.out]; exact hlt) (by rw [HV.out]; omega)
              go_wp2
              go_ret2
              exact ⟨Or.inr ⟨HO.out, rfl⟩, rfl⟩
      · have hkn : k = n := by omega
        subst hkn
        have hq := upto_end l k HL.out h1 hu HZ.out
        have HO : Hid (okB l = true) := hq.1
        have HV : Hid (val (l.take k) = val l) := hq.2
        clear hq hu
        go_wp2
        go_ret2
        exact ⟨Or.inl ⟨HO.out, by rw [← HV.out]; rfl⟩, rfl⟩
theorem bmodel_any (l : List UInt8) (n : Nat) (h1 : 1 ≤ n) (hn : n ≤ 20) (hl : l.length = n) (b o cap : Nat) (hcap : n + 1 ≤ cap) (w : World) (hcn : w.cell? ⟨b, o + n, none⟩ = some (.int .u8 10))
    (hc : ∀ j, j < n → w.cell? ⟨b, o + j, none⟩ = some (.int .u8 (bt l j : Int))) :
    Calls Ybaf.prog 15 #[.slice (some ⟨b, o, none⟩) (n + 1) cap] w fun e w' => MD l e ∧ w' = w := by
  by_cases hz : 1 < n ∧ bt l 0 = 48
  · exact bmodel_zero l n hz.1 hn hl hz.2 b o cap hcap w hcn hc
  · exact bmodel_rest l n h1 hn hl hz b o cap hcap w hcn hc

/-! parseCeilingLine -/
/-- it hands back 0 and some error. -/
def Fails (w : World) (e : Ending) (w' : World) : Prop := (∃ t x, e = .returned (.tuple #[.int .u64 0, .iface t x])) ∧ Below w.heap.size w w'
theorem alloc_below {w w2 w3 : World} (o : Obj) (hB : Below w.heap.size w w2) (h : Below (w2.alloc o).heap.size (w2.alloc o) w3) : Below w.heap.size w w3 :=
  (hB.alloc hB.size o).trans (h.mono (by have := hB.size; simp; omega))

set_option maxHeartbeats 400000 in
theorem pc_empty (a : Option Addr) (cap : Nat) (w : World) :
    Calls Ybaf.prog 11 #[.slice a 0 cap] w fun e w' => Fails w e w' := by
  go_enter Ybaf.func11, Ybaf.ntmps11
  go_wp2_with (go_at_call 17; refine (new_any _ _).mono ?_; rintro e w2 ⟨⟨p, rfl⟩, hB⟩)
  go_ret2
  exact ⟨⟨_, _, rfl⟩, hB⟩
set_option maxHeartbeats 400000 in
theorem pc_long (F : Interp) (a : Option Addr) (n cap : Nat) (h : 21 ≤ n) (w : World) (hF : F.answers w.tape) :
    Calls Ybaf.prog 11 #[.slice a (n + 1) cap] w fun e w' => Fails w e w' := by
  have hN0 : ((n : Int) + 1 == 0) = false := by simp; omega
  go_enter Ybaf.func11, Ybaf.ntmps11
  go_wp2_with (go_at_call 18; refine (errorf_D F _ 21 _ (by exact hF) (by go_simp)).mono ?_; rintro e w2 ⟨⟨p, rfl⟩, hB⟩)
  go_ret2
  exact ⟨⟨_, _, rfl⟩, alloc_below _ (Below.refl _ _) hB⟩
set_option maxHeartbeats 400000 in
theorem pc_nonl (b o n cap : Nat) (h : n ≤ 20) (c : Nat) (hc10 : ((c : Int) != 10) = true) (w : World) (hcn : w.cell? ⟨b, o + n, none⟩ = some (.int .u8 (c : Int))) :
    Calls Ybaf.prog 11 #[.slice (some ⟨b, o, none⟩) (n + 1) cap] w fun e w' => Fails w e w' := by
  have hN0 : ((n : Int) + 1 == 0) = false := by simp; omega
  have hN1 : (n : Int) + 1 ≤ 21 := by omega
  go_enter Ybaf.func11, Ybaf.ntmps11
  go_wp2_with (go_at_call 17; refine (new_any _ _).mono ?_; rintro e w2 ⟨⟨p, rfl⟩, hB⟩)
  go_ret2
  exact ⟨⟨_, _, rfl⟩, hB⟩
set_option maxHeartbeats 400000 in
theorem pc_body (F : Interp) (l : List UInt8) (n : Nat) (hn : n ≤ 20) (b o cap : Nat) (hcap : n + 1 ≤ cap) (w : World) (hF : F.answers w.tape) (hcn : w.cell? ⟨b, o + n, none⟩ = some (.int .u8 10))
    (HP : Calls Ybaf.prog 19 #[.slice (some ⟨b, o, none⟩) n cap] w fun e w' => PT l w e w') :
    Calls Ybaf.prog 11 #[.slice (some ⟨b, o, none⟩) (n + 1) cap] w fun e w' => (okB l = true ∧ e = .returned (.tuple #[.int .u64 (val l : Int), .nilIface]) ∧ Below w.heap.size w w') ∨ (okB l = false ∧ Fails w e w') := by
  have hN0 : ((n : Int) + 1 == 0) = false := by simp; omega
  have hN1 : (n : Int) + 1 ≤ 21 := by omega
  have hcap0 : ¬ cap = 0 := by omega
  go_enter Ybaf.func11, Ybaf.ntmps11
  go_wp2_with fail
  refine HP.mono ?_
  rintro e w2 (⟨ho, rfl, hB⟩ | ⟨ho, k, t, rfl, g1, g2, g3⟩)
  · have HO : Hid (okB l = true) := ho
    clear ho
    go_wp2
    go_ret2
    exact Or.inl ⟨HO.out, rfl, hB⟩
  · have HO : Hid (okB l = false) := ho
    have hk : ∀ o, (w2.alloc o).cell? ⟨k, 0, none⟩ = some (.string t) := fun o => by
      rw [((Below.refl _ w2).alloc (Nat.le_refl _) o).cell (p := ⟨k, 0, none⟩) g2]; exact g1
    have hF2 : F.answers w2.tape := by rw [g3.tape]; exact hF
    clear ho
    go_wp2_with (go_at_call 18; refine (errorf_E F _ ⟨k, 0, none⟩ t _ (by exact hF2) (by go_simp) (hk _)).mono ?_; rintro e w3 ⟨⟨p, rfl⟩, hB⟩)
    go_ret2
    exact Or.inr ⟨HO.out, ⟨_, _, rfl⟩, alloc_below _ g3 hB⟩
end Go.Proofs.YbulkbqwiFmt
