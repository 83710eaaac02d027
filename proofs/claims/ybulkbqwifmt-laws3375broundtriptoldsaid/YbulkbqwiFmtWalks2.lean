/-
  DERIVED. THE WALKS, second part: digitWord, decimalValue.
-/
import Derived.Test.YbulkbqwiFmtWalks1
namespace Go.Proofs.YbulkbqwiFmt
open Go.RowKit M

theorem pow_split (e : Nat) (he : e ≤ 7) : 256 ^ e * 256 ^ (8 - e) = 18446744073709551616 := by
  rw [← Nat.pow_add, show e + (8 - e) = 8 by omega]
theorem dig_law (l : List UInt8) (e : Nat) (he : e ≤ 7) (hl : 8 ≤ l.length) :
    bits BinOp.or IntKind.u64 (IntKind.u64.wrap ((Lib.leNat (l.take 8) : Int) * 2 ^ (8 * (8 - e)))) ((3472328296227680304 : Int) / 2 ^ (8 * e)) = (Lib.leNat (List.replicate (8 - e) 48 ++ l.take e) : Int) := by
  have hs : l.take 8 = l.take e ++ (l.drop e).take (8 - e) := by
    have := List.take_append_drop e (l.take 8)
    rw [List.take_take, Nat.min_eq_left (by omega), List.drop_take] at this
    exact this.symm
  have hA := le_lt (l.take e)
  rw [List.length_take, Nat.min_eq_left (by omega)] at hA
  have hz := le_lt (List.replicate (8 - e) (48 : UInt8))
  rw [List.length_replicate] at hz
  have hp := pow_split e he
  have hAlt : Lib.leNat (l.take e) * 256 ^ (8 - e) < 18446744073709551616 := by
    rw [← hp]; exact Nat.mul_lt_mul_of_pos_right hA (Nat.pow_pos (by decide))
  have h8 : (256 : Nat) ^ (8 - e) ≤ 18446744073709551616 := Nat.pow_le_pow_right (show 0 < 256 by decide) (show 8 - e ≤ 8 by omega)
  have e1 : IntKind.u64.wrap ((Lib.leNat (l.take 8) : Int) * 2 ^ (8 * (8 - e))) = ((Lib.leNat (l.take e) * 256 ^ (8 - e) : Nat) : Int) := by
    rw [wrap_u64, pow_256, ← Int.natCast_mul, hs, le_append, List.length_take, Nat.min_eq_left (by omega), Nat.add_mul, Nat.mul_right_comm, hp]
    have := Nat.add_mul_mod_self_left (Lib.leNat (l.take e) * 256 ^ (8 - e)) 18446744073709551616 (Lib.leNat ((l.drop e).take (8 - e)))
    rw [Nat.mod_eq_of_lt hAlt] at this
    exact congrArg Int.ofNat this
  rw [e1, zero_shr e (by omega), bits_or_u64_nat _ _ hAlt (by omega), Nat.or_comm, or_add _ _ _ hz, le_append, List.length_replicate]

theorem dgw_low (l : List UInt8) (z : Int) (h : z < 8) : dgw l z = List.replicate (8 - z.toNat) 48 ++ l.take z.toNat := by
  unfold dgw; rw [if_neg (by omega)]

set_option maxHeartbeats 400000 in
theorem dg_hi (l : List UInt8) (n : Nat) (z : Int) (hz : 8 ≤ z) (hzn : z ≤ n) (hl : l.length = n) (h20 : n ≤ 20) (b o cap : Nat) (hcap : n ≤ cap) (w : World)
    (hc : ∀ j, j < n → w.cell? ⟨b, o + j, none⟩ = some (.int .u8 (bt l j : Int))) :
    Calls Ybaf.prog 38 #[.slice (some ⟨b, o, none⟩) n cap, .int .i64 z] w fun e w' => e = .returned (.int .u64 (Lib.leNat (dgw l z))) ∧ Below w.heap.size w w' := by
  have HC := loadWord_any l n (z.toNat - 8) (z - 8) (by omega) hl (by omega) h20 b o cap hcap w hc
  have HE : Hid (dgw l z = (l.drop (z.toNat - 8)).take 8) := by unfold dgw; rw [if_pos hz]; exact rfl
  clear hc hl
  go_enter Ybaf.func38, Ybaf.ntmps38
  go_wp2_with (go_at_call 41; refine HC.mono ?_; rintro e w2 ⟨rfl, hB⟩)
  go_ret
  exact ⟨by rw [HE.out]; rfl, hB⟩
set_option maxHeartbeats 400000 in
theorem dg_lo (l : List UInt8) (n : Nat) (z : Int) (hz : z < 8) (hzn : -100 ≤ z) (hl : l.length = n) (h8 : 8 ≤ n) (h20 : n ≤ 20) (b o cap : Nat) (hcap : n ≤ cap) (w : World)
    (hc : ∀ j, j < n → w.cell? ⟨b, o + j, none⟩ = some (.int .u8 (bt l j : Int))) :
    Calls Ybaf.prog 38 #[.slice (some ⟨b, o, none⟩) n cap, .int .i64 z] w fun e w' => e = .returned (.int .u64 (Lib.leNat (dgw l z))) ∧ Below w.heap.size w w' := by
  have HC := loadWord_any l n 0 0 rfl hl (by omega) h20 b o cap hcap w hc
  have HE : Hid (bits BinOp.or IntKind.u64 (IntKind.u64.wrap ((Lib.leNat (l.take 8) : Int) * 2 ^ (8 * min (8 - z) 8).toNat)) ((3472328296227680304 : Int) / 2 ^ (64 - 8 * min (8 - z) 8).toNat) = (Lib.leNat (dgw l z) : Int)) := by
    have a1 : (8 * min (8 - z) 8).toNat = 8 * (8 - z.toNat) := by omega
    have a2 : (64 - 8 * min (8 - z) 8).toNat = 8 * z.toNat := by omega
    rw [a1, a2, dgw_low l z hz]
    exact dig_law l z.toNat (by omega) (by omega)
  clear hc hl
  go_enter Ybaf.func38, Ybaf.ntmps38
  go_wp2_with (go_at_call 41; refine HC.mono ?_; rintro e w2 ⟨rfl, hB⟩)
  go_ret
  exact ⟨ret_int HE.out, hB⟩
theorem digitWord_any (l : List UInt8) (n : Nat) (z : Int) (hzn : -100 ≤ z) (hz2 : z ≤ n) (hl : l.length = n) (h8 : 8 ≤ n) (h20 : n ≤ 20) (b o cap : Nat) (hcap : n ≤ cap) (w : World)
    (hc : ∀ j, j < n → w.cell? ⟨b, o + j, none⟩ = some (.int .u8 (bt l j : Int))) :
    Calls Ybaf.prog 38 #[.slice (some ⟨b, o, none⟩) n cap, .int .i64 z] w fun e w' => e = .returned (.int .u64 (Lib.leNat (dgw l z))) ∧ Below w.heap.size w w' := by
  rcases Int.lt_or_le z 8 with h | h
  · exact dg_lo l n z h hzn hl h8 h20 b o cap hcap w hc
  · exact dg_hi l n z h hz2 hl h20 b o cap hcap w hc

/-! decimalValue -/
theorem cells_below {w w' : World} {b o n : Nat} {l : List UInt8} (hB : Below w.heap.size w w') (hb : b < w.heap.size) (hc : ∀ j, j < n → w.cell? ⟨b, o + j, none⟩ = some (.int .u8 (bt l j : Int))) :
    ∀ j, j < n → w'.cell? ⟨b, o + j, none⟩ = some (.int .u8 (bt l j : Int)) := fun j hj => by
  rw [hB.cell (p := ⟨b, o + j, none⟩) hb]; exact hc j hj

theorem okD_false_of_past {l : List UInt8} (h : pastB l = true) : okD l = false := by unfold okD; rw [h]; simp
theorem okD_of {l : List UInt8} (h : pastB l = false) (h1 : 1 ≤ l.length) : okD l = l.all isD := by
  unfold okD; rw [h]
  cases l with
  | nil => simp at h1
  | cons c r => simp

theorem short_law (l : List UInt8) (n : Nat) (hl : l.length = n) (h1 : 1 ≤ n) (h8 : n < 8) :
    (dfI (Lib.leNat (List.replicate (8 - n) 48 ++ l) : Int) == 0) = okD l ∧ (okD l = true → dvI (Lib.leNat (List.replicate (8 - n) 48 ++ l) : Int) = (val l : Int)) := by
  have hlen : (List.replicate (8 - n) (48 : UInt8) ++ l).length = 8 := by rw [List.length_append, List.length_replicate]; omega
  have hp : pastB l = false := by unfold pastB; rw [if_neg (by omega), if_neg (by omega)]
  rw [okD_of hp (by omega), dfI_fw]
  have hf := word_fault _ hlen
  rw [all_pad] at hf
  constructor
  · rw [Bool.eq_iff_iff, ← hf]
    simp only [beq_iff_eq]
    omega
  · intro hd
    rw [word_val _ hlen (by rw [all_pad]; exact hd), val_pad]

theorem long_law (l : List UInt8) (n : Nat) (hl : l.length = n) (h8 : 8 ≤ n) (hp : pastB l = false) (x y z : Nat) (hx : x = Lib.leNat (dgw l ((n : Int) - 16))) (hy : y = Lib.leNat (dgw l ((n : Int) - 8))) (hz : z = Lib.leNat (dgw l (n : Int))) :
    (fltI x y z == 0) = okD l ∧ (okD l = true → sumI x y z = (val l : Int)) := by
  subst hl
  have h20 : l.length ≤ 20 := by
    rcases Nat.lt_or_ge 20 l.length with h | h
    · unfold pastB at hp; rw [if_pos h] at hp; cases hp
    · exact h
  have hall := three_all l h8 h20
  constructor
  · rw [okD_of hp (by omega)]
    unfold fltI
    rw [or3, Bool.eq_iff_iff, ← hall, ← hx, ← hy, ← hz, ← or_zero3]
    simp only [beq_iff_eq]
    omega
  · intro hd
    have hk := okD_val hd
    have hv := three_val l h8 h20 hk.1
    rw [← hx, ← hy, ← hz] at hv
    rw [sumI_mod, hv]
    omega

set_option maxHeartbeats 400000 in
theorem dec_empty (a : Option Addr) (cap : Nat) (w : World) :
    Calls Ybaf.prog 27 #[.slice a 0 cap] w fun e w' => e = .returned (.tuple #[.int .u64 0, .bool false]) ∧ w' = w := by
  go_enter Ybaf.func27, Ybaf.ntmps27
  go_wp2
  go_ret2
  exact ⟨rfl, rfl⟩
set_option maxHeartbeats 400000 in
theorem dec_past (l : List UInt8) (n : Nat) (h1 : 1 ≤ n) (hl : l.length = n) (hp : pastB l = true) (b o cap : Nat) (w : World)
    (hc : ∀ j, j < n → w.cell? ⟨b, o + j, none⟩ = some (.int .u8 (bt l j : Int))) :
    Calls Ybaf.prog 27 #[.slice (some ⟨b, o, none⟩) n cap] w fun e w' => e = .returned (.tuple #[.int .u64 0, .bool false]) ∧ w' = w := by
  have HP := past_any l n hl b o cap w hc
  rw [hp] at HP
  clear hc hl hp
  go_enter Ybaf.func27, Ybaf.ntmps27
  go_wp2_with (go_at_call 34; refine HP.mono ?_; rintro e w2 ⟨rfl, rfl⟩)
  go_ret2
  exact ⟨rfl, rfl⟩
set_option maxHeartbeats 400000 in
theorem dec_short (l : List UInt8) (n : Nat) (h1 : 1 ≤ n) (h8 : n < 8) (hl : l.length = n) (b o cap : Nat) (w : World)
    (hc : ∀ j, j < n → w.cell? ⟨b, o + j, none⟩ = some (.int .u8 (bt l j : Int))) :
    Calls Ybaf.prog 27 #[.slice (some ⟨b, o, none⟩) n cap] w fun e w' => e = .returned (.tuple #[.int .u64 (dvI (Lib.leNat (List.replicate (8 - n) 48 ++ l))), .bool (dfI (Lib.leNat (List.replicate (8 - n) 48 ++ l)) == 0)]) ∧ w' = w := by
  have HP := past_no (some ⟨b, o, none⟩) n cap (by omega) w
  have HS := shortWord_any l n hl h8 b o cap w hc
  clear hc hl
  go_enter Ybaf.func27, Ybaf.ntmps27
  go_wp2_with (first | (go_at_call 34; refine HP.mono ?_; rintro e w2 ⟨rfl, rfl⟩) | (go_at_call 36; refine HS.mono ?_; rintro e w2 ⟨rfl, rfl⟩) | (go_at_call 35; refine (decimalWord_any _ _).mono ?_; rintro e w2 ⟨rfl, rfl⟩))
  go_ret2
  exact ⟨rfl, rfl⟩
set_option maxHeartbeats 400000 in
theorem dec_long (l : List UInt8) (n : Nat) (h8 : 8 ≤ n) (h20 : n ≤ 20) (hl : l.length = n) (hp : pastB l = false) (b o cap : Nat) (hcap : n ≤ cap) (w : World) (hb : b < w.heap.size)
    (hc : ∀ j, j < n → w.cell? ⟨b, o + j, none⟩ = some (.int .u8 (bt l j : Int))) :
    Calls Ybaf.prog 27 #[.slice (some ⟨b, o, none⟩) n cap] w fun e w' => ∃ x y z : Nat, x = Lib.leNat (dgw l ((n : Int) - 16)) ∧ y = Lib.leNat (dgw l ((n : Int) - 8)) ∧ z = Lib.leNat (dgw l (n : Int)) ∧
      e = .returned (.tuple #[.int .u64 (sumI x y z), .bool (fltI x y z == 0)]) ∧ Below w.heap.size w w' := by
  have HP := past_any l n hl b o cap w hc
  rw [hp] at HP
  have H1 : ∀ (w' : World) (z : Int), Below w.heap.size w w' → -100 ≤ z → z ≤ n → Calls Ybaf.prog 38 #[.slice (some ⟨b, o, none⟩) n cap, .int .i64 z] w' fun e w'' => e = .returned (.int .u64 (Lib.leNat (dgw l z))) ∧ Below w.heap.size w w'' := by
    intro w' z hB h1 h2
    refine (digitWord_any l n z h1 h2 hl h8 h20 b o cap hcap w' (cells_below hB hb hc)).mono ?_
    rintro e w'' ⟨rfl, hB2⟩
    exact ⟨rfl, hB.trans (hB2.mono hB.size)⟩
  have HR := Below.refl w.heap.size w
  clear hc hl hp
  go_enter Ybaf.func27, Ybaf.ntmps27
  go_wp2_with (go_at_call 34; refine HP.mono ?_; rintro e w2 ⟨rfl, rfl⟩)
  refine (H1 _ _ HR (by omega) (by omega)).mono ?_
  rintro e w3 ⟨rfl, hB3⟩
  go_wp2_with fail
  refine (H1 _ _ hB3 (by omega) (by omega)).mono ?_
  rintro e w4 ⟨rfl, hB4⟩
  go_wp2_with fail
  refine (H1 _ _ hB4 (by omega) (by omega)).mono ?_
  rintro e w5 ⟨rfl, hB5⟩
  go_wp2_with (go_at_call 37; refine (decimalWords_any _ _ _ _).mono ?_; rintro e w6 ⟨rfl, rfl⟩)
  go_ret2
  exact ⟨_, _, _, rfl, rfl, rfl, rfl, hB5⟩

/-- decimalValue, at a slice that is not empty. -/
theorem decimalValue_any (l : List UInt8) (n : Nat) (h1 : 1 ≤ n) (hl : l.length = n) (b o cap : Nat) (hcap : n ≤ cap) (w : World) (hb : b < w.heap.size)
    (hc : ∀ j, j < n → w.cell? ⟨b, o + j, none⟩ = some (.int .u8 (bt l j : Int))) :
    Calls Ybaf.prog 27 #[.slice (some ⟨b, o, none⟩) n cap] w fun e w' => ∃ v : Int, e = .returned (.tuple #[.int .u64 v, .bool (okD l)]) ∧ (okD l = true → v = (val l : Int)) ∧ Below w.heap.size w w' := by
  cases hp : pastB l with
  | true =>
    refine (dec_past l n h1 hl hp b o cap w hc).mono ?_
    rintro e w' ⟨rfl, rfl⟩
    have := okD_false_of_past hp
    rw [this]
    exact ⟨0, rfl, (fun h => by cases h), Below.refl _ _⟩
  | false =>
    rcases Nat.lt_or_ge n 8 with h8 | h8
    · refine (dec_short l n h1 h8 hl b o cap w hc).mono ?_
      rintro e w' ⟨rfl, rfl⟩
      have hs := short_law l n hl h1 h8
      rw [hs.1]
      exact ⟨_, rfl, hs.2, Below.refl _ _⟩
    · have h20 : n ≤ 20 := by
        rcases Nat.lt_or_ge 20 n with h | h
        · unfold pastB at hp; rw [if_pos (by omega)] at hp; cases hp
        · exact h
      refine (dec_long l n h8 h20 hl hp b o cap hcap w hb hc).mono ?_
      rintro e w' ⟨x, y, z, hx, hy, hz, rfl, hB⟩
      have hs := long_law l n hl h8 hp x y z hx hy hz
      rw [hs.1]
      exact ⟨_, rfl, hs.2, hB⟩
end Go.Proofs.YbulkbqwiFmt
