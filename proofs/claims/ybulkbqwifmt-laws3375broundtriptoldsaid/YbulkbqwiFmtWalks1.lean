/-
  DERIVED. THE WALKS, first part: the words of digits (digits.go), pastMaxTime.
-/
import Derived.Test.YbulkbqwiFmtRows
import Derived.Test.YbulkbqwiFmtMath2
import Derived.Test.YbulkbqwiFmtBin
import Derived.WalkKit
import Derived.WalkSpells
import Derived.WalkLawsBesides
import Derived.Laws.IdiomStrings
import Derived.Deep.RegionWith
namespace Go.Proofs.YbulkbqwiFmt
open Go.RowKit M

theorem ret_int {k : IntKind} {a b : Int} (h : a = b) : Ending.returned (.int k a) = .returned (.int k b) := by rw [h]
theorem val_int {k : IntKind} {a b : Int} (h : a = b) : Value.int k a = .int k b := by rw [h]

/-- byte i, as a number. -/
def bt (l : List UInt8) (i : Nat) : Nat := (l.getD i 0).toNat
theorem bt_lt (l : List UInt8) (i : Nat) : bt l i < 256 := (l.getD i 0).toNat_lt
theorem take_bt (l : List UInt8) (k : Nat) (h : k < l.length) : l.take (k + 1) = l.take k ++ [l.getD k 0] := by
  rw [List.take_succ_eq_append_getElem h]
  simp [h]

theorem conv_run (w : World) (b o cap n : Nat) (l : List UInt8) (hn : l.length = n) (hc : ∀ j, j < n → w.cell? ⟨b, o + j, none⟩ = some (.int .u8 (bt l j : Int))) :
    (convert 22 9 (.slice (some ⟨b, o, none⟩) n cap)).run Ybaf.prog w = .ok (.string ⟨l.toArray⟩) w := by
  subst hn
  refine run_convert_bytes_back (P := Ybaf.prog) w 22 9 5 ⟨b, o, none⟩ cap l Ybaf.underlying22 Ybaf.underlying5 Ybaf.underlying9 (fun j hj => ?_)
  have hp : (⟨b, o, none⟩ : Addr).add j = ⟨b, o + j, none⟩ := by unfold Addr.add; split <;> simp_all
  rw [hp, hc j hj]
  simp [bt, hj]

set_option maxHeartbeats 400000 in
theorem decimalWord_any (x : Int) (w : World) :
    Calls Ybaf.prog 35 #[.int .u64 x] w fun e w' => e = .returned (.tuple #[.int .u64 (dvI x), .int .u64 (dfI x)]) ∧ w' = w := by
  go_enter Ybaf.func35, Ybaf.ntmps35
  go_wp2
  go_ret2
  exact ⟨rfl, rfl⟩

/-! pastMaxTime -/
set_option maxHeartbeats 400000 in
theorem past_20 (l : List UInt8) (hl : l.length = 20) (b o cap : Nat) (w : World)
    (hc : ∀ j, j < 20 → w.cell? ⟨b, o + j, none⟩ = some (.int .u8 (bt l j : Int))) :
    Calls Ybaf.prog 34 #[.slice (some ⟨b, o, none⟩) 20 cap] w fun e w' => e = .returned (.bool (pastB l)) ∧ w' = w := by
  have hcv := conv_run w b o cap 20 l hl hc
  have HP : Hid (pastB l = gtB l) := by unfold pastB; rw [if_neg (by omega), if_pos hl]; exact rfl
  clear hc hl
  go_enter Ybaf.func34, Ybaf.ntmps34
  go_wp2
  go_ret
  exact ⟨by rw [HP.out]; rfl, rfl⟩
set_option maxHeartbeats 400000 in
theorem past_no (a : Option Addr) (n cap : Nat) (hn : n < 20) (w : World) :
    Calls Ybaf.prog 34 #[.slice a n cap] w fun e w' => e = .returned (.bool false) ∧ w' = w := by
  go_enter Ybaf.func34, Ybaf.ntmps34
  go_wp2
  go_ret
  exact ⟨by rw [show (false : Bool) = decide (20 < (n : Int)) from (decide_eq_false (by omega)).symm]; rfl, rfl⟩
set_option maxHeartbeats 400000 in
theorem past_yes (a : Option Addr) (n cap : Nat) (hn : 20 < n) (w : World) :
    Calls Ybaf.prog 34 #[.slice a n cap] w fun e w' => e = .returned (.bool true) ∧ w' = w := by
  go_enter Ybaf.func34, Ybaf.ntmps34
  go_wp2
  go_ret
  exact ⟨rfl, rfl⟩
theorem past_any (l : List UInt8) (n : Nat) (hl : l.length = n) (b o cap : Nat) (w : World)
    (hc : ∀ j, j < n → w.cell? ⟨b, o + j, none⟩ = some (.int .u8 (bt l j : Int))) :
    Calls Ybaf.prog 34 #[.slice (some ⟨b, o, none⟩) n cap] w fun e w' => e = .returned (.bool (pastB l)) ∧ w' = w := by
  rcases Nat.lt_trichotomy n 20 with h | h | h
  · have hp : pastB l = false := by unfold pastB; rw [if_neg (by omega), if_neg (by omega)]
    rw [hp]; exact past_no _ n cap h w
  · subst h
    exact past_20 l hl b o cap w hc
  · have hp : pastB l = true := by unfold pastB; rw [if_pos (by omega)]
    rw [hp]; exact past_yes _ n cap h w

/-! shortWord -/
theorem zero_shr : ∀ n, n < 8 → (3472328296227680304 : Int) / 2 ^ (8 * n) = (Lib.leNat (List.replicate (8 - n) 48) : Int) := by decide
theorem pow_256 (m : Nat) : (2 : Int) ^ (8 * m) = ((256 ^ m : Nat) : Int) := by
  rw [Int.pow_mul, show (2 : Int) ^ 8 = ((256 : Nat) : Int) from rfl, ← Int.natCast_pow]
theorem pow_le_256 (m : Nat) (h : m ≤ 7) : 256 ^ m ≤ 72057594037927936 := by
  have : (256 : Nat) ^ m ≤ 256 ^ 7 := Nat.pow_le_pow_right (by decide) h
  exact this
theorem or_add (a c m : Nat) (h : a < 256 ^ m) : a ||| (c * 256 ^ m) = a + 256 ^ m * c := by
  have e : (256 : Nat) ^ m = 2 ^ (8 * m) := by rw [Nat.pow_mul]
  rw [e] at h ⊢
  rw [Nat.or_comm, Nat.mul_comm, ← Nat.two_pow_add_eq_or_of_lt h]
  omega
theorem or_shl (A : List UInt8) (c : UInt8) (m : Nat) (hm : A.length = m) (h7 : m ≤ 7) :
    bits BinOp.or IntKind.u64 (Lib.leNat A : Int) (IntKind.u64.wrap (IntKind.u64.wrap (c.toNat : Int) * 2 ^ (8 * m))) = (Lib.leNat (A ++ [c]) : Int) := by
  have hc := c.toNat_lt
  have hp := pow_le_256 m h7
  have hA := le_lt A
  rw [hm] at hA
  have h1 : c.toNat * 256 ^ m ≤ 255 * 72057594037927936 := Nat.mul_le_mul (by omega) hp
  rw [wrap_u64, wrap_u64, pow_256]
  have e1 : ((c.toNat : Int) % 18446744073709551616 * ((256 ^ m : Nat) : Int)) % 18446744073709551616 = ((c.toNat * 256 ^ m : Nat) : Int) := by
    rw [show (c.toNat : Int) % 18446744073709551616 = (c.toNat : Int) from Int.emod_eq_of_lt (by omega) (by omega), ← Int.natCast_mul]
    exact Int.emod_eq_of_lt (by omega) (by omega)
  rw [e1, bits_or_u64_nat _ _ (by omega) (by omega), or_add _ _ _ hA, le_append, hm]
  simp [Lib.leNat]

set_option maxHeartbeats 400000 in
theorem shortWord_any (l : List UInt8) (n : Nat) (hl : l.length = n) (h1 : n < 8) (b o cap : Nat) (w : World)
    (hc : ∀ j, j < n → w.cell? ⟨b, o + j, none⟩ = some (.int .u8 (bt l j : Int))) :
    Calls Ybaf.prog 36 #[.slice (some ⟨b, o, none⟩) n cap] w fun e w' => e = .returned (.int .u64 (Lib.leNat (List.replicate (8 - n) 48 ++ l))) ∧ w' = w := by
  have HL : Hid (l.length = n) := hl
  clear hl
  go_enter Ybaf.func36, Ybaf.ntmps36
  go_wp2
  go_loop [3, 11] (fun x i => ∃ k : Nat, k ≤ n ∧ i = .int .i64 k ∧ x = .int .u64 (Lib.leNat (List.replicate (8 - n) 48 ++ l.take k))) (fun _ i => n - (intOf i).toNat)
  case atStart => exact ⟨0, by omega, rfl, val_int (by rw [zero_shr n h1]; simp)⟩
  case round =>
    obtain ⟨k, hk, rfl, rfl⟩ := hrel
    by_cases hlt : k < n
    · go_wp2
      go_round
      case rel =>
        refine ⟨k + 1, by omega, by go_num, val_int ?_⟩
        have hl := HL.out
        rw [take_bt l k (by omega), ← List.append_assoc]
        exact or_shl _ (l.getD k 0) (8 - n + k) (by rw [List.length_append, List.length_replicate, List.length_take]; omega) (by omega)
      case measure => simp [intOf]; omega
    · go_wp2
      go_ret
      refine ⟨ret_int ?_, rfl⟩
      have hl := HL.out
      rw [List.take_of_length_le (by omega)]

/-! decimalWords -/
theorem or_zero3 (a b c : Nat) : (a ||| b) ||| c = 0 ↔ a = 0 ∧ b = 0 ∧ c = 0 := by
  constructor
  · intro h
    have h1 := Nat.or_eq_zero_iff.1 h
    have h2 := Nat.or_eq_zero_iff.1 h1.1
    exact ⟨h2.1, h2.2, h1.2⟩
  · rintro ⟨rfl, rfl, rfl⟩; rfl
theorem or3 (a b c : Nat) : bits BinOp.or IntKind.u64 (bits BinOp.or IntKind.u64 (dfI (a : Int)) (dfI (b : Int))) (dfI (c : Int)) = (((fw a ||| fw b) ||| fw c : Nat) : Int) := by
  rw [dfI_fw, dfI_fw, dfI_fw, bits_or_u64_nat _ _ (fw_lt a) (fw_lt b), bits_or_u64_nat _ _ (Nat.or_lt_two_pow (n := 64) (fw_lt a) (fw_lt b)) (fw_lt c)]

def sumI (x y z : Int) : Int := IntKind.u64.wrap (IntKind.u64.wrap (IntKind.u64.wrap (dvI x * 10000000000000000) + dvI y * 100000000) + dvI z)
def fltI (x y z : Int) : Int := bits BinOp.or IntKind.u64 (bits BinOp.or IntKind.u64 (dfI x) (dfI y)) (dfI z)
theorem sumI_mod (x y z : Int) : sumI x y z = (dvI x * 10000000000000000 + dvI y * 100000000 + dvI z) % 18446744073709551616 := by
  unfold sumI
  rw [wrap_u64, wrap_u64, wrap_u64]
  omega

set_option maxHeartbeats 400000 in
theorem decimalWords_any (x y z : Int) (w : World) :
    Calls Ybaf.prog 37 #[.int .u64 x, .int .u64 y, .int .u64 z] w fun e w' => e = .returned (.tuple #[.int .u64 (sumI x y z), .int .u64 (fltI x y z)]) ∧ w' = w := by
  have bx := dvI_bounds x
  have by' := dvI_bounds y
  have bz := dvI_bounds z
  go_enter Ybaf.func37, Ybaf.ntmps37
  go_wp2_with (go_at_call 35; refine (decimalWord_any _ _).mono ?_; rintro e w' ⟨rfl, rfl⟩)
  go_ret2
  exact ⟨rfl, rfl⟩

/-! loadWord -/
theorem wrap_i64_small (n : Int) (h0 : 0 ≤ n) (h1 : n < 1000) : IntKind.i64.wrap n = n := by
  have e : n % 18446744073709551616 = n := Int.emod_eq_of_lt h0 (by omega)
  simp [IntKind.wrap, IntKind.bits, IntKind.signed, e]
  omega
theorem eight (l : List UInt8) (i : Nat) (h : i + 8 ≤ l.length) : (l.drop i).take 8 = [l.getD i 0, l.getD (i + 1) 0, l.getD (i + 2) 0, l.getD (i + 3) 0, l.getD (i + 4) 0, l.getD (i + 5) 0, l.getD (i + 6) 0, l.getD (i + 7) 0] := by
  apply List.ext_getElem
  · simp; omega
  · intro k h1 h2
    have hk : k < 8 := by simpa using h2
    have hh : k = 0 ∨ k = 1 ∨ k = 2 ∨ k = 3 ∨ k = 4 ∨ k = 5 ∨ k = 6 ∨ k = 7 := by omega
    rw [List.getElem_take, List.getElem_drop]
    have g : ∀ j (hj : j < l.length), l[j] = l.getD j 0 := fun j hj => by simp [List.getD, List.getElem?_eq_getElem hj]
    rcases hh with rfl | rfl | rfl | rfl | rfl | rfl | rfl | rfl <;> exact g _ _

set_option maxHeartbeats 400000 in
theorem loadWord_any (l : List UInt8) (n i : Nat) (z : Int) (hz : z = i) (hl : l.length = n) (hi : i + 8 ≤ n) (h20 : n ≤ 20) (b o cap : Nat) (hcap : n ≤ cap) (w : World)
    (hc : ∀ j, j < n → w.cell? ⟨b, o + j, none⟩ = some (.int .u8 (bt l j : Int))) :
    Calls Ybaf.prog 41 #[.slice (some ⟨b, o, none⟩) n cap, .int .i64 z] w fun e w' => e = .returned (.int .u64 (Lib.leNat ((l.drop i).take 8))) ∧ Below w.heap.size w w' := by
  subst hz
  have hu : ∀ m c, m = 8 → Calls Ybaf.prog 42 #[.agg #[], .slice (some ⟨b, o + i, none⟩) m c] w.drew fun e w' => e = .returned (.int .u64 (Lib.leNat ((l.drop i).take 8))) ∧ Below w.heap.size w w' := by
    intro m c hm
    subst hm
    rw [eight l i (by omega)]
    have hcc : ∀ j, j < 8 → w.drew.cell? ⟨b, o + i + j, none⟩ = some (.int .u8 ((l.getD (i + j) 0).toNat : Int)) := by
      intro j hj
      have := hc (i + j) (by omega)
      rw [Nat.add_assoc]
      simpa [bt] using this
    refine (Ybaf.binary_LE_Uint64 b (o + i) 8 c _ _ _ _ _ _ _ _ w.drew (by omega) (hcc 0 (by omega)) (hcc 1 (by omega)) (hcc 2 (by omega)) (hcc 3 (by omega)) (hcc 4 (by omega)) (hcc 5 (by omega)) (hcc 6 (by omega)) (hcc 7 (by omega))).mono ?_
    rintro e w' ⟨rfl, hB⟩
    exact ⟨rfl, (Below.refl _ w).drew.trans hB⟩
  have hne : ¬ cap = i := by omega
  have i1 : (0 : Int) ≤ (i : Int) := by omega
  have i2 : (i : Int) ≤ (i : Int) + 8 := by omega
  have i3 : (i : Int) + 8 ≤ (cap : Int) := by omega
  have i4 : (i : Int) ≤ 20 := by omega
  have hwr : IntKind.i64.wrap ((i : Int) + 8) = (i : Int) + 8 := wrap_i64_small _ (by omega) (by omega)
  have hw8 : IntKind.i64.wrap 8 = 8 := wrap_i64_small 8 (by omega) (by omega)
  clear hc hl
  by_cases i0 : i = 0
  · subst i0
    have c0 : ¬ cap = 0 := by omega
    simp only [Nat.add_zero] at hu
    go_enter Ybaf.func41, Ybaf.ntmps41
    go_wp2_with fail
    go_region_with (go_at_call 42; refine (hu _ _ (by omega)).mono ?_; rintro e w2 ⟨rfl, hB⟩)
    all_goals
      go_wp2
      go_ret
      exact ⟨rfl, hB⟩
  · go_enter Ybaf.func41, Ybaf.ntmps41
    go_wp2_with fail
    go_region_with (go_at_call 42; refine (hu _ _ (by omega)).mono ?_; rintro e w2 ⟨rfl, hB⟩)
    all_goals
      go_wp2
      go_ret
      exact ⟨rfl, hB⟩

end Go.Proofs.YbulkbqwiFmt
