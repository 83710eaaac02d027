/-
  DERIVED. fmt.Errorf at this program's formats: the closed facts over fmt's stopped front (after the kit's CheckFmt and GuardFmt), and contracts: a new error comes back, whatever fmt's text is; nothing that was there has turned.
-/
import Derived.Test.YbulkbqwiFmtWalks2
import Derived.Stop.CallBack
import Derived.Stop.IfaceNil
import GoSem.ClaimData
namespace Go.Proofs.YbulkbqwiFmt
open Go.RowKit M
open Go.Extern.Stop Go.Stop Go.Extern

theorem call26 (args : Array Value) (w : World) : (callFunc 26 args).run Ybaf.prog w = ((FmtStop.errorf #[9, 53] #[29] args).run Ybaf.prog w).andThen fun v w' => .ok (.value v) w' :=
  run_callFunc_extern Ybaf.func26 (by kernel_rfl) (by kernel_rfl) (by kernel_rfl) (by kernel_rfl) args w
theorem guardF (name : String) (w : World) : (FmtStop.guard name).run Ybaf.prog w = .ok () w := by kernel_rfl
def shape9 : List UInt8 := [12, 6, 0, 0, 0, 0, 0, 0, 0, 115, 116, 114, 105, 110, 103]
def shape3 : List UInt8 := [5, 3, 0, 0, 0, 0, 0, 0, 0, 105, 110, 116]
theorem op9_113w (name : String) (x : ByteArray) (w : World) : (FmtStop.operand name true 113 false (.iface 9 (.string x))).run Ybaf.prog w = .ok (shape9, FmtStop.pack x.data.toList) w := by kernel_rfl
theorem op3_100w (name : String) (x : Int) (w : World) : (FmtStop.operand name true 100 false (.iface 3 (.int .i64 x))).run Ybaf.prog w = .ok (shape3, Go.Extern.Stop.digits 8 (x % 2 ^ 64).toNat) w := by kernel_rfl
theorem ptr50 (w : World) : (FmtStop.ptrTo "errors.errorString").run Ybaf.prog w = .ok 50 w := by kernel_rfl
theorem elem50 (w : World) : (elemOf 50).run Ybaf.prog w = .ok 52 w := by kernel_rfl
theorem isError50 (w : World) : (FmtDoors.textMethod 50 "Error").run Ybaf.prog w = .ok true w := by kernel_rfl
theorem ptr54 (w : World) : (FmtStop.ptrTo "fmt.wrapError").run Ybaf.prog w = .ok 54 w := by kernel_rfl
theorem elem54 (w : World) : (elemOf 54).run Ybaf.prog w = .ok 89 w := by kernel_rfl
theorem opPlain50_119w (name : String) (a : Addr) (s : ByteArray) (w : World) (hc : w.cell? a = some (.string s)) :
    ∃ r1 r2, (FmtStop.operand name true 119 false (.iface 50 (.pointer (some a)))).run Ybaf.prog w = .ok (r1, r2) w := by
  have h1 : (typeStr 50).run Ybaf.prog w = .ok Ybaf.t50.str w := by kernel_rfl
  have d2 : Ybaf.t50.desc = .pointer 52 := rfl
  have d3 : Ybaf.t52.desc = .named "errors.errorString" 51 := rfl
  exact ⟨14 :: FmtStop.pack Ybaf.t50.str.toUTF8.data.toList, s.data.toList, by simp [FmtStop.operand, h1, d2, d3, run_load, hc]⟩

theorem fmtA (w : World) : (FmtDoors.printed ⟨#[116, 105, 109, 101, 32, 37, 113, 58, 32, 97, 32, 108, 101, 97, 100, 105, 110, 103, 32, 122, 101, 114, 111]⟩ 1).run Ybaf.prog w = .ok [(0, 113, false)] w := by kernel_rfl
theorem fmtB (w : World) : (FmtDoors.printed ⟨#[116, 105, 109, 101, 32, 37, 113, 58, 32, 109, 111, 114, 101, 32, 116, 104, 97, 110, 32, 54, 52, 32, 98, 105, 116, 115]⟩ 1).run Ybaf.prog w = .ok [(0, 113, false)] w := by kernel_rfl
theorem fmtC (w : World) : (FmtDoors.printed ⟨#[116, 105, 109, 101, 32, 37, 113, 58, 32, 119, 97, 110, 116, 32, 48, 32, 111, 114, 32, 100, 101, 99, 105, 109, 97, 108, 32, 100, 105, 103, 105, 116, 115]⟩ 1).run Ybaf.prog w = .ok [(0, 113, false)] w := by kernel_rfl
theorem fmtD (w : World) : (FmtDoors.printed ⟨#[100, 97, 109, 97, 103, 101, 100, 58, 32, 108, 111, 110, 103, 101, 114, 32, 116, 104, 97, 110, 32, 37, 100, 32, 98, 121, 116, 101, 115]⟩ 1).run Ybaf.prog w = .ok [(0, 100, false)] w := by kernel_rfl
theorem fmtE (w : World) : (FmtDoors.printed ⟨#[100, 97, 109, 97, 103, 101, 100, 58, 32, 37, 119]⟩ 1).run Ybaf.prog w = .ok [(0, 119, false)] w := by kernel_rfl
theorem fmtG (w : World) : (FmtDoors.printed ⟨#[119, 97, 108, 108, 115, 116, 101, 112, 58, 32, 37, 119]⟩ 1).run Ybaf.prog w = .ok [(0, 119, false)] w := by kernel_rfl

theorem cell_new (w : World) (v : Value) (t : TypeId) : (w.alloc (.cells #[v] t)).drew.cell? ⟨w.heap.size, 0, none⟩ = some v := by simp [go_sem]

attribute [local go_sem] call26 guardF op9_113w op3_100w ptr50 elem50 isError50 ptr54 elem54 fmtA fmtB fmtC fmtD fmtE fmtG

set_option maxHeartbeats 400000 in
theorem errorf_A (F : Interp) (k : Nat) (s : ByteArray) (w : World) (hF : F.answers w.tape) (hc : w.cell? ⟨k, 0, none⟩ = some (.iface 9 (.string s))) :
    Calls Ybaf.prog 18 #[.string ⟨#[116, 105, 109, 101, 32, 37, 113, 58, 32, 97, 32, 108, 101, 97, 100, 105, 110, 103, 32, 122, 101, 114, 111]⟩, .slice (some ⟨k, 0, none⟩) 1 1] w fun e w' =>
      ∃ t, e = .returned (.iface 50 (.pointer (some ⟨w.heap.size, 0, none⟩))) ∧ w'.cell? ⟨w.heap.size, 0, none⟩ = some (.string t) ∧ w.heap.size < w'.heap.size ∧ Below w.heap.size w w' := by
  have hF' := answers_open hF
  go_enter Ybaf.func18, Ybaf.ntmps18
  go_wp2
  go_ret
  exact ⟨_, rfl, cell_new w _ _, by simp, ((Below.refl _ w).alloc (Nat.le_refl _) _).drew⟩
set_option maxHeartbeats 400000 in
theorem errorf_B (F : Interp) (k : Nat) (s : ByteArray) (w : World) (hF : F.answers w.tape) (hc : w.cell? ⟨k, 0, none⟩ = some (.iface 9 (.string s))) :
    Calls Ybaf.prog 18 #[.string ⟨#[116, 105, 109, 101, 32, 37, 113, 58, 32, 109, 111, 114, 101, 32, 116, 104, 97, 110, 32, 54, 52, 32, 98, 105, 116, 115]⟩, .slice (some ⟨k, 0, none⟩) 1 1] w fun e w' =>
      ∃ t, e = .returned (.iface 50 (.pointer (some ⟨w.heap.size, 0, none⟩))) ∧ w'.cell? ⟨w.heap.size, 0, none⟩ = some (.string t) ∧ w.heap.size < w'.heap.size ∧ Below w.heap.size w w' := by
  have hF' := answers_open hF
  go_enter Ybaf.func18, Ybaf.ntmps18
  go_wp2
  go_ret
  exact ⟨_, rfl, cell_new w _ _, by simp, ((Below.refl _ w).alloc (Nat.le_refl _) _).drew⟩
set_option maxHeartbeats 400000 in
theorem errorf_C (F : Interp) (k : Nat) (s : ByteArray) (w : World) (hF : F.answers w.tape) (hc : w.cell? ⟨k, 0, none⟩ = some (.iface 9 (.string s))) :
    Calls Ybaf.prog 18 #[.string ⟨#[116, 105, 109, 101, 32, 37, 113, 58, 32, 119, 97, 110, 116, 32, 48, 32, 111, 114, 32, 100, 101, 99, 105, 109, 97, 108, 32, 100, 105, 103, 105, 116, 115]⟩, .slice (some ⟨k, 0, none⟩) 1 1] w fun e w' =>
      ∃ t, e = .returned (.iface 50 (.pointer (some ⟨w.heap.size, 0, none⟩))) ∧ w'.cell? ⟨w.heap.size, 0, none⟩ = some (.string t) ∧ w.heap.size < w'.heap.size ∧ Below w.heap.size w w' := by
  have hF' := answers_open hF
  go_enter Ybaf.func18, Ybaf.ntmps18
  go_wp2
  go_ret
  exact ⟨_, rfl, cell_new w _ _, by simp, ((Below.refl _ w).alloc (Nat.le_refl _) _).drew⟩
set_option maxHeartbeats 400000 in
theorem errorf_D (F : Interp) (k : Nat) (x : Int) (w : World) (hF : F.answers w.tape) (hc : w.cell? ⟨k, 0, none⟩ = some (.iface 3 (.int .i64 x))) :
    Calls Ybaf.prog 18 #[.string ⟨#[100, 97, 109, 97, 103, 101, 100, 58, 32, 108, 111, 110, 103, 101, 114, 32, 116, 104, 97, 110, 32, 37, 100, 32, 98, 121, 116, 101, 115]⟩, .slice (some ⟨k, 0, none⟩) 1 1] w fun e w' =>
      (∃ p, e = .returned (.iface 50 p)) ∧ Below w.heap.size w w' := by
  have hF' := answers_open hF
  go_enter Ybaf.func18, Ybaf.ntmps18
  go_wp2
  go_ret
  exact ⟨⟨_, rfl⟩, ((Below.refl _ w).alloc (Nat.le_refl _) _).drew⟩
set_option maxHeartbeats 400000 in
theorem errorf_E (F : Interp) (k : Nat) (a : Addr) (s : ByteArray) (w : World) (hF : F.answers w.tape) (hc : w.cell? ⟨k, 0, none⟩ = some (.iface 50 (.pointer (some a)))) (hs : w.cell? a = some (.string s)) :
    Calls Ybaf.prog 18 #[.string ⟨#[100, 97, 109, 97, 103, 101, 100, 58, 32, 37, 119]⟩, .slice (some ⟨k, 0, none⟩) 1 1] w fun e w' =>
      (∃ p, e = .returned (.iface 54 p)) ∧ Below w.heap.size w w' := by
  have hF' := answers_open hF
  obtain ⟨r1, r2, hop⟩ := opPlain50_119w "fmt.errorf" a s w hs
  go_enter Ybaf.func18, Ybaf.ntmps18
  go_wp2
  go_ret
  exact ⟨⟨_, rfl⟩, ((Below.refl _ w).alloc (Nat.le_refl _) _).drew⟩
set_option maxHeartbeats 400000 in
theorem errorf_G (F : Interp) (k : Nat) (a : Addr) (s : ByteArray) (w : World) (hF : F.answers w.tape) (hc : w.cell? ⟨k, 0, none⟩ = some (.iface 50 (.pointer (some a)))) (hs : w.cell? a = some (.string s)) :
    Calls Ybaf.prog 18 #[.string ⟨#[119, 97, 108, 108, 115, 116, 101, 112, 58, 32, 37, 119]⟩, .slice (some ⟨k, 0, none⟩) 1 1] w fun e w' =>
      (∃ p, e = .returned (.iface 54 p)) ∧ Below w.heap.size w w' := by
  have hF' := answers_open hF
  obtain ⟨r1, r2, hop⟩ := opPlain50_119w "fmt.errorf" a s w hs
  go_enter Ybaf.func18, Ybaf.ntmps18
  go_wp2
  go_ret
  exact ⟨⟨_, rfl⟩, ((Below.refl _ w).alloc (Nat.le_refl _) _).drew⟩
set_option maxHeartbeats 400000 in
theorem new_any (s : ByteArray) (w : World) :
    Calls Ybaf.prog 17 #[.string s] w fun e w' => (∃ p, e = .returned (.iface 50 p)) ∧ Below w.heap.size w w' := by
  go_enter Ybaf.func17, Ybaf.ntmps17
  go_wp2
  go_ret
  exact ⟨⟨_, rfl⟩, ((Below.refl _ w).alloc (Nat.le_refl _) _)⟩
end Go.Proofs.YbulkbqwiFmt
