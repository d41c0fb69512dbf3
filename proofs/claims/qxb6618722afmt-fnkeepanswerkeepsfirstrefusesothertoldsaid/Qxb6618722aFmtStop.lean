/-
  Seat b6618722aF: fmt.Sprintf with its operands' methods called; (role).String; invalid.
-/
import Derived.Test.Qxb6618722aFmtHex
import Derived.Stop.CallBack
import Derived.Stop.IfaceNil
import GoSem.ClaimData
namespace Go.Proofs.Qxb6618722aFmt
open Go.RowKit Go.Maps Go.Extern.Stop Go.Stop Go.Extern
set_option linter.unusedVariables false
set_option maxRecDepth 4000

theorem call36 (args : Array Value) (w : World) : (callFunc 36 args).run Tryf.prog w = (FmtCalls.sprintf #[9, 108] #[9] args).run Tryf.prog w :=
  run_callFunc_next Tryf.func36 (by kernel_rfl) (by kernel_rfl) (by kernel_rfl) args w
theorem fguard (name : String) (w : World) : (FmtStop.guard name).run Tryf.prog w = .ok () w := by kernel_rfl
theorem nextTurns : Extern.next FmtCalls.turnsRow = some (FmtCalls.begun #[] #[]) := by kernel_rfl
theorem nextReturned : Extern.next FmtCalls.returnedRow = some (FmtCalls.returned #[] #[]) := by kernel_rfl
theorem fmtX : FmtStop.printed? ⟨#[116, 119, 111, 32, 100, 105, 102, 102, 101, 114, 101, 110, 116, 32, 97, 110, 115, 119, 101, 114, 115, 32, 111, 102, 32, 101, 120, 116, 114, 97, 32, 118, 101, 114, 105, 102, 105, 101, 114, 32, 37, 115]⟩ 1 = some [(0, 115, false)] := by kernel_rfl
theorem fmtR : FmtStop.printed? ⟨#[116, 119, 111, 32, 100, 105, 102, 102, 101, 114, 101, 110, 116, 32, 97, 110, 115, 119, 101, 114, 115, 32, 111, 102, 32, 116, 104, 101, 32, 37, 115, 32, 116, 111, 32, 105, 110, 112, 117, 116, 32, 37, 100]⟩ 2 = some [(0, 115, false), (1, 100, false)] := by kernel_rfl
theorem fmtL : FmtStop.printed? ⟨#[114, 111, 108, 101, 32, 37, 100]⟩ 1 = some [(0, 100, false)] := by kernel_rfl
theorem act44 (name : String) (x : Value) (w : World) : (FmtCalls.act name false 115 false (.iface 44 x)).run Tryf.prog w = .ok (.call false) w := by kernel_rfl
theorem act62 (name : String) (x : Value) (w : World) : (FmtCalls.act name false 115 false (.iface 62 x)).run Tryf.prog w = .ok (.call false) w := by kernel_rfl
theorem act27 (name : String) (x : Value) (w : World) : (FmtCalls.act name false 100 false (.iface 27 x)).run Tryf.prog w = .ok (.closed false) w := by kernel_rfl
theorem act5 (name : String) (x : Value) (w : World) : (FmtCalls.act name false 100 false (.iface 5 x)).run Tryf.prog w = .ok (.closed false) w := by kernel_rfl
def shape27 : List UInt8 := [8, 6, 0, 0, 0, 0, 0, 0, 0, 117, 105, 110, 116, 51, 50]
def shape5 : List UInt8 := [6, 5, 0, 0, 0, 0, 0, 0, 0, 117, 105, 110, 116, 56]
theorem op27 (name : String) (x : Int) (w : World) : (FmtStop.operand name false 100 false (.iface 27 (.int .u32 x))).run Tryf.prog w = .ok (shape27, Go.Extern.Stop.digits 8 (x % 2 ^ 64).toNat) w := by kernel_rfl
theorem op5 (name : String) (x : Int) (w : World) : (FmtStop.operand name false 100 false (.iface 5 (.int .u8 x))).run Tryf.prog w = .ok (shape5, Go.Extern.Stop.digits 8 (x % 2 ^ 64).toNat) w := by kernel_rfl
theorem isString44 (w : World) : (FmtDoors.textMethod 44 "String").run Tryf.prog w = .ok true w := by kernel_rfl
theorem isString62 (w : World) : (FmtDoors.textMethod 62 "String").run Tryf.prog w = .ok true w := by kernel_rfl
theorem invoke44 (x : Value) (w : World) : (invoke (.fn (.method "String") #[]) #[.iface 44 x]).run Tryf.prog w = .ok (.enter 16 #[x]) w := by kernel_rfl
theorem invoke62 (x : Value) (w : World) : (invoke (.fn (.method "String") #[]) #[.iface 62 x]).run Tryf.prog w = .ok (.enter 68 #[x]) w := by kernel_rfl
theorem str44 (w : World) : (typeStr 44).run Tryf.prog w = .ok "verifold.Identity" w := by kernel_rfl
theorem str62 (w : World) : (typeStr 62).run Tryf.prog w = .ok "verifold.role" w := by kernel_rfl

set_option maxHeartbeats 1000000 in
theorem roleString_any (F : Interp) (r : Nat) (w : World) (hF : F.answers w.tape) (hr : r < 3) :
    Calls Tryf.prog 68 #[.int .u8 r] w fun e w' => IsS e ∧ Below w.heap.size w w' := by
  have hF' := answers_open hF
  rcases (by omega : r = 0 ∨ r = 1 ∨ r = 2) with rfl | rfl | rfl
  · have k0 := call36
    have k1 := fguard
    have k2 := fmtL
    have k3 := act5
    have k4 := op5
    go_enter Tryf.func68, Tryf.ntmps68
    go_wp2
    apply rows_value nextTurns
    case hr =>
      go_simp
      exact ⟨rfl, rfl⟩
    case h =>
      go_wp2
      go_ret
      exact ⟨⟨_, rfl⟩, ((Below.refl _ w).alloc (Nat.le_refl _) _).drew⟩
  · go_enter Tryf.func68, Tryf.ntmps68
    go_wp2
    go_ret
    exact ⟨⟨_, rfl⟩, Below.refl _ _⟩
  · go_enter Tryf.func68, Tryf.ntmps68
    go_wp2
    go_ret
    exact ⟨⟨_, rfl⟩, Below.refl _ _⟩

/-- A pointer that is not nil is handed back. -/
def IsP (e : Ending) : Prop := ∃ p, e = .returned (.pointer (some p))

set_option maxHeartbeats 1000000 in
theorem invalidX_any (F : Interp) (n : Int) (v : Nat) (d : List Int) (w : World) (hF : F.answers w.tape) (hd : Good d) (hc : w.cell? ⟨v, 0, none⟩ = some (.iface 44 (A d))) :
    Calls Tryf.prog 29 #[.int .i64 n, .string ⟨#[116, 119, 111, 32, 100, 105, 102, 102, 101, 114, 101, 110, 116, 32, 97, 110, 115, 119, 101, 114, 115, 32, 111, 102, 32, 101, 120, 116, 114, 97, 32, 118, 101, 114, 105, 102, 105, 101, 114, 32, 37, 115]⟩, .slice (some ⟨v, 0, none⟩) 1 1] w fun e w' => IsP e ∧ Below w.heap.size w w' := by
  have hF' := answers_open hF
  have k0 := call36
  have k1 := fguard
  have k2 := fmtX
  have k3 := act44
  have k5 := isString44
  have k6 := str44
  go_enter Tryf.func29, Tryf.ntmps29
  go_wp2
  apply rows_call nextTurns
  case hr =>
    go_simp
    exact ⟨⟨rfl, rfl, rfl⟩, rfl⟩
  case hi => exact invoke44 _ _
  case hc =>
    refine (idString_any d _ hd).mono fun e w₃ ⟨⟨s, he⟩, hx⟩ => ?_
    subst he
    have hF3 := answers_open (show F.answers w₃.tape by rw [hx.tape]; exact hF)
    apply rows_value nextReturned
    case hr =>
      go_simp
      exact ⟨rfl, rfl⟩
    case h =>
      go_wp2
      go_ret
      exact ⟨⟨_, rfl⟩, ((hx.drew).alloc hx.size _)⟩

set_option maxHeartbeats 1000000 in
theorem invalidR_any (F : Interp) (n : Int) (v : Nat) (r : Nat) (i : Int) (w : World) (hF : F.answers w.tape) (hr : r < 3) (hc : w.cell? ⟨v, 0, none⟩ = some (.iface 62 (.int .u8 r))) (hc1 : w.cell? ⟨v, 1, none⟩ = some (.iface 27 (.int .u32 i))) :
    Calls Tryf.prog 29 #[.int .i64 n, .string ⟨#[116, 119, 111, 32, 100, 105, 102, 102, 101, 114, 101, 110, 116, 32, 97, 110, 115, 119, 101, 114, 115, 32, 111, 102, 32, 116, 104, 101, 32, 37, 115, 32, 116, 111, 32, 105, 110, 112, 117, 116, 32, 37, 100]⟩, .slice (some ⟨v, 0, none⟩) 2 2] w fun e w' => IsP e ∧ Below w.heap.size w w' := by
  have hF' := answers_open hF
  have hv := World.block_lt_of_cell? _ _ hc1
  have k0 := call36
  have k1 := fguard
  have k2 := fmtR
  have k3 := act62
  have k4 := act27
  have k5 := isString62
  have k6 := str62
  have k7 := op27
  go_enter Tryf.func29, Tryf.ntmps29
  go_wp2
  apply rows_call nextTurns
  case hr =>
    go_simp
    exact ⟨⟨rfl, rfl, rfl⟩, rfl⟩
  case hi => exact invoke62 _ _
  case hc =>
    refine (roleString_any F r _ hF hr).mono fun e w₃ ⟨⟨s, he⟩, hx⟩ => ?_
    subst he
    have hF3 := answers_open (show F.answers w₃.tape by rw [hx.tape]; exact hF)
    have hc3 : w₃.cell? ⟨v, 1, none⟩ = some (.iface 27 (.int .u32 i)) := by rw [cell_eq (hx.block v hv)]; exact hc1
    apply rows_value nextReturned
    case hr =>
      go_simp
      exact ⟨rfl, rfl⟩
    case h =>
      go_wp2
      go_ret
      exact ⟨⟨_, rfl⟩, ((hx.drew).alloc hx.size _)⟩

end Go.Proofs.Qxb6618722aFmt
