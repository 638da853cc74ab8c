import Derived.Test.Qxb6613636aFmtW1
import Derived.Test.Qxb6613636aFmtL1
import Derived.Stop.CallBack
import Derived.Stop.IfaceNil
import Derived.WalkSpells
namespace Go.Proofs.Qxb6613636aFmt
open Go.RowKit Go.Extern.Stop Go.Stop Go.Extern

theorem call12 (args : Array Value) (w : World) : (callFunc 12 args).run Tryf.prog w = (FmtCalls.sprintf #[9, 35] #[9] args).run Tryf.prog w :=
  run_callFunc_next Tryf.func12 (by kernel_rfl) (by kernel_rfl) (by kernel_rfl) args w
theorem guard_ok (name : String) (w : World) : (FmtStop.guard name).run Tryf.prog w = .ok () w := by kernel_rfl
theorem nextTurns : Extern.next FmtCalls.turnsRow = some (FmtCalls.begun #[] #[]) := by kernel_rfl
theorem act2_100 (name : String) (x : Value) (w : World) : (FmtCalls.act name false 100 false (.iface 2 x)).run Tryf.prog w = .ok (.closed false) w := by kernel_rfl
theorem op2_100 (name : String) (x : Int) (w : World) : (FmtStop.operand name false 100 false (.iface 2 (.int .i64 x))).run Tryf.prog w = .ok (shapeI, digits 8 (x % 2 ^ 64).toNat) w := by kernel_rfl

attribute [local go_sem] call12 guard_ok act2_100 op2_100

/-- fmt's text as a Go string. -/
def said (F : Interp) (f : ByteArray) (n : Int) : ByteArray := FmtStop.textOf (F "fmt.Sprintf" (reading f.data.toList n) 0)

set_option maxHeartbeats 800000 in
theorem malformed_d (F : Interp) (f : ByteArray) (n : Int) (b : Nat) (w : World) (hF : F.answers w.tape) (hp : FmtStop.printed? f 1 = some [(0, 100, false)]) (hc : w.cell? ⟨b, 0, none⟩ = some (.iface 2 (.int .i64 n))) :
    Calls Tryf.prog 10 #[.string f, .slice (some ⟨b, 0, none⟩) 1 1] w fun e w' => e = .returned (.pointer (some ⟨w.heap.size, 0, none⟩)) ∧
      w' = (w.alloc (.cells #[.int .i64 400, .string (said F f n)] 33)).drew := by
  have hF' := answers_open hF
  go_enter Tryf.func10, Tryf.ntmps10
  go_wp2
  apply rows_value nextTurns
  case hr =>
    go_simp
    exact ⟨rfl, rfl⟩
  case h =>
    go_wp2
    go_ret
    exact ⟨rfl, rfl⟩

set_option maxHeartbeats 800000 in
theorem zzMalformed_d (F : Interp) (f : ByteArray) (n : Int) (w : World) (hF : F.answers w.tape) (hp : FmtStop.printed? f 1 = some [(0, 100, false)]) :
    Calls Tryf.prog 6 #[.string f, .int .i64 n] w fun e w' => e = .returned (.pointer (some ⟨w.heap.size + 1, 0, none⟩)) ∧ Below w.heap.size w w' ∧
      w'.cell? ⟨w.heap.size + 1, 0, none⟩ = some (.int .i64 400) ∧ w'.cell? ⟨w.heap.size + 1, 1, none⟩ = some (.string (said F f n)) := by
  go_enter Tryf.func6, Tryf.ntmps6
  go_wp2_with fail
  refine (malformed_d F f n w.heap.size _ (by exact hF) hp (by simp)).mono ?_
  rintro e w' ⟨rfl, rfl⟩
  go_wp2
  go_ret
  refine ⟨by simp, (((Below.refl _ w).alloc (Nat.le_refl _) _).alloc (by simp) _).drew, ?_, ?_⟩
  · simp
  · simp

set_option maxHeartbeats 400000 in
theorem status_any (b : Nat) (v : Int) (w : World) (h0 : w.cell? ⟨b, 0, none⟩ = some (.int .i64 v)) :
    Calls Tryf.prog 7 #[.pointer (some ⟨b, 0, none⟩)] w fun e w' => e = .returned (.int .i64 v) ∧ w' = w := by
  go_enter Tryf.func7, Tryf.ntmps7
  go_wp2
  go_ret
  exact ⟨rfl, rfl⟩
set_option maxHeartbeats 400000 in
theorem message_any (b : Nat) (s : ByteArray) (w : World) (h0 : w.cell? ⟨b, 1, none⟩ = some (.string s)) :
    Calls Tryf.prog 8 #[.pointer (some ⟨b, 0, none⟩)] w fun e w' => e = .returned (.string s) ∧ w' = w := by
  go_enter Tryf.func8, Tryf.ntmps8
  go_wp2
  go_ret
  exact ⟨rfl, rfl⟩
set_option maxHeartbeats 400000 in
theorem error_any (b : Nat) (s : ByteArray) (w : World) (h0 : w.cell? ⟨b, 1, none⟩ = some (.string s)) :
    Calls Tryf.prog 11 #[.pointer (some ⟨b, 0, none⟩)] w fun e w' => e = .returned (.string s) ∧ w' = w := by
  go_enter Tryf.func11, Tryf.ntmps11
  go_wp2
  go_ret
  exact ⟨rfl, rfl⟩
set_option maxHeartbeats 400000 in
theorem zzError_any (b : Nat) (s : ByteArray) (w : World) (h0 : w.cell? ⟨b, 1, none⟩ = some (.string s)) :
    Calls Tryf.prog 9 #[.pointer (some ⟨b, 0, none⟩)] w fun e w' => e = .returned (.string s) ∧ w' = w := by
  go_enter Tryf.func9, Tryf.ntmps9
  go_wp2_with (go_at_call 11; refine (error_any b s _ h0).mono ?_; rintro e w' ⟨rfl, rfl⟩)
  go_ret
  exact ⟨rfl, rfl⟩

/-- zzDecimal writes what strconv.Itoa would. -/
def itoaS (n : Int) : ByteArray := ⟨(Lib.itoa n).toArray⟩
theorem zzDecimal_any (n : Int) (h0 : -9223372036854775808 ≤ n) (h1 : n ≤ 9223372036854775807) (w : World) :
    Calls Tryf.prog 5 #[.int .i64 n] w fun e w' => e = .returned (.string (itoaS n)) ∧ Below w.heap.size w w' := by
  by_cases hneg : n < 0
  · have e : itoaS n = ⟨#[45]⟩ ++ decS n.natAbs := by
      apply ByteArray.ext
      simp [itoaS, decS, Lib.itoa, hneg]
    rw [e]
    exact zzDecimal_neg n n.natAbs w (by omega) (by omega) (by omega)
  · have e : itoaS n = decS n.toNat := by unfold itoaS decS; rw [Lib.itoa, if_neg hneg]
    rw [e]
    exact zzDecimal_pos n n.toNat w (by omega) (by omega)
end Go.Proofs.Qxb6613636aFmt
