import Derived.Test.Qxb6608830aDoorRows
import Derived.WalkKit
import Derived.WalkLawsBesides
import Derived.BigQuiet
import Derived.Deep.QuietTactic
namespace Go.Proofs.Qxb6608830aDoor
open Go.RowKit

/-- A slice of n LawAddr | Addr structs: its cells. -/
def AddrsAt (w : World) (a0 : Option Addr) (n : Nat) (ip : Nat → ByteArray) (pt : Nat → Int) : Prop :=
  ∀ i, i < n → ∃ b off, a0 = some ⟨b, off, none⟩ ∧ w.cell? ⟨b, off + i * 2, none⟩ = some (.string (ip i)) ∧ w.cell? ⟨b, off + i * 2 + 1, none⟩ = some (.int .i64 (pt i))

/-- The call returned some bool. -/
def IsBool (e : Ending) : Prop := ∃ r, e = .returned (.bool r)
theorem isBool (r : Bool) : IsBool (.returned (.bool r)) := ⟨r, rfl⟩

set_option maxHeartbeats 400000 in
theorem zzBytes_any (nm : ByteArray) (a0 : Option Addr) (n cap : Nat) (ip : Nat → ByteArray) (pt : Nat → Int) (cut : Int) (w : World)
    (hn : nm.size ≤ maxLen) (hl : n ≤ maxLen) (hA : AddrsAt w a0 n ip pt) (hip : ∀ i, (ip i).size ≤ maxLen) :
    Calls Tryd.prog 6 #[.string nm, .slice a0 n cap, .int .i64 cut] w fun e w' => IsBool e ∧ w' = w := by
  unfold maxLen at hn hl hip
  go_enter Tryd.func6, Tryd.ntmps6
  go_wp2
  all_goals try (go_ret; exact ⟨isBool _, rfl⟩)
  go_loop [7, 8] (fun t i => ∃ k : Nat, ∃ T : Int, k ≤ n ∧ i = .int .i64 k ∧ t = .int .i64 T ∧ 0 ≤ T ∧ T ≤ 1048576) (fun _ i => n - (intOf i).toNat)
  case atStart => exact ⟨0, _, by omega, rfl, rfl, by omega, by omega⟩
  case round =>
    obtain ⟨k, T, hk, rfl, rfl, hT0, hT1⟩ := hrel
    by_cases hlt : k < n
    · obtain ⟨b, off, rfl, hc0, hc1⟩ := hA k hlt
      have hz := hip k
      go_wp2
      · go_ret
        exact ⟨isBool _, rfl⟩
      · go_ret
        exact ⟨isBool _, rfl⟩
      · go_round
        case rel => exact ⟨k + 1, _, by omega, by go_num, rfl, by omega, by omega⟩
        case measure => simp [intOf]; omega
    · go_wp2
      go_ret
      exact ⟨isBool _, rfl⟩
end Go.Proofs.Qxb6608830aDoor
