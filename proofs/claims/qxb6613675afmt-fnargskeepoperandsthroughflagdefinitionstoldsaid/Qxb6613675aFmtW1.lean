import Derived.Test.Qxb6613675aFmtRows
import Derived.WalkKit
import Derived.WalkLawsBesides
import Derived.BigQuiet
import Derived.Deep.QuietTactic
import Derived.WalkSmall
namespace Go.Proofs.Qxb6613675aFmt
open Go.RowKit
theorem hid {p : Prop} (h : p) : Hid p := h
def IsBool (e : Ending) : Prop := ∃ r, e = .returned (.bool r)
theorem isBool (r : Bool) : IsBool (.returned (.bool r)) := ⟨r, rfl⟩

/-- A slice of n strings: its cells. -/
def StrsOf (w : World) (a0 : Option Addr) (n : Nat) (s : Nat → ByteArray) : Prop :=
  ∀ i, i < n → ∃ b off, a0 = some ⟨b, off, none⟩ ∧ w.cell? ⟨b, off + i, none⟩ = some (.string (s i))
theorem StrsOf.below {w w' : World} {a0 : Option Addr} {n : Nat} {s : Nat → ByteArray} (h : StrsOf w a0 n s) (hb : Below w.heap.size w w') : StrsOf w' a0 n s := fun i hi => by
  obtain ⟨b, off, e, h1⟩ := h i hi
  have hlt : b < w.heap.size := World.block_lt_of_cell? w _ h1
  exact ⟨b, off, e, (hb.cell (by exact hlt)).trans h1⟩

set_option maxHeartbeats 800000 in
theorem zzBytes_any (a0 a1 : Option Addr) (n0 n1 c0 c1 : Nat) (s0 s1 : Nat → ByteArray) (w : World)
    (hn0 : n0 ≤ maxLen) (hn1 : n1 ≤ maxLen) (h0 : StrsOf w a0 n0 s0) (h1 : StrsOf w a1 n1 s1) (hs0 : ∀ i, (s0 i).size ≤ maxLen) (hs1 : ∀ i, (s1 i).size ≤ maxLen) :
    Calls Tryf.prog 16 #[.slice a0 n0 c0, .slice a1 n1 c1] w fun e w' => IsBool e ∧ w' = w := by
  unfold maxLen at hn0 hn1 hs0 hs1
  go_enter Tryf.func16, Tryf.ntmps16
  go_wp2
  all_goals try (go_ret; exact ⟨isBool _, rfl⟩)
  go_loop [5, 6] (fun t i => ∃ k : Nat, ∃ T : Int, k ≤ n0 ∧ i = .int .i64 k ∧ t = .int .i64 T ∧ 0 ≤ T ∧ T ≤ 1048576) (fun _ i => n0 - (intOf i).toNat)
  case atStart => exact ⟨0, _, by omega, rfl, rfl, by omega, by omega⟩
  case round =>
    obtain ⟨k, T, hk, rfl, rfl, hT0, hT1⟩ := hrel
    by_cases hlt : k < n0
    · obtain ⟨b, off, rfl, hc0⟩ := h0 k hlt
      have hz := hs0 k
      go_wp2
      · go_ret
        exact ⟨isBool _, rfl⟩
      · go_ret
        exact ⟨isBool _, rfl⟩
      · go_round
        case rel => exact ⟨k + 1, _, by omega, by go_num, rfl, by omega, by omega⟩
        case measure => simp [intOf]; omega
    · go_wp2
      all_goals try (go_ret; exact ⟨isBool _, rfl⟩)
      go_loop [5, 7] (fun t i => ∃ k : Nat, ∃ T : Int, k ≤ n1 ∧ i = .int .i64 k ∧ t = .int .i64 T ∧ 0 ≤ T ∧ T ≤ 1048576) (fun _ i => n1 - (intOf i).toNat)
      case atStart => exact ⟨0, _, by omega, rfl, rfl, by omega, by omega⟩
      case round =>
        obtain ⟨k, T, hk, rfl, rfl, hT0, hT1⟩ := hrel
        by_cases hlt : k < n1
        · obtain ⟨b, off, rfl, hc0⟩ := h1 k hlt
          have hz := hs1 k
          go_wp2
          · go_ret
            exact ⟨isBool _, rfl⟩
          · go_ret
            exact ⟨isBool _, rfl⟩
          · go_round
            case rel => exact ⟨k + 1, _, by omega, by go_num, rfl, by omega, by omega⟩
            case measure => simp [intOf]; omega
        · go_wp2
          go_ret
          exact ⟨isBool _, rfl⟩

set_option maxHeartbeats 800000 in
theorem zzBytesOver2_any (a0 a1 : Option Addr) (n0 n1 c0 c1 : Nat) (s0 s1 : Nat → ByteArray) (w : World)
    (hn0 : n0 ≤ maxLen) (hn1 : n1 ≤ maxLen) (h0 : StrsOf w a0 n0 s0) (h1 : StrsOf w a1 n1 s1) (hs0 : ∀ i, (s0 i).size ≤ maxLen) (hs1 : ∀ i, (s1 i).size ≤ maxLen) :
    Calls Tryf.prog 17 #[.slice a0 n0 c0, .slice a1 n1 c1, .int .i64 1048576] w fun e w' => IsBool e ∧ w' = w := by
  unfold maxLen at hn0 hn1 hs0 hs1
  go_enter Tryf.func17, Tryf.ntmps17
  go_wp2
  go_loop [7, 8] (fun t i => ∃ k : Nat, ∃ T : Int, k ≤ n0 ∧ i = .int .i64 k ∧ t = .int .i64 T ∧ 0 ≤ T ∧ T ≤ 1048576) (fun _ i => n0 - (intOf i).toNat)
  case atStart => exact ⟨0, _, by omega, rfl, rfl, by omega, by omega⟩
  case round =>
    obtain ⟨k, T, hk, rfl, rfl, hT0, hT1⟩ := hrel
    by_cases hlt : k < n0
    · obtain ⟨b, off, rfl, hc0⟩ := h0 k hlt
      have hz := hs0 k
      go_wp2
      · go_ret
        exact ⟨isBool _, rfl⟩
      · go_round
        case rel => exact ⟨k + 1, _, by omega, by go_num, rfl, by omega, by omega⟩
        case measure => simp [intOf]; omega
    · go_wp2
      go_loop [7, 9] (fun t i => ∃ k : Nat, ∃ T : Int, k ≤ n1 ∧ i = .int .i64 k ∧ t = .int .i64 T ∧ 0 ≤ T ∧ T ≤ 1048576) (fun _ i => n1 - (intOf i).toNat)
      case atStart => exact ⟨0, _, by omega, rfl, rfl, by omega, by omega⟩
      case round =>
        obtain ⟨k, T, hk, rfl, rfl, hT0, hT1⟩ := hrel
        by_cases hlt : k < n1
        · obtain ⟨b, off, rfl, hc0⟩ := h1 k hlt
          have hz := hs1 k
          go_wp2
          · go_ret
            exact ⟨isBool _, rfl⟩
          · go_round
            case rel => exact ⟨k + 1, _, by omega, by go_num, rfl, by omega, by omega⟩
            case measure => simp [intOf]; omega
        · go_wp2
          go_ret
          exact ⟨isBool _, rfl⟩
end Go.Proofs.Qxb6613675aFmt
