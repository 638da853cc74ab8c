import Derived.Test.Qxb6608830aDoorW1
namespace Go.Proofs.Qxb6608830aDoor
open Go.RowKit

/-- A slice of n strings: its cells. -/
def StrsAt (w : World) (b off : Nat) (n : Nat) (s : Nat → ByteArray) : Prop :=
  ∀ i, i < n → w.cell? ⟨b, off + i, none⟩ = some (.string (s i))
theorem StrsAt.drewN {w : World} {b off n : Nat} {s : Nat → ByteArray} (h : StrsAt w b off n s) (k : Nat) : StrsAt (w.drewN k) b off n s := fun i hi => by
  have := h i hi
  simpa using this

set_option maxHeartbeats 400000 in
theorem sameLine_eq (b1 o1 b2 o2 n c1 c2 : Nat) (s : Nat → ByteArray) (w : World) (hn : n ≤ 1000)
    (h1 : StrsAt w b1 o1 n s) (h2 : StrsAt w b2 o2 n s) :
    Calls Tryd.prog 9 #[.slice (some ⟨b1, o1, none⟩) n c1, .slice (some ⟨b2, o2, none⟩) n c2] w fun e w' => e = .returned (.bool true) ∧ ∃ k, w' = w.drewN k := by
  go_enter Tryd.func9, Tryd.ntmps9
  go_wp2
  go_loopw [5] (fun i wr => ∃ k : Nat, k ≤ n ∧ i = .int .i64 k ∧ ∃ m, wr = w.drewN m) (fun i _ => n - (intOf i).toNat)
  case atStart => exact ⟨0, by omega, rfl, 0, rfl⟩
  case round =>
    obtain ⟨k, hk, rfl, m, rfl⟩ := hrel
    by_cases hlt : k < n
    · have g1 := h1 k hlt
      have g2 := h2 k hlt
      go_wp2
      go_quiet (fail)
      go_wp2
      go_roundw
      case rel => exact ⟨k + 1, by omega, by go_num, _, rfl⟩
      case measure => simp [intOf]; omega
    · go_wp2
      go_ret
      exact ⟨rfl, _, rfl⟩
end Go.Proofs.Qxb6608830aDoor
