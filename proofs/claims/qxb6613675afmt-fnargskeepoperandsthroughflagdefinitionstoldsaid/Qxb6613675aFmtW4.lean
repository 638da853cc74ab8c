import Derived.Test.Qxb6613675aFmtW3
namespace Go.Proofs.Qxb6613675aFmt
open Go.RowKit

/-- A slice of pointers: its cells. -/
def PtrsOf (w : World) (a0 : Option Addr) (n : Nat) (fb : Nat → Nat) : Prop :=
  ∀ i, i < n → ∃ b, a0 = some ⟨b, 0, none⟩ ∧ w.cell? ⟨b, i, none⟩ = some (.pointer (some ⟨fb i, 0, none⟩))

set_option maxHeartbeats 400000 in
theorem indexFunc_none (cb : Nat) (a0 : Option Addr) (n cap : Nat) (fb : Nat → Nat) (nm : Nat → ByteArray) (t : ByteArray) (w : World) (hn : n ≤ 100000)
    (hP : PtrsOf w a0 n fb) (hN : ∀ j, j < n → w.cell? ⟨fb j, 0, none⟩ = some (.string (nm j))) (hc : w.cell? ⟨cb, 0, none⟩ = some (.string t)) (hne : ∀ j, j < n → nm j ≠ t) :
    Calls Tryf.prog 24 #[.slice a0 n cap, .func (.func 25) #[] #[.pointer (some ⟨cb, 0, none⟩)]] w fun e w' => e = .returned (.int .i64 (-1)) ∧ ∃ q, w' = w.drewN q := by
  have HE := hid hne
  clear hne
  go_enter Tryf.func24, Tryf.ntmps24
  go_wp2
  go_loopw [5, 8] (fun _ i wr => ∃ k : Nat, k ≤ n ∧ i = .int .i64 k ∧ ∃ q, wr = w.drewN q) (fun _ i _ => n - (intOf i).toNat)
  case atStart => exact ⟨0, by omega, rfl, 0, rfl⟩
  case round =>
    obtain ⟨k, hk, rfl, q, rfl⟩ := hrel
    by_cases hkn : k < n
    · obtain ⟨b, rfl, hb⟩ := hP k hkn
      have hNk := hN k hkn
      go_wp2_with fail
      refine (lookup1_any (fb k) cb (nm k) t (w.drewN q) (by simpa using hNk) (by simpa using hc) (HE.out k hkn)).mono ?_
      rintro e w' ⟨rfl, q', rfl⟩
      go_wp2
      go_roundw
      case rel => exact ⟨k + 1, by omega, by go_num, _, by first | rfl | exact World.drewN_drewN ..⟩
      case measure => simp [intOf]; omega
    · go_wp2
      go_ret
      exact ⟨rfl, _, rfl⟩

theorem PtrsOf.below {w w' : World} {a0 : Option Addr} {n : Nat} {fb : Nat → Nat} (h : PtrsOf w a0 n fb) (hb : Below w.heap.size w w') : PtrsOf w' a0 n fb := fun i hi => by
  obtain ⟨b, e, h1⟩ := h i hi
  have hlt : b < w.heap.size := World.block_lt_of_cell? w _ h1
  exact ⟨b, e, (hb.cell (by exact hlt)).trans h1⟩
theorem keep_cell {W W' : World} {a : Addr} {v : Value} (h : W.cell? a = some v) (hb : Below W.heap.size W W') : W'.cell? a = some v := (hb.cell (World.block_lt_of_cell? W a h)).trans h

set_option maxHeartbeats 400000 in
theorem lookup_none (sb : Nat) (a0 : Option Addr) (n cap : Nat) (fb : Nat → Nat) (nm : Nat → ByteArray) (t : ByteArray) (w : World) (hn : n ≤ 100000)
    (hs : w.cell? ⟨sb, 0, none⟩ = some (.slice a0 n cap)) (hP : PtrsOf w a0 n fb) (hN : ∀ j, j < n → w.cell? ⟨fb j, 0, none⟩ = some (.string (nm j))) (hne : ∀ j, j < n → nm j ≠ t) :
    Calls Tryf.prog 12 #[.pointer (some ⟨sb, 0, none⟩), .string t] w fun e w' => e = .returned (.pointer none) ∧ Below w.heap.size w w' := by
  have hsb := World.block_lt_of_cell? w _ hs
  have hbA : Below w.heap.size w (w.alloc (.cells #[.string t] 9)) := (Below.refl _ w).alloc (Nat.le_refl _) _
  have hI := indexFunc_none w.heap.size a0 n cap fb nm t (w.alloc (.cells #[.string t] 9)) hn (hP.below hbA) (fun j hj => keep_cell (hN j hj) hbA) (by simp) hne
  clear hne
  go_enter Tryf.func12, Tryf.ntmps12
  go_wp2_with fail
  refine hI.mono ?_
  rintro e w' ⟨rfl, q, rfl⟩
  clear hI
  go_wp2
  go_ret
  exact ⟨rfl, below_drewN hbA q⟩
end Go.Proofs.Qxb6613675aFmt
