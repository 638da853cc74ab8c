import Derived.Test.Qxb6613675aFmtW2
import Derived.WalkSpells
namespace Go.Proofs.Qxb6613675aFmt
open Go.RowKit

theorem Tryf.info9 : (Tryf.prog.info? 9).map (fun i => (i.zero, i.size, i.bytes)) = some (some (.string ⟨#[]⟩), 1, 16) := by kernel_rfl

theorem eql_nil (a : Option Addr) (n c : Nat) (w : World) : (binOp .eql 22 (.slice a n c) (.slice none 0 0)).run Tryf.prog w = .ok (.bool a.isNone) w :=
  Lib.run_eql_slice_nil w 22 9 a n c 0 0 Tryf.underlying22

set_option maxHeartbeats 400000 in
theorem clone_nil (w : World) : Calls Tryf.prog 18 #[.slice none 0 0] w fun e w' => e = .returned (.slice none 0 0) ∧ w' = w := by
  have hn := eql_nil
  go_enter Tryf.func18, Tryf.ntmps18
  go_wp2
  go_ret
  exact ⟨rfl, rfl⟩

/-- A row of n cells of the call's own: all may be written; the first k are laid. -/
def Laying (w : World) (B n k : Nat) (s : Nat → ByteArray) : Prop :=
  (∀ i, i < n → (∃ u, w.cell? ⟨B, i, none⟩ = some u) ∧ w.frozen? ⟨B, i, none⟩ = false) ∧
  (∀ i, i < k → w.cell? ⟨B, i, none⟩ = some (.string (s i)))

theorem laying_start {w : World} {B n cap : Nat} {e : TypeId} {xs : List Value} {s : Nat → ByteArray} (h : w.ownsRow B e 1 (.slice (some ⟨B, 0, none⟩) n cap) n xs) : Laying w B n 0 s := by
  rcases h with ⟨_, ⟨h, _⟩ | ⟨g, c, cur, hv, _, hh, hn, _, hsz, _⟩⟩
  · cases h
  · simp only [Value.slice.injEq, Option.some.injEq, Addr.mk.injEq] at hv
    obtain ⟨⟨rfl, _⟩, _, rfl⟩ := hv
    refine ⟨fun i hi => ⟨?_, ?_⟩, fun i hi => by omega⟩
    · exact ⟨cur[i]'(by omega), by simp [World.cell?, hh]⟩
    · simp [World.frozen?, hh]

theorem sc_other {w : World} {a b : Addr} {v : Value} (h : a ≠ b) : (w.setCell a v).cell? b = w.cell? b := World.cell?_setCell_other (h := h) ..
theorem sc_same {w : World} {a : Addr} {u v : Value} (h : w.cell? a = some u) : (w.setCell a v).cell? a = some v := World.cell?_setCell_same (h := h) ..

theorem laying_step {w : World} {B n k : Nat} {s : Nat → ByteArray} (h : Laying w B n k s) (hk : k < n) : Laying (w.setCell ⟨B, k, none⟩ (.string (s k))) B n (k + 1) s := by
  obtain ⟨h1, h2⟩ := h
  refine ⟨fun i hi => ?_, fun i hi => ?_⟩
  · obtain ⟨⟨u, hu⟩, hf⟩ := h1 i hi
    exact ⟨cell?_setCell_some hu, by rw [World.frozen?_setCell]; exact hf⟩
  · by_cases e : i = k
    · subst e
      obtain ⟨⟨u, hu⟩, _⟩ := h1 i hk
      exact sc_same hu
    · rw [sc_other (by intro h; have h5 := congrArg Addr.off h; dsimp only at h5; omega)]
      exact h2 i (by omega)

set_option maxHeartbeats 800000 in
theorem clone_some (a : Addr) (n cap : Nat) (s : Nat → ByteArray) (w : World) (hn : n ≤ 100000) (h0 : StrsOf w (some a) n s) :
    Calls Tryf.prog 18 #[.slice (some a) n cap] w fun e w' => e = .returned (.slice (some ⟨w.heap.size, 0, none⟩) n n) ∧ Below w.heap.size w w' ∧ w.heap.size < w'.heap.size ∧ Laying w' w.heap.size n n s := by
  obtain ⟨i0, hi, hz0, hz1, hz2⟩ := info_parts Tryf.info9
  have hnil := eql_nil
  go_enter Tryf.func18, Tryf.ntmps18
  go_wp2_with (at_make; refine wpList_make_full _ rfl _ _ 22 rfl w.heap.size 9 i0 _ 1 Tryf.underlying22 hi hz0 hz1 _ _ _ _ n rfl rfl ?hL ?hC ?b2 ?b3 ?b4 ?_)
  case hL => omega
  case hC => omega
  case b2 => rw [hz2]; omega
  case b3 => unfold maxLen; omega
  case b4 => omega
  intro w1 hown hgrow
  have hf0 : Laying w1 w.heap.size n 0 s := laying_start hown
  have hb0 : Below w.heap.size w w1 := (Below.refl _ w).grown hgrow (Nat.le_refl _) (fun k hk => by cases hk)
  have hs0 : w.heap.size < w1.heap.size := (hown.lt _ rfl).2
  clear hown hgrow
  go_wp2
  go_loopw [4] (fun i wr => ∃ k : Nat, k ≤ n ∧ i = .int .i64 k ∧ Below w.heap.size w wr ∧ w.heap.size < wr.heap.size ∧ Laying wr w.heap.size n k s) (fun i _ => n - (intOf i).toNat)
  case atStart => exact ⟨0, by omega, rfl, hb0, hs0, hf0⟩
  case round =>
    obtain ⟨k, hk, rfl, hb, hs, hf⟩ := hrel
    by_cases hkn : k < n
    · obtain ⟨b, off, e, hc⟩ := (h0.below hb) k hkn
      cases e
      obtain ⟨⟨u0, hu0⟩, hz0⟩ := hf.1 k hkn
      go_wp2
      go_roundw
      case rel => exact ⟨k + 1, by omega, by go_num, hb.setCell (Nat.le_refl _) _, by simp [World.setCell]; omega, laying_step hf hkn⟩
      case measure => simp [intOf]; omega
    · have hke : k = n := by omega
      subst hke
      go_wp2
      go_ret
      exact ⟨rfl, hb, hs, hf⟩

set_option maxHeartbeats 400000 in
theorem newFlagSet_any (v : Value) (a : Option Addr) (l c : Nat) (hv : v = .slice a l c) (w : World) :
    Calls Tryf.prog 19 #[v] w fun e w' => e = .returned (.pointer (some ⟨w.heap.size, 0, none⟩)) ∧ w' = w.alloc (.cells #[.slice none 0 0, v] 29) := by
  subst hv
  go_enter Tryf.func19, Tryf.ntmps19
  go_wp2
  go_ret
  exact ⟨rfl, rfl⟩
set_option maxHeartbeats 400000 in
theorem args_any (sb : Nat) (v : Value) (a : Option Addr) (l c : Nat) (hv : v = .slice a l c) (w : World) (h1 : w.cell? ⟨sb, 1, none⟩ = some v) :
    Calls Tryf.prog 20 #[.pointer (some ⟨sb, 0, none⟩)] w fun e w' => e = .returned v ∧ w' = w := by
  subst hv
  go_enter Tryf.func20, Tryf.ntmps20
  go_wp2
  go_ret
  exact ⟨rfl, rfl⟩
set_option maxHeartbeats 400000 in
theorem string_any (b o : Nat) (s : ByteArray) (w : World) (h1 : w.cell? ⟨b, o, none⟩ = some (.string s)) :
    Calls Tryf.prog 47 #[.pointer (some ⟨b, o, none⟩)] w fun e w' => e = .returned (.string s) ∧ w' = w := by
  go_enter Tryf.func47, Tryf.ntmps47
  go_wp2
  go_ret
  exact ⟨rfl, rfl⟩

set_option maxHeartbeats 400000 in
theorem lookup1_any (fb cb : Nat) (s t : ByteArray) (w : World) (h1 : w.cell? ⟨fb, 0, none⟩ = some (.string s)) (h2 : w.cell? ⟨cb, 0, none⟩ = some (.string t)) (hne : s ≠ t) :
    Calls Tryf.prog 25 #[.pointer (some ⟨fb, 0, none⟩), .pointer (some ⟨cb, 0, none⟩)] w fun e w' => e = .returned (.bool false) ∧ ∃ q, w' = w.drewN q := by
  have he := toList_ne hne
  clear hne
  go_enter Tryf.func25, Tryf.ntmps25
  go_wp2
  go_quiet (fail)
  go_wp2
  go_ret
  exact ⟨rfl, _, rfl⟩
end Go.Proofs.Qxb6613675aFmt
