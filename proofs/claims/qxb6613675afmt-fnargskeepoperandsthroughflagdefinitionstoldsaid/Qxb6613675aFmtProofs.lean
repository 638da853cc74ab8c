/-
  THE TOLD CARD OF FnArgsKeepOperandsThroughFlagDefinitions, out of her walk (Qxb6613675aFmtW7). No input comes to fmt: the names are pairwise different, so no flag is defined twice.
-/
import Derived.Test.Qxb6613675aFmtW7
import Derived.Test.Qxb6613675aFmtCards
import Derived.ProofKit
import Derived.OpenShut
import Derived.ChangeOld
import Derived.Deep.Slices
import Derived.Stop.JoinedAt
import Derived.Stop.JoinedTold
import Derived.SevenToldRow
namespace Go.Proofs.Qxb6613675aFmt
open Go.ChangeShapes Go.WideShapes Go.ChangeAt Go.RowKit Go.Kit
open Go.Extern.Stop Go.Stop Go.Extern

theorem own : ownKnob Tryf.prog.godebug = none := by kernel_rfl
theorem laidOut : laidOutB Tryf.pinned.checked.prog = true := by kernel_rfl
theorem cells9 : Tryf.prog.cellsOf 9 = 1 := by kernel_rfl

/-- The strings of a slice that came in: their cells, each within its bounds; a nil slice is empty. -/
theorem open_strs {H : Type} {enc : TypeId × Value → H} {W : World} {a0 : Option Addr} {len cap fuel : Nat} {x : DataW H × List MemPlace}
    (hf : DataW.trod enc Tryf.prog W 0 (fun _ => true) true fuel 22 (Value.slice a0 len cap).cells.toList = some x) :
    len ≤ maxLen ∧ (a0 = none → len = 0 ∧ cap = 0) ∧ ∃ s : Nat → ByteArray, StrsOf W a0 len s ∧ ∀ i, (s i).size ≤ maxLen := by
  rcases Deep.open_slice1 Tryf.underlying22 cells9 hf with ⟨hcs, _⟩ | ⟨a, l, c, m, nn, V, D, Pl, hcs, _, hl, hm, hmm, _, hel⟩
  · simp [Value.cells] at hcs
    obtain ⟨rfl, rfl, rfl⟩ := hcs
    exact ⟨Nat.zero_le _, fun _ => ⟨rfl, rfl⟩, fun _ => ByteArray.empty, fun i hi => by omega, fun _ => Nat.zero_le _⟩
  · simp [Value.cells] at hcs
    obtain ⟨rfl, rfl, rfl⟩ := hcs
    have hlm : len ≤ m := by rw [hmm]; simpa using hl
    refine ⟨Nat.le_trans hl hm, (fun h => by cases h), ?_⟩
    have key : ∀ i, ∃ y : ByteArray, y.size ≤ maxLen ∧ (i < len → W.cell? (a.add i) = some (.string y)) := by
      intro i
      by_cases hi : i < len
      · obtain ⟨h1, h2⟩ := hel i (by omega)
        obtain ⟨s, e0, _, hs⟩ := DataW.trod_string Tryf.underlying9 h2
        simp only [List.cons.injEq, and_true] at e0
        rw [e0] at h1
        exact ⟨s, hs, fun _ => h1⟩
      · exact ⟨ByteArray.empty, Nat.zero_le _, fun h => absurd h hi⟩
    obtain ⟨f, hf⟩ := Classical.axiomOfChoice key
    refine ⟨f, fun i hi => ?_, fun i => (hf i).1⟩
    have h1 := (hf i).2 hi
    obtain ⟨b, off, spot⟩ := a
    have hspot : spot = none := by
      have := World.cell?_spot ((hf 0).2 (by omega))
      simpa [Addr.add] using this
    subst hspot
    rw [Addr.add_lit] at h1
    exact ⟨b, off, rfl, h1⟩

set_option maxRecDepth 100000 in
theorem lifted (os : Os) (started : os.Started) (H : Type) (enc : TypeId × Value → H) :
    ReturnsInTold none {} Tryf.checked os 5 .any Input.okWide ((OpenSpec.ofChange Rows.fnArgsKeepOperandsThroughFlagDefinitionsSpec).preRow enc Tryf.prog Tryf.f5 [] false []) (fun F => ((OpenSpec.ofChange Rows.fnArgsKeepOperandsThroughFlagDefinitionsSpec).at F).post enc Tryf.prog Tryf.f5 false true false false) (aloneAtReturn Tryf.prog) nothingAlways := by
  refine returnsInTold_of_row (C := Tryf.checked) (s := OpenSpec.ofChange Rows.fnArgsKeepOperandsThroughFlagDefinitionsSpec) (by kernel_rfl) own started (by kernel_rfl) Tryf.func5
    (OpenSpec.witness_stopped (enc := enc) (C := Tryf.checked) false ⟨#[], #[.slice none 0 0, .slice none 0 0], []⟩ 8 (by kernel_rfl) (by kernel_rfl) (by kernel_rfl) (by kernel_rfl)) ?_
  intro F W base args ds gs before _ _ hval0 hW _ _ _ _ _
  have hval : ∀ (j : Nat) t v, Tryf.f5.params[j]? = some t → args[j]? = some v → Value.okWide Tryf.prog W .any base t v := hval0
  have hW' := hW
  obtain ⟨p, q, hA0, hV, rfl, hfz, hnd⟩ := hW
  have hA : DataW.TrodAll enc Tryf.prog W 0 (fun _ => true) true Tryf.f5.params.toList args.toList ds p := hA0
  rw [Tryf.params5] at hA hval
  obtain ⟨v0, vs0, d0, ds0, p0, q0, hargs, rfl, rfl, h0, r0⟩ := trodAll_cons hA
  obtain ⟨v1, vs1, d1, ds1, p1, q1, rfl, rfl, rfl, h1, r1⟩ := trodAll_cons r0
  obtain ⟨rfl, rfl, rfl⟩ := trodAll_nil r1
  obtain rfl : args = #[v0, v1] := by cases args; simp_all
  obtain ⟨rfl, rfl⟩ := trodVars_none hV
  obtain ⟨a0, n0, c0, rfl⟩ := okWide_slice Tryf.underlying22 (hval 0 22 v0 rfl rfl)
  obtain ⟨a1, n1, c1, rfl⟩ := okWide_slice Tryf.underlying22 (hval 1 22 v1 rfl rfl)
  have k0 := h0
  have k1 := h1
  have lt0 : ∀ x ∈ p0, x.block < W.heap.size := by obtain ⟨m, hm⟩ := k0; exact DataW.trod_lt m _ _ _ hm
  have lt1 : ∀ x ∈ p1, x.block < W.heap.size := by obtain ⟨m, hm⟩ := k1; exact DataW.trod_lt m _ _ _ hm
  obtain ⟨fuel0, hf0⟩ := h0
  obtain ⟨fuel1, hf1⟩ := h1
  obtain ⟨hn0, hnil, s0, hS0, hs0⟩ := open_strs hf0
  obtain ⟨hn1, _, s1, hS1, hs1⟩ := open_strs hf1
  clear hA0 hval0
  refine (law_walk a0 a1 n0 n1 c0 c1 s0 s1 W hn0 hn1 hS0 hS1 hs0 hs1 hnil).mono fun e W' ⟨he, bel⟩ => ?_
  subst he
  exact ⟨_, rfl, _, _, _, [], _, [], hW', trodAll_mk1 (shut_bool Tryf.underlying4 _), (trodAll_cons_mk (Below.trod laidOut (by kernel_rfl) (of_decide_eq_true (by kernel_rfl)) k0 bel lt0) (trodAll_cons_mk (Below.trod laidOut (by kernel_rfl) (of_decide_eq_true (by kernel_rfl)) k1 bel lt1) trodAll_mk0)), rfl, bel.frame _, fun h => by cases h⟩

theorem stops_are : Tryf.pinned.checked.prog.stops = Rows.fnArgsKeepOperandsThroughFlagDefinitionsRow.stops := by kernel_rfl
theorem stopKnobs : Tryf.pinned.checked.prog.stopKnobs = [] := by kernel_rfl
theorem quiet (os : Os) : Stop.quiet Tryf.pinned.checked.prog os := by
  intro k hk
  rw [stopKnobs] at hk
  cases hk

/-- THE TOLD CARD -/
theorem fnArgsKeepOperandsThroughFlagDefinitions_proved : Rows.FnArgsKeepOperandsThroughFlagDefinitionsToldSaid :=
  Claim7.holds_of_told_any 5 Tryf.f5 _ [] [] Rows.fnArgsKeepOperandsThroughFlagDefinitionsCard.stood.harness true false (by kernel_rfl) rfl rfl rfl laidOut (by kernel_rfl) rfl ⟨rfl, rfl, rfl, rfl, rfl, rfl, rfl⟩ rfl rfl (by kernel_rfl) (by kernel_rfl) Tryf.func5 (by kernel_rfl)
    (of_decide_eq_true (by kernel_rfl)) (by unfold Func.isWrapper; first | (rw [if_pos (by decide +kernel)]; kernel_rfl) | (rw [if_neg (by decide +kernel)]; exact ⟨rfl, rfl⟩)) stops_are.symm rfl stopKnobs.symm (by kernel_rfl)
    (by kernel_rfl) (by kernel_rfl) (by kernel_rfl) (by kernel_rfl) (by kernel_rfl) (by kernel_rfl) (by kernel_rfl) (by kernel_rfl) (by kernel_rfl) rfl (by kernel_rfl) rfl rfl
    rfl rfl
    rfl (by kernel_rfl) (by kernel_rfl) (by kernel_rfl) (by decide) (by kernel_rfl)
    (OpenClaim.moreEntering_of (by kernel_rfl) (by kernel_rfl) (by kernel_rfl) (by kernel_rfl) (by kernel_rfl) (by kernel_rfl) (by kernel_rfl) (by kernel_rfl) (by kernel_rfl) (by kernel_rfl))
    ⟨_, WideRow.started_initial, quiet _⟩
    (fun os started _ H enc _ => lifted os started H enc)
end Go.Proofs.Qxb6613675aFmt
