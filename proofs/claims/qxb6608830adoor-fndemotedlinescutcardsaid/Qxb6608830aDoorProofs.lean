/-
  THE ROW OF FnDemotedLinesCut, proved out of its walk (Qxb6608830aDoorW8), and her TIED CARD.
-/
import Derived.Test.Qxb6608830aDoorW8
import Derived.Test.Qxb6608830aDoorTie
import Derived.Test.Qxb6608830aDoorCards
import Derived.ProofKit
import Derived.OpenShut
import Derived.ShutString
import Derived.ChangeOld
import Derived.LaidMore
import Derived.Lib.LaidTab
import Derived.Stop.Joined
import Derived.Stop.LaidErr
import Derived.SevenTiedAt
import Derived.Deep.Slices
namespace Go.Proofs.Qxb6608830aDoor
open Go.ChangeShapes Go.WideShapes Go.ChangeAt Go.RowKit
open Go.ChangeMaps (open_string shut_string)
open Go.Lib (TabIs pow10Tab tabData tabIs_of_head)

theorem own : ownKnob Tryd.prog.godebug = none := by kernel_rfl
theorem laidOut : laidOutB Tryd.prog = true := by kernel_rfl
theorem gPowType : (Tryd.prog.globals[0]?).map (·.type) = some 63 := by kernel_rfl
theorem cells32 : Tryd.prog.cellsOf 32 = 1 := by kernel_rfl
theorem cells63 : Tryd.prog.cellsOf 63 = 20 := by kernel_rfl
theorem cells25 : Tryd.prog.cellsOf 25 = 2 := by kernel_rfl
theorem cells9 : Tryd.prog.cellsOf 9 = 1 := by kernel_rfl
theorem cells3 : Tryd.prog.cellsOf 3 = 1 := by kernel_rfl

abbrev laid3 : List (String × DataW Unit) := Rows.fnDemotedLinesCutRow.laid

/-- The door's own heap meets the condition: three closed facts. -/
theorem door_met (os : Os) (args : Array Value) : laidMetH Tryd.prog laid3 ((World.doorLaid Tryd.prog 24 os).forCall (fun _ _ => 0) ⟨#[], args, []⟩).memory :=
  laidMetH_of_parts3 (fuel := 8) (laidMet_of_run' 8 (by kernel_rfl) (by kernel_rfl)) (by kernel_rfl) (by kernel_rfl)

/-- What the condition gives the walk: the table of powers of ten. -/
theorem tab_of_laid {W : World} (h : laidMetH Tryd.prog laid3 W) : Tab W := by
  rw [MakeChecks.laidMetH_plain _ _ _ (by kernel_rfl)] at h
  have h3 : laidMet Tryd.prog [(Tryd.powName, tabData .u64 pow10Tab)] W := h.tail.tail
  exact tabIs_of_head gPow gPowType Tryd.underlying63 Tryd.underlying32 cells32 cells63 h3

theorem tab_pos {W : World} (h : Tab W) : 0 < W.heap.size := by
  have h0 := World.var?_cell gPow h 0
  exact World.block_lt_of_cell? W _ (u := .int .u64 1) (h0.trans (by kernel_rfl))

/-- The structs of the slice that came in: their cells, each string and each number within its bounds. -/
theorem open_addrs {H : Type} {enc : TypeId × Value → H} {W : World} {a0 : Option Addr} {len cap fuel : Nat} {x : DataW H × List MemPlace}
    (hf : DataW.trod enc Tryd.prog W 0 (fun _ => true) true fuel 22 (Value.slice a0 len cap).cells.toList = some x) :
    len ≤ maxLen ∧ ∃ (ip : Nat → ByteArray) (pt : Nat → Int), AddrsAt W a0 len ip pt ∧ (∀ i, (ip i).size ≤ maxLen) ∧ ∀ i, -9223372036854775808 ≤ pt i ∧ pt i ≤ 9223372036854775807 := by
  rcases Deep.open_slice Tryd.underlying22 hf with ⟨hcs, _⟩ | ⟨a, l, c, m, nn, D, Pl, hcs, _, hl, hm, hmm, _, hel⟩
  · simp [Value.cells] at hcs
    obtain ⟨rfl, rfl, rfl⟩ := hcs
    exact ⟨Nat.zero_le _, fun _ => ByteArray.empty, fun _ => 0, fun i hi => by omega, fun _ => Nat.zero_le _, fun _ => ⟨by simp, by simp⟩⟩
  · simp [Value.cells] at hcs
    obtain ⟨rfl, rfl, rfl⟩ := hcs
    have hlm : len ≤ m := by rw [hmm]; simpa using hl
    refine ⟨Nat.le_trans hl hm, ?_⟩
    have key : ∀ i, ∃ y : ByteArray × Int, y.1.size ≤ maxLen ∧ (-9223372036854775808 ≤ y.2 ∧ y.2 ≤ 9223372036854775807) ∧
        (i < len → W.cell? ((a.add (i * 2)).add 0) = some (.string y.1) ∧ W.cell? ((a.add (i * 2)).add 1) = some (.int .i64 y.2)) := by
      intro i
      by_cases hi : i < len
      · obtain ⟨cs', h1, h2⟩ := hel i (by omega)
        rw [cells25] at h1
        obtain ⟨_, hlen, hat⟩ := World.cells?_some h1
        obtain ⟨y0, y1, k, _, _, t0, t1⟩ := trod_struct2 Tryd.underlying25 h2
        obtain ⟨s, e0, _, hs⟩ := DataW.trod_string Tryd.underlying9 t0
        obtain ⟨p, e1, _, hp⟩ := DataW.trod_int Tryd.underlying3 t1
        match cs', hlen with
        | [u0, u1], _ =>
          simp only [cells9, cells3, List.drop_zero, List.drop_succ_cons, List.take_succ_cons, List.take_zero, List.cons.injEq, and_true] at e0 e1
          subst e0 e1
          have hb := bounds_i64 hp
          exact ⟨(s, p), hs, by simpa using hb, fun _ => ⟨by simpa using hat 0 (by omega), by simpa using hat 1 (by omega)⟩⟩
      · exact ⟨(ByteArray.empty, 0), Nat.zero_le _, by decide, fun h => absurd h hi⟩
    obtain ⟨f, hf⟩ := Classical.axiomOfChoice key
    refine ⟨fun i => (f i).1, fun i => (f i).2, fun i hi => ?_, fun i => (hf i).1, fun i => (hf i).2.1⟩
    obtain ⟨h1, h2⟩ := (hf i).2.2 hi
    obtain ⟨b, off, spot⟩ := a
    have hspot : spot = none := by
      have := World.cell?_spot ((hf 0).2.2 (by omega)).1
      simpa [Addr.add] using this
    subst hspot
    rw [Addr.add_lit, Addr.add_lit] at h1 h2
    exact ⟨b, off, rfl, h1, h2⟩

set_option maxRecDepth 100000 in
theorem lifted (os : Os) (started : os.Started) (H : Type) (enc : TypeId × Value → H) :
    ReturnsInHanded {} Tryd.checked os 3 .any (fun w args => (Rows.fnDemotedLinesCutSpec.pre enc Tryd.prog Tryd.f3 [] false w args ∧ laidMetH Tryd.prog laid3 w) ∧ sizedMet enc Tryd.prog Tryd.f3 (OpenSpec.ofChange Rows.fnDemotedLinesCutSpec) false w args)
      (Rows.fnDemotedLinesCutSpec.post enc Tryd.prog Tryd.f3 false true false false) := by
  refine returnsInHanded_of_change_and (C := Tryd.checked) (X := fun w _ => laidMetH Tryd.prog laid3 w) (fun _ _ _ hh h => h.of_heap hh) own started (by kernel_rfl) Tryd.func3
    (ChangeSpec.witness_shaped (enc := enc) (C := Tryd.checked) (os := os) (X := fun w _ => laidMetH Tryd.prog laid3 w) false (World.doorLaid Tryd.prog 24 os) #[.string ByteArray.empty, .slice none 0 0, .int .i64 0] 8 rfl (World.shaped_of_RefB (by kernel_rfl) (by kernel_rfl)) (by kernel_rfl) (by kernel_rfl) (by kernel_rfl) (door_met os _)) ?_
  intro W base args ds gs before hval0 hW _ _ hL _
  have hval : ∀ (j : Nat) t v, Tryd.f3.params[j]? = some t → args[j]? = some v → Value.okWide Tryd.prog W .any base t v := hval0
  have hW' := hW
  obtain ⟨p, q, hA0, hV, rfl, hfz, hnd⟩ := hW
  have hA : DataW.TrodAll enc Tryd.prog W 0 (fun _ => true) true Tryd.f3.params.toList args.toList ds p := hA0
  rw [Tryd.params3] at hA hval
  obtain ⟨v0, vs0, d0, ds0, p0, q0, hargs, rfl, rfl, h0, r0⟩ := trodAll_cons hA
  obtain ⟨v1, vs1, d1, ds1, p1, q1, rfl, rfl, rfl, h1, r1⟩ := trodAll_cons r0
  obtain ⟨v2, vs2, d2, ds2, p2, q2, rfl, rfl, rfl, h2, r2⟩ := trodAll_cons r1
  obtain ⟨rfl, rfl, rfl⟩ := trodAll_nil r2
  obtain rfl : args = #[v0, v1, v2] := by cases args; simp_all
  obtain ⟨rfl, rfl⟩ := trodVars_none hV
  obtain ⟨nm, rfl, rfl, rfl, hs⟩ := open_string Tryd.underlying9 (hval 0 9 v0 rfl rfl) h0
  obtain ⟨a0, len, cap, rfl⟩ := okWide_slice Tryd.underlying22 (hval 1 22 v1 rfl rfl)
  obtain ⟨cut, rfl, rfl, rfl, wc⟩ := open_int Tryd.underlying3 (hval 2 3 v2 rfl rfl) h2
  have k1 := h1
  have lt1 : ∀ x ∈ p1, x.block < W.heap.size := by obtain ⟨m, hm⟩ := k1; exact DataW.trod_lt m _ _ _ hm
  obtain ⟨fuel, hf⟩ := h1
  obtain ⟨hl, ip, pt, hAd, hip, hpt⟩ := open_addrs hf
  have hT := tab_of_laid hL
  have hcut : -9223372036854775808 ≤ cut ∧ cut ≤ 9223372036854775807 := by simpa using bounds_i64 wc
  clear hA0 hval0
  refine (law_walk nm a0 len cap ip pt cut W hs hl hAd hip (tab_pos hT) hpt hT hcut).mono fun e W' ⟨he, bel⟩ => ?_
  subst he
  exact ⟨_, rfl, _, _, _, [], _, [], hW', trodAll_mk1 (shut_bool Tryd.underlying4 _), (trodAll_cons_mk (shut_string Tryd.underlying9 hs) (trodAll_cons_mk (Below.trod laidOut (by kernel_rfl) (of_decide_eq_true (by kernel_rfl)) k1 bel lt1) (trodAll_cons_mk (shut_int Tryd.underlying3 wc) trodAll_mk0))), rfl, bel.frame _, fun h => by cases h⟩

theorem row_holds : Rows.FnDemotedLinesCutSaid :=
  OpenClaim.holds_of_wide 3 Tryd.f3 rfl rfl rfl rfl rfl rfl rfl ⟨rfl, rfl, rfl, rfl, rfl⟩ rfl rfl rfl rfl rfl (by kernel_rfl) Tryd.func3 (by kernel_rfl)
    (of_decide_eq_true (by kernel_rfl)) (by unfold Func.isWrapper; first | (rw [if_pos (by decide +kernel)]; kernel_rfl) | (rw [if_neg (by decide +kernel)]; exact ⟨rfl, rfl⟩))
    (fun os started H enc _ => lifted os started H enc)

/-- THE TIED CARD -/
theorem fnDemotedLinesCut_proved : Rows.FnDemotedLinesCutCardSaid :=
  Claim7.holds_tied_plain_at .later [] [.data, .data, .data] true Rows.fnDemotedLinesCutCard.stood.harness false
    row_holds (fun _ h => by cases h) (by kernel_rfl) (fun _ h => by cases h) fnDemotedLinesCut_row_tie rfl ⟨rfl, rfl⟩ (by kernel_rfl) rfl
    (fun f fn hf hfn => by
      obtain rfl : f = 3 := Option.some.inj ((show Tryd.prog.funcNamed Rows.fnDemotedLinesCutRow.func = some 3 by kernel_rfl).symm.trans hf) |>.symm
      obtain rfl : fn = Tryd.f3 := (Option.some.inj (Tryd.func3.symm.trans hfn)).symm
      exact ⟨by kernel_rfl, fun j t ht => by
        rw [Tryd.params3] at ht
        have hm : t ∈ [9, 22, 3] := by simpa using Array.mem_of_getElem? ht
        have hall : ([9, 22, 3].all fun u => !Tryd.prog.wantsStandIn u) = true := by kernel_rfl
        exact (show Tryd.prog.wantsStandIn t = false by simpa using List.all_eq_true.1 hall t hm)⟩)
    (by kernel_rfl)
end Go.Proofs.Qxb6608830aDoor
