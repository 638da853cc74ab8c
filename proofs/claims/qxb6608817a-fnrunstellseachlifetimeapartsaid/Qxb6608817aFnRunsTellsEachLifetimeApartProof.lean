/-
  THE PROOF OF 'Rows.FnRunsTellsEachLifetimeApartSaid': for any two lifetimes the two messages are not empty, and are equal just where the lifetimes are.
  The frame (from 'THE ROW's STEP' on) is the kit's template at this function; the walk is this seat's own: nine pairs of lifetimes, one walk each; every other input returns at once.
-/
import Derived.Test.Qxb6608817aRows
import Derived.WalkKit
import Derived.ProofKit
import Derived.OpenShut
import Derived.ShutString
namespace Go.Proofs.Qxb6608817a.fnRunsTellsEachLifetimeApart
open Go.ChangeShapes Go.WideShapes Go.ChangeAt Go.RowKit
open Go.ChangeMaps (open_string shut_string)
set_option linter.unusedVariables false      -- a walk need not use every 'w<i>' (that an integer argument fits its kind)

theorem own : ownKnob Try.prog.godebug = none := by kernel_rfl

/-! ### STEP 1: THE WALK -/
def text0 : ByteArray := { data := #[111, 110, 99, 101, 32, 112, 101, 114, 32, 99, 111, 110, 116, 97, 105, 110, 101, 114] }
def text1 : ByteArray := { data := #[111, 110, 99, 101, 32, 112, 101, 114, 32, 115, 99, 111, 112, 101] }
def text2 : ByteArray := { data := #[97, 116, 32, 101, 97, 99, 104, 32, 117, 115, 101] }

theorem runs0 (w : World) : Calls Try.prog 5 #[.int .u8 0] w fun e w' => e = .returned (.string text0) ∧ w = w' := by
  have i0 : ∀ w, (Instr.index 26 (.agg #[.string text0, .string text1, .string text2]) (.int .u8 0)).run Try.prog w = .ok (.string text0) w := fun _ => by kernel_rfl
  unfold text0 text1 text2 at *
  go_enter Try.func5, Try.ntmps5
  go_wp2
  go_ret
  exact ⟨rfl, rfl⟩

theorem zzRuns0 (w : World) : Calls Try.prog 4 #[.int .u8 0] w fun e w' => e = .returned (.string text0) ∧ w = w' := by
  go_enter Try.func4, Try.ntmps4
  go_wp2_with (go_at_call 5; refine (runs0 _).mono ?_; rintro e w' ⟨rfl, rfl⟩)
  go_ret
  exact ⟨rfl, rfl⟩

theorem runs1 (w : World) : Calls Try.prog 5 #[.int .u8 1] w fun e w' => e = .returned (.string text1) ∧ w = w' := by
  have i0 : ∀ w, (Instr.index 26 (.agg #[.string text0, .string text1, .string text2]) (.int .u8 1)).run Try.prog w = .ok (.string text1) w := fun _ => by kernel_rfl
  unfold text0 text1 text2 at *
  go_enter Try.func5, Try.ntmps5
  go_wp2
  go_ret
  exact ⟨rfl, rfl⟩

theorem zzRuns1 (w : World) : Calls Try.prog 4 #[.int .u8 1] w fun e w' => e = .returned (.string text1) ∧ w = w' := by
  go_enter Try.func4, Try.ntmps4
  go_wp2_with (go_at_call 5; refine (runs1 _).mono ?_; rintro e w' ⟨rfl, rfl⟩)
  go_ret
  exact ⟨rfl, rfl⟩

theorem runs2 (w : World) : Calls Try.prog 5 #[.int .u8 2] w fun e w' => e = .returned (.string text2) ∧ w = w' := by
  have i0 : ∀ w, (Instr.index 26 (.agg #[.string text0, .string text1, .string text2]) (.int .u8 2)).run Try.prog w = .ok (.string text2) w := fun _ => by kernel_rfl
  unfold text0 text1 text2 at *
  go_enter Try.func5, Try.ntmps5
  go_wp2
  go_ret
  exact ⟨rfl, rfl⟩

theorem zzRuns2 (w : World) : Calls Try.prog 4 #[.int .u8 2] w fun e w' => e = .returned (.string text2) ∧ w = w' := by
  go_enter Try.func4, Try.ntmps4
  go_wp2_with (go_at_call 5; refine (runs2 _).mono ?_; rintro e w' ⟨rfl, rfl⟩)
  go_ret
  exact ⟨rfl, rfl⟩

theorem ne01 : (text0.toList == text1.toList) = false := by kernel_rfl
theorem ne02 : (text0.toList == text2.toList) = false := by kernel_rfl
theorem ne10 : (text1.toList == text0.toList) = false := by kernel_rfl
theorem ne12 : (text1.toList == text2.toList) = false := by kernel_rfl
theorem ne20 : (text2.toList == text0.toList) = false := by kernel_rfl
theorem ne21 : (text2.toList == text1.toList) = false := by kernel_rfl
theorem walk (a0 : Int) (a1 : Int) (w0 : (Lit.int .u8 a0).wf = true) (w1 : (Lit.int .u8 a1).wf = true) (w : World) :
    Calls Try.prog 3 #[.int .u8 a0, .int .u8 a1] w fun e w' => e = .returned (.bool true) ∧ Grown w w' := by
  have b0 := bounds_u8 w0
  have b1 := bounds_u8 w1
  by_cases h0 : 2 < a0
  · go_enter Try.func3, Try.ntmps3
    go_wp2
    go_ret
    exact ⟨rfl, Grown.refl _⟩
  · by_cases h1 : 2 < a1
    · go_enter Try.func3, Try.ntmps3
      go_wp2
      go_ret
      exact ⟨rfl, Grown.refl _⟩
    · have e0 : a0 = 0 ∨ a0 = 1 ∨ a0 = 2 := by omega
      have e1 : a1 = 0 ∨ a1 = 1 ∨ a1 = 2 := by omega
      clear w0 w1 b0 b1 h0 h1
      rcases e0 with rfl | rfl | rfl <;> rcases e1 with rfl | rfl | rfl
      · go_enter Try.func3, Try.ntmps3
        go_wp2_with fail
        refine (zzRuns0 _).mono ?_
        rintro e w' ⟨rfl, rfl⟩
        go_wp2_with fail
        refine (zzRuns0 _).mono ?_
        rintro e w' ⟨rfl, rfl⟩
        go_wp2
        go_ret
        exact ⟨rfl, Grown.refl _⟩
      · go_enter Try.func3, Try.ntmps3
        go_wp2_with fail
        refine (zzRuns0 _).mono ?_
        rintro e w' ⟨rfl, rfl⟩
        go_wp2_with fail
        refine (zzRuns1 _).mono ?_
        rintro e w' ⟨rfl, rfl⟩
        have ne := ne01
        go_wp2
        go_ret
        exact ⟨rfl, Grown.refl _⟩
      · go_enter Try.func3, Try.ntmps3
        go_wp2_with fail
        refine (zzRuns0 _).mono ?_
        rintro e w' ⟨rfl, rfl⟩
        go_wp2_with fail
        refine (zzRuns2 _).mono ?_
        rintro e w' ⟨rfl, rfl⟩
        have ne := ne02
        go_wp2
        go_ret
        exact ⟨rfl, Grown.refl _⟩
      · go_enter Try.func3, Try.ntmps3
        go_wp2_with fail
        refine (zzRuns1 _).mono ?_
        rintro e w' ⟨rfl, rfl⟩
        go_wp2_with fail
        refine (zzRuns0 _).mono ?_
        rintro e w' ⟨rfl, rfl⟩
        have ne := ne10
        go_wp2
        go_ret
        exact ⟨rfl, Grown.refl _⟩
      · go_enter Try.func3, Try.ntmps3
        go_wp2_with fail
        refine (zzRuns1 _).mono ?_
        rintro e w' ⟨rfl, rfl⟩
        go_wp2_with fail
        refine (zzRuns1 _).mono ?_
        rintro e w' ⟨rfl, rfl⟩
        go_wp2
        go_ret
        exact ⟨rfl, Grown.refl _⟩
      · go_enter Try.func3, Try.ntmps3
        go_wp2_with fail
        refine (zzRuns1 _).mono ?_
        rintro e w' ⟨rfl, rfl⟩
        go_wp2_with fail
        refine (zzRuns2 _).mono ?_
        rintro e w' ⟨rfl, rfl⟩
        have ne := ne12
        go_wp2
        go_ret
        exact ⟨rfl, Grown.refl _⟩
      · go_enter Try.func3, Try.ntmps3
        go_wp2_with fail
        refine (zzRuns2 _).mono ?_
        rintro e w' ⟨rfl, rfl⟩
        go_wp2_with fail
        refine (zzRuns0 _).mono ?_
        rintro e w' ⟨rfl, rfl⟩
        have ne := ne20
        go_wp2
        go_ret
        exact ⟨rfl, Grown.refl _⟩
      · go_enter Try.func3, Try.ntmps3
        go_wp2_with fail
        refine (zzRuns2 _).mono ?_
        rintro e w' ⟨rfl, rfl⟩
        go_wp2_with fail
        refine (zzRuns1 _).mono ?_
        rintro e w' ⟨rfl, rfl⟩
        have ne := ne21
        go_wp2
        go_ret
        exact ⟨rfl, Grown.refl _⟩
      · go_enter Try.func3, Try.ntmps3
        go_wp2_with fail
        refine (zzRuns2 _).mono ?_
        rintro e w' ⟨rfl, rfl⟩
        go_wp2_with fail
        refine (zzRuns2 _).mono ?_
        rintro e w' ⟨rfl, rfl⟩
        go_wp2
        go_ret
        exact ⟨rfl, Grown.refl _⟩

/-! ### THE ROW's STEP: WRITTEN OUT: LEAVE IT -/
set_option maxRecDepth 100000 in
theorem lifted (os : Os) (started : os.Started) (H : Type) (enc : TypeId × Value → H) :
    ReturnsInHanded {} Try.checked os 3 .any (Rows.fnRunsTellsEachLifetimeApartSpec.pre6 enc Try.prog Try.f3 Rows.fnRunsTellsEachLifetimeApartRow.domain false) (Rows.fnRunsTellsEachLifetimeApartSpec.post enc Try.prog Try.f3 false true false false) := by
  refine returnsInHanded_of_change (C := Try.checked) own started (by kernel_rfl) Try.func3
    (ChangeSpec.witness6 (enc := enc) (C := Try.checked) false ⟨#[], #[.int .u8 0, .int .u8 0], []⟩ 8 (by kernel_rfl) (by kernel_rfl) (by kernel_rfl) (by kernel_rfl)) ?_
  intro W base args ds gs before hval0 hW hcnd _
  have hval : ∀ (j : Nat) t v, Try.f3.params[j]? = some t → args[j]? = some v → Value.okWide Try.prog W .any base t v := hval0
  have hW' := hW
  obtain ⟨p, q, hA0, hV, rfl, hfz, hnd⟩ := hW
  have hA : DataW.TrodAll enc Try.prog W 0 (fun _ => true) true Try.f3.params.toList args.toList ds p := hA0
  rw [Try.params3] at hA hval
  obtain ⟨v0, vs0, d0, ds0, p0, q0, hargs, rfl, rfl, h0, r0⟩ := trodAll_cons hA
  obtain ⟨v1, vs1, d1, ds1, p1, q1, rfl, rfl, rfl, h1, r1⟩ := trodAll_cons r0
  obtain ⟨rfl, rfl, rfl⟩ := trodAll_nil r1
  obtain rfl : args = #[v0, v1] := by cases args; simp_all
  obtain ⟨rfl, rfl⟩ := trodVars_none hV
  obtain ⟨a0, rfl, rfl, rfl, w0⟩ := open_int Try.underlying5 (hval 0 5 v0 rfl rfl) h0
  obtain ⟨a1, rfl, rfl, rfl, w1⟩ := open_int Try.underlying5 (hval 1 5 v1 rfl rfl) h1
  clear hA0 hval0
  simp only [List.append_nil] at hW'
  refine (walk a0 a1 w0 w1 W).mono fun e W' ⟨he, hg⟩ => ?_
  subst he
  exact ⟨_, rfl, post_of_same (pa := []) (pv := []) hW' (fun _ _ _ => (trodAll_cons_mk (shut_bool Try.underlying4 _) trodAll_mk0)) (fun sp _ => (trodAll_cons_mk (shut_int Try.underlying5 w0) (trodAll_cons_mk (shut_int Try.underlying5 w1) trodAll_mk0))) (fun _ _ => rfl) rfl
    (hg.frame _) hg.2.1 (ok_one (by kernel_rfl) rfl (okWide_bool_mk Try.underlying4 _))⟩

theorem over : Rows.fnRunsTellsEachLifetimeApartRow.holds Try.pinned (OpenSpec.ofChange Rows.fnRunsTellsEachLifetimeApartSpec) :=
  OpenClaim.holds_of_wide 3 Try.f3 rfl rfl rfl rfl rfl rfl rfl ⟨rfl, rfl, rfl, rfl, rfl⟩ rfl rfl rfl rfl rfl (by kernel_rfl) Try.func3 (by kernel_rfl)
    (of_decide_eq_true (by kernel_rfl)) (by unfold Func.isWrapper; first | (rw [if_pos (by decide +kernel)]; kernel_rfl) | (rw [if_neg (by decide +kernel)]; exact ⟨rfl, rfl⟩))
    (fun os started H enc _ => lifted os started H enc)

end Go.Proofs.Qxb6608817a.fnRunsTellsEachLifetimeApart
namespace Go.Proofs.Qxb6608817a
/-- THE STATEMENT -/
theorem fnRunsTellsEachLifetimeApart_proved : Rows.FnRunsTellsEachLifetimeApartSaid :=
  fnRunsTellsEachLifetimeApart.over
end Go.Proofs.Qxb6608817a
