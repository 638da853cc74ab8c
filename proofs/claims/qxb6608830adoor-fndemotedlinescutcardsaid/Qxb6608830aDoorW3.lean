import Derived.Test.Qxb6608830aDoorW1
namespace Go.Proofs.Qxb6608830aDoor
open Go.RowKit
theorem hid {p : Prop} (h : p) : Hid p := h

set_option maxHeartbeats 400000 in
theorem readsBack_pos (s : ByteArray) (Dg V : Nat → Int) (v : Int) (w : World) (hN1 : 1 ≤ s.size) (hN : s.size ≤ 19)
    (hD : ∀ k, 0 ≤ Dg k ∧ Dg k ≤ 9) (hb : ∀ k (h : k < s.size), (s[k].toNat : Int) = 48 + Dg k) (V0 : V 0 = 0) (VS : ∀ k, k < s.size → V (k + 1) = V k * 10 + Dg k)
    (hV : ∀ k, k ≤ s.size → 0 ≤ V k) (hM : ∀ k, k < s.size → V k * 10 + Dg k ≤ 9223372036854775807) (hv : V s.size = v) (hlead : s.size = 1 ∨ Dg 0 ≠ 0) :
    Calls Tryd.prog 10 #[.string s, .int .i64 v] w fun e w' => e = .returned (.bool true) ∧ w' = w := by
  have e0 := hb 0 (by omega)
  have d0 := hD 0
  have HB := hid hb
  have HS := hid VS
  have HV := hid hV
  have HM := hid hM
  have H0 := hid V0
  have Hv := hid hv
  have HD := hid hD
  have HL := hid hlead
  clear hb VS hV hM V0 hv hD hlead
  have hz : ((0 : Int) == (s.size : Int)) = false := by simp; omega
  go_enter Tryd.func10, Tryd.ntmps10
  go_wp2
  all_goals try (exfalso; omega)
  all_goals try (exfalso; have := HL.out; omega)
  all_goals
    go_loop [5, 7] (fun i t => ∃ k : Nat, ∃ A : Int, k ≤ s.size ∧ i = .int .i64 k ∧ t = .int .i64 A ∧ 0 ≤ A ∧ Hid (A = V k)) (fun i _ => s.size - (intOf i).toNat)
    case atStart => exact ⟨0, _, by omega, rfl, rfl, by omega, hid H0.out.symm⟩
    case round =>
      obtain ⟨k, A, hk, rfl, rfl, hA, HA⟩ := hrel
      by_cases hlt : k < s.size
      · have e1 := HB.out k hlt
        have d1 := HD.out k
        have m1 := HM.out k hlt
        rw [← HA.out] at m1
        have VK := hid (HS.out k hlt)
        generalize hd : Dg k = D at *
        have VD := hid hd
        clear hd
        go_wp2
        go_round
        case rel => exact ⟨k + 1, A * 10 + D, by omega, by go_num, by go_num, by omega, hid (by rw [VK.out, ← HA.out])⟩
        case measure => simp [intOf]; omega
      · have hke : k = s.size := by omega
        have HK := hid (show A = v by rw [HA.out, hke]; exact Hv.out)
        clear HA
        have := HK.out
        subst this
        go_wp2
        go_ret
        exact ⟨rfl, rfl⟩

theorem no_underflow (A D : Int) (h9 : D ≤ 9) (hm : -9223372036854775808 ≤ A * 10 - D) : (-9223372036854775808 + (48 + D - 48)).tdiv 10 ≤ A := by
  have e : (-9223372036854775808 + (48 + D - 48) : Int) = -(9223372036854775808 - D) := by omega
  rw [e, Int.neg_tdiv, Int.tdiv_eq_ediv_of_nonneg (by omega)]
  omega

set_option maxHeartbeats 400000 in
theorem readsBack_neg (s : ByteArray) (Dg V : Nat → Int) (v : Int) (w : World) (hN1 : 2 ≤ s.size) (hN : s.size ≤ 20) (h45 : (s[0].toNat : Int) = 45)
    (hD : ∀ k, 0 ≤ Dg k ∧ Dg k ≤ 9) (hb : ∀ k (h : k + 1 < s.size), (s[k + 1].toNat : Int) = 48 + Dg k) (V0 : V 0 = 0) (VS : ∀ k, k + 1 < s.size → V (k + 1) = V k * 10 - Dg k)
    (hV : ∀ k, k + 1 ≤ s.size → V k ≤ 0) (hM : ∀ k, k + 1 < s.size → -9223372036854775808 ≤ V k * 10 - Dg k) (hv : V (s.size - 1) = v) (hlead : Dg 0 ≠ 0) :
    Calls Tryd.prog 10 #[.string s, .int .i64 v] w fun e w' => e = .returned (.bool true) ∧ w' = w := by
  have e0 := hb 0 (by omega)
  have d0 := hD 0
  have HB := hid hb
  have HS := hid VS
  have HV := hid hV
  have HM := hid hM
  have H0 := hid V0
  have Hv := hid hv
  have HD := hid hD
  clear hb VS hV hM V0 hv hD
  have hz : ((1 : Int) == (s.size : Int)) = false := by simp; omega
  go_enter Tryd.func10, Tryd.ntmps10
  go_wp2
  all_goals try (exfalso; omega)
  go_loop [5, 7] (fun i t => ∃ k : Nat, ∃ A : Int, k + 1 ≤ s.size ∧ i = .int .i64 (k + 1) ∧ t = .int .i64 A ∧ A ≤ 0 ∧ Hid (A = V k)) (fun i _ => s.size - (intOf i).toNat)
  case atStart => exact ⟨0, _, by omega, rfl, rfl, by omega, hid H0.out.symm⟩
  case round =>
    obtain ⟨k, A, hk, rfl, rfl, hA, HA⟩ := hrel
    by_cases hlt : k + 1 < s.size
    · have e1 := HB.out k hlt
      have d1 := HD.out k
      have m1 := HM.out k hlt
      rw [← HA.out] at m1
      have VK := hid (HS.out k hlt)
      generalize hd : Dg k = D at *
      have VD := hid hd
      clear hd
      go_wp2
      · exfalso
        have := no_underflow A D d1.2 m1
        omega
      · go_round
        case rel => exact ⟨k + 1, A * 10 - D, by omega, by go_num, by go_num, by omega, hid (by rw [VK.out, ← HA.out])⟩
        case measure => simp [intOf]; omega
    · have hke : k = s.size - 1 := by omega
      have HK := hid (show A = v by rw [HA.out, hke]; exact Hv.out)
      clear HA
      have := HK.out
      subst this
      go_wp2
      go_ret
      exact ⟨rfl, rfl⟩
end Go.Proofs.Qxb6608830aDoor
