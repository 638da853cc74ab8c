import Derived.Test.Qxb6608830aDoorW3
import Derived.Test.Qxb6608830aDoorL1
namespace Go.Proofs.Qxb6608830aDoor
open Go.RowKit Go.Lib

/-- strconv.Itoa's text, as a Go string. -/
def itoaS (v : Int) : ByteArray := ⟨(itoa v).toArray⟩

theorem bytes_at (l : List UInt8) (k : Nat) (h : k < (⟨l.toArray⟩ : ByteArray).size) (b : UInt8) (e : l[k]? = some b) : (⟨l.toArray⟩ : ByteArray)[k] = b := by
  have hb : k < l.length := h
  rw [List.getElem?_eq_getElem hb] at e
  exact Option.some.inj e

theorem nDigits19 (u : Nat) (h : u ≤ 9223372036854775808) : nDigits u ≤ 19 := nDigits_le 18 u (by omega)

theorem readsBack_itoa (v : Int) (h0 : -9223372036854775808 ≤ v) (h1 : v ≤ 9223372036854775807) (w : World) :
    Calls Tryd.prog 10 #[.string (itoaS v), .int .i64 v] w fun e w' => e = .returned (.bool true) ∧ w' = w := by
  by_cases hneg : v < 0
  · obtain ⟨u, hu⟩ : ∃ u, v.natAbs = u := ⟨_, rfl⟩
    have hl : (itoa v) = 45 :: decDigits u := by rw [itoa, if_pos hneg, hu]
    have hs : (itoaS v).size = nDigits u + 1 := by
      show (itoa v).toArray.size = _
      rw [hl]; simp [decDigits_length]
    have hp := nDigits_pos u
    have h19 := nDigits19 u (by omega)
    refine readsBack_neg (itoaS v) (fun k => (Dg u k : Int)) (fun k => -(Vl u k : Int)) v w (by omega) (by omega) ?_ ?_ ?_ ?_ ?_ ?_ ?_ ?_ ?_
    · rw [show (itoaS v)[0] = 45 from bytes_at _ 0 _ _ (by rw [hl]; rfl)]; rfl
    · intro k; have := Dg_le u k; omega
    · intro k h
      have hk : k < nDigits u := by omega
      have hd := decDigits_at u k hk
      have e : (itoa v)[k + 1]? = some (UInt8.ofNat (48 + Dg u k)) := by rw [hl]; exact hd
      have e2 : (itoaS v)[k + 1]'h = UInt8.ofNat (48 + Dg u k) := bytes_at _ _ _ _ e
      rw [e2, ofNat_digit _ (Dg_le u k)]; omega
    · simp [Vl_zero]
    · intro k h; rw [Vl_succ u k (by omega)]; omega
    · intro k h; omega
    · intro k h
      have := Vl_succ u k (by omega)
      have := Vl_le u (k + 1)
      omega
    · rw [hs]; simp only [Nat.add_sub_cancel]; rw [Vl_end]; omega
    · by_cases h1d : nDigits u = 1
      · have e := Vl_succ u 0 (by omega)
        have e0 := Vl_zero u
        have e1 := Vl_end u
        rw [h1d] at e1
        simp only [Nat.zero_add] at e
        omega
      · have := Dg_lead u h1d; omega
  · obtain ⟨u, hu⟩ : ∃ u, v.toNat = u := ⟨_, rfl⟩
    have hl : (itoa v) = decDigits u := by rw [itoa, if_neg hneg, hu]
    have hs : (itoaS v).size = nDigits u := by
      show (itoa v).toArray.size = _
      rw [hl]; simp [decDigits_length]
    have hp := nDigits_pos u
    have h19 := nDigits19 u (by omega)
    refine readsBack_pos (itoaS v) (fun k => (Dg u k : Int)) (fun k => (Vl u k : Int)) v w (by omega) (by omega) ?_ ?_ ?_ ?_ ?_ ?_ ?_ ?_
    · intro k; have := Dg_le u k; omega
    · intro k h
      have hk : k < nDigits u := by omega
      have hd := decDigits_at u k hk
      have e2 : (itoaS v)[k]'h = UInt8.ofNat (48 + Dg u k) := bytes_at _ _ _ _ (by rw [hl]; exact hd)
      rw [e2, ofNat_digit _ (Dg_le u k)]; omega
    · simp [Vl_zero]
    · intro k h; rw [Vl_succ u k (by omega)]; omega
    · intro k h; omega
    · intro k h
      have := Vl_succ u k (by omega)
      have := Vl_le u (k + 1)
      omega
    · rw [hs, Vl_end]; omega
    · by_cases h1d : nDigits u = 1
      · left; omega
      · right; have := Dg_lead u h1d; omega
end Go.Proofs.Qxb6608830aDoor
