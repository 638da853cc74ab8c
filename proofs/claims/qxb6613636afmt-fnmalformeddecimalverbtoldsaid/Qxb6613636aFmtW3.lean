import Derived.Test.Qxb6613636aFmtW2
import Derived.Deep.RegionHeld3
import Derived.Lib.ItoaLen
namespace Go.Proofs.Qxb6613636aFmt
open Go.RowKit Go.Extern.Stop Go.Stop Go.Extern

/-- What the first k bytes of f tell of '%': none; one, at p; more. -/
def St (f : ByteArray) (k C : Nat) (A : Int) : Prop :=
  (C = 0 ∧ ∀ j (h : j < f.size), j < k → f[j].toNat ≠ 37) ∨
  (C = 1 ∧ ∃ p : Nat, A = (p : Int) ∧ p < k ∧ (∃ h : p < f.size, f[p].toNat = 37) ∧ ∀ j (h : j < f.size), j < k → j ≠ p → f[j].toNat ≠ 37) ∨
  2 ≤ C

theorem st_hit {f : ByteArray} {k C : Nat} {A : Int} (h : St f k C A) (hk : k < f.size) (hc : f[k].toNat = 37) : St f (k + 1) (C + 1) (k : Int) := by
  rcases h with ⟨rfl, h⟩ | ⟨rfl, _⟩ | h
  · refine .inr (.inl ⟨rfl, k, rfl, by omega, ⟨hk, hc⟩, fun j hj h1 h2 => h j hj (by omega)⟩)
  · exact .inr (.inr (by omega))
  · exact .inr (.inr (by omega))
theorem st_miss {f : ByteArray} {k C : Nat} {A : Int} (h : St f k C A) (hk : k < f.size) (hc : f[k].toNat ≠ 37) : St f (k + 1) C A := by
  have key : ∀ j, j < k + 1 → j < k ∨ j = k := fun j hj => by omega
  rcases h with ⟨rfl, h⟩ | ⟨rfl, p, rfl, hp, hpc, h⟩ | h
  · refine .inl ⟨rfl, fun j hj h1 => ?_⟩
    rcases key j h1 with h2 | rfl
    · exact h j hj h2
    · exact hc
  · refine .inr (.inl ⟨rfl, p, rfl, by omega, hpc, fun j hj h1 h2 => ?_⟩)
    rcases key j h1 with h3 | rfl
    · exact h j hj h3 h2
    · exact hc
  · exact .inr (.inr h)

theorem at_data {f : ByteArray} {j : Nat} (h : j < f.size) : f.data.toList[j]? = some f[j] := by
  have h2 : j < f.data.toList.length := by simpa using h
  rw [List.getElem?_eq_getElem h2]
  rfl

/-- The format, parted at its one '%d'. -/
theorem parted (f : ByteArray) (p : Nat) (hp : p + 1 < f.size) (h37 : f[p].toNat = 37) (h100 : f[p + 1].toNat = 100)
    (ho : ∀ j (h : j < f.size), j < f.size → j ≠ p → f[j].toNat ≠ 37) :
    f.data.toList = f.data.toList.take p ++ 37 :: 100 :: f.data.toList.drop (p + 2) ∧ 37 ∉ f.data.toList.take p ∧ 37 ∉ f.data.toList.drop (p + 2) := by
  have hl : f.data.toList.length = f.size := by simp
  have e1 : f[p] = 37 := UInt8.toNat_inj.1 h37
  have e2 : f[p + 1] = 100 := UInt8.toNat_inj.1 h100
  have g1 := at_data (f := f) (j := p) (by omega)
  have g2 := at_data (f := f) (j := p + 1) hp
  rw [e1] at g1
  rw [e2] at g2
  refine ⟨?_, ?_, ?_⟩
  · conv => lhs; rw [← List.take_append_drop p f.data.toList]
    congr 1
    rw [List.drop_eq_getElem_cons (by omega), List.drop_eq_getElem_cons (by omega)]
    rw [List.getElem?_eq_getElem (by omega)] at g1 g2
    rw [Option.some.inj g1, Option.some.inj g2]
  · intro hm
    obtain ⟨j, hj, e⟩ := List.mem_iff_getElem.1 hm
    simp only [List.length_take] at hj
    rw [List.getElem_take] at e
    have hjf : j < f.size := by omega
    have g := at_data hjf
    rw [List.getElem?_eq_getElem (by omega), e] at g
    exact ho j hjf hjf (by omega) (by rw [← Option.some.inj g]; rfl)
  · intro hm
    obtain ⟨j, hj, e⟩ := List.mem_iff_getElem.1 hm
    simp only [List.length_drop] at hj
    rw [List.getElem_drop] at e
    have hjf : p + 2 + j < f.size := by omega
    have g := at_data hjf
    rw [List.getElem?_eq_getElem (by omega), e] at g
    exact ho _ hjf hjf (by omega) (by rw [← Option.some.inj g]; rfl)

theorem want_list (f : ByteArray) (p : Nat) (n : Int) : (f.extract 0 p ++ itoaS n ++ f.extract (p + 2) f.size).data.toList = f.data.toList.take p ++ (Lib.itoa n ++ f.data.toList.drop (p + 2)) := by
  have e : ∀ a b : ByteArray, (a ++ b).data.toList = a.data.toList ++ b.data.toList := fun a b => by simp
  have x : ∀ i j : Nat, (f.extract i j).data.toList = (f.data.toList.take j).drop i := fun i j => by
    simp [List.drop_take]
  rw [e, e, x, x]
  have : (itoaS n).data.toList = Lib.itoa n := by simp [itoaS]
  rw [this, List.take_of_length_le (i := f.size) (by simp)]
  simp
theorem eq_of_list {a b : ByteArray} (h : a.data.toList = b.data.toList) : a = b := by
  apply ByteArray.ext
  exact Array.toList_inj.1 h

set_option maxRecDepth 100000 in
set_option maxHeartbeats 1000000 in
theorem law_walk (F : Interp) (f : ByteArray) (n : Int) (w : World) (hF : F.answers w.tape) (hf : f.size ≤ maxLen) (h0 : -9223372036854775808 ≤ n) (h1 : n ≤ 9223372036854775807)
    (htext : ∀ pre post, f.data.toList = pre ++ 37 :: 100 :: post → 37 ∉ pre → 37 ∉ post → (said F f n).data.toList = pre ++ (Lib.itoa n ++ post)) :
    Calls Tryf.prog 3 #[.string f, .int .i64 n] w fun e w' => e = .returned (.bool true) ∧ Below w.heap.size w w' := by
  have hz := zzBytes_any f n w hf
  unfold maxLen at hf
  have HT := hid htext
  clear htext
  go_enter Tryf.func3, Tryf.ntmps3
  go_wp2_with fail
  refine hz.mono ?_
  rintro e w' ⟨⟨r, rfl⟩, hw⟩
  obtain rfl := hw.symm
  clear hz
  cases r
  · go_wp2
    go_ret
    exact ⟨rfl, Below.refl _ _⟩
  · go_wp2
    all_goals try (go_ret; exact ⟨rfl, Below.refl _ _⟩)
    go_loop [5, 6, 7] (fun at_ cnt i => ∃ k C : Nat, ∃ A : Int, k ≤ f.size ∧ i = .int .i64 k ∧ cnt = .int .i64 C ∧ at_ = .int .i64 A ∧ C ≤ k ∧ -1 ≤ A ∧ A < f.size ∧ Hid (St f k C A)) (fun _ _ i => f.size - (intOf i).toNat)
    case atStart => exact ⟨0, 0, -1, by omega, rfl, rfl, rfl, by omega, by omega, by omega, hid (.inl ⟨rfl, fun j h hj => by omega⟩)⟩
    case round =>
      obtain ⟨k, C, A, hk, rfl, rfl, rfl, hC, hA0, hA1, HS⟩ := hrel
      by_cases hkf : k < f.size
      · have e1 := @st_hit f k C A HS.out hkf
        have e2 := @st_miss f k C A HS.out hkf
        have E1 := hid e1
        have E2 := hid e2
        clear e1 e2
        go_wp2
        · have hc : f[k].toNat = 37 := by
            have h : ((f[k].toNat : Int) == 37) = true := by assumption
            simp at h; omega
          go_round
          case rel => exact ⟨k + 1, C + 1, k, by omega, by go_num, by go_num, rfl, by omega, by omega, by omega, hid (E1.out hc)⟩
          case measure => simp [intOf]; omega
        · have hc : f[k].toNat ≠ 37 := by
            have h : ((f[k].toNat : Int) == 37) = false := by assumption
            simp at h; omega
          go_round
          case rel => exact ⟨k + 1, C, A, by omega, by go_num, rfl, rfl, by omega, by omega, by omega, hid (E2.out hc)⟩
          case measure => simp [intOf]; omega
      · have hke : k = f.size := by omega
        subst hke
        rcases HS.out with ⟨rfl, _⟩ | ⟨rfl, p, rfl, hp, ⟨hp1, hp37⟩, hoth⟩ | hC2
        · clear HS
          go_wp2
          go_ret
          exact ⟨rfl, Below.refl _ _⟩
        · have HO := hid hoth
          have HP := hid hp37
          clear HS hoth hp37
          by_cases hq : p + 1 < f.size
          · by_cases h100 : f[p + 1].toNat = 100
            · have hd : ((f[p + 1].toNat : Int) != 100) = false := by simp; omega
              have hsz : (itoaS n).size ≤ 21 := by
                show (Lib.itoa n).toArray.size ≤ 21
                have := Lib.itoa_length_le n h0 h1
                simpa using this
              have b1 : (0 : Int) ≤ (p : Int) := by omega
              have b2 : (p : Int) ≤ (f.size : Int) := by omega
              have b3 : (p : Int) + 2 ≤ (f.size : Int) := by omega
              have b4 : IntKind.i64.wrap ((p : Int) + 2) = (p : Int) + 2 := by rw [IntKind.wrap_i64]; omega
              have b5 : (0 : Int) ≤ (p : Int) + 2 := by omega
              have c1 : ¬ 9223372036854775807 < min p f.size + (itoaS n).size := by omega
              have c2 : ¬ 9223372036854775807 < min p f.size + (itoaS n).size + (f.size - (p + 2)) := by omega
              have b6 : ((p : Int) + 2).toNat = p + 2 := by omega
              obtain ⟨s1, s2, s3⟩ := parted f p hq HP.out h100 HO.out
              have hpr := hid (printed_d f _ _ s1 s2 s3)
              have HW := hid (HT.out _ _ s1 s2 s3)
              clear s1 s2 s3
              go_wp2
              go_region_held3 (fun _ => True) (trivial) (first | (go_at_call 5; refine (zzDecimal_any n h0 h1 _).mono ?_; rintro e w1 ⟨rfl, hb1⟩))
              go_wp2_with fail
              have hF1 : F.answers w1.tape := by rw [hb1.tape]; exact hF
              refine (zzMalformed_d F f n w1 hF1 hpr.out).mono ?_
              rintro e w2 ⟨rfl, hb2, hc0, hc1⟩
              rw [eq_of_list (HW.out.trans (want_list f p n).symm)] at hc1
              have hb : Below w.heap.size w w2 := ((Below.refl w.heap.size w).drew.trans hb1).trans (hb2.mono hb1.size)
              clear hb1 hb2 hpr HW HT hF1
              go_wp2_with (first | (go_at_call 7; refine (status_any _ 400 _ hc0).mono ?_; rintro e w' ⟨rfl, rfl⟩) | (go_at_call 8; refine (message_any _ _ _ hc1).mono ?_; rintro e w' ⟨rfl, rfl⟩) | (go_at_call 9; refine (zzError_any _ _ _ hc1).mono ?_; rintro e w' ⟨rfl, rfl⟩))
              go_ret
              exact ⟨rfl, hb⟩
            · have hd : ((f[p + 1].toNat : Int) != 100) = true := by simp; omega
              go_wp2
              go_ret
              exact ⟨rfl, Below.refl _ _⟩
          · go_wp2
            go_ret
            exact ⟨rfl, Below.refl _ _⟩
        · have hd : ((C : Int) == 1) = false := by simp; omega
          clear HS
          go_wp2
          go_ret
          exact ⟨rfl, Below.refl _ _⟩
end Go.Proofs.Qxb6613636aFmt
