import Derived.Test.Qxb6613675aFmtW1
namespace Go.Proofs.Qxb6613675aFmt
open Go.RowKit

def Dist (s : Nat → ByteArray) (n : Nat) : Prop := ∀ i, i < n → ∀ j, j < i → s i ≠ s j
def DistPost (s : Nat → ByteArray) (n : Nat) (e : Ending) : Prop := ∃ r, e = .returned (.bool r) ∧ (r = true → Dist s n)
theorem distPost_false (s : Nat → ByteArray) (n : Nat) : DistPost s n (.returned (.bool false)) := ⟨false, rfl, fun h => by cases h⟩
theorem distPost_true {s : Nat → ByteArray} {n : Nat} (h : Dist s n) : DistPost s n (.returned (.bool true)) := ⟨true, rfl, fun _ => h⟩

theorem toList_ne {a b : ByteArray} (h : a ≠ b) : (a.toList == b.toList) = false := by
  rw [ByteArray.toList_eq, ByteArray.toList_eq]
  simp only [beq_eq_false_iff_ne, ne_eq]
  intro e
  exact h (ByteArray.ext (Array.toList_inj.1 e))

set_option maxHeartbeats 800000 in
theorem zzDistinct_any (a0 : Option Addr) (n c0 : Nat) (s : Nat → ByteArray) (w : World) (hn : n ≤ 100000) (h0 : StrsOf w a0 n s) :
    Calls Tryf.prog 9 #[.slice a0 n c0, .int .i64 n] w fun e w' => DistPost s n e ∧ ∃ q, w' = w.drewN q := by
  go_enter Tryf.func9, Tryf.ntmps9
  go_wp2
  go_loopw [5, 6] (fun i _ wr => ∃ k : Nat, k ≤ n ∧ i = .int .i64 k ∧ Hid (Dist s k) ∧ ∃ q, wr = w.drewN q) (fun i _ _ => n - (intOf i).toNat)
  case atStart => exact ⟨0, by omega, rfl, hid (fun i hi => by omega), 0, rfl⟩
  case round =>
    obtain ⟨k, hk, rfl, HD, q, rfl⟩ := hrel
    by_cases hlt : k < n
    · obtain ⟨b, off, rfl, hc0⟩ := h0 k hlt
      go_wp2
      go_loopw [6] (fun j wr => ∃ m : Nat, m ≤ k ∧ j = .int .i64 m ∧ Hid (∀ j, j < m → s k ≠ s j) ∧ ∃ q, wr = w.drewN q) (fun j _ => k - (intOf j).toNat)
      case atStart => exact ⟨0, by omega, rfl, hid (fun i hi => by omega), _, rfl⟩
      case round =>
        obtain ⟨m, hm, rfl, HM, q2, rfl⟩ := hrel
        by_cases hmk : m < k
        · obtain ⟨b2, off2, e2, hc2⟩ := h0 m (by omega)
          simp only [Option.some.injEq, Addr.mk.injEq] at e2
          obtain ⟨rfl, rfl, _⟩ := e2
          have q1 : (0 : Int) ≤ (m : Int) := by omega
          have q2 : (m : Int) < (n : Int) := by omega
          have q3 : (0 : Int) ≤ (k : Int) := by omega
          have q4 : (k : Int) < (n : Int) := by omega
          by_cases hsk : s k = s m
          · have he : ((s k).toList == (s m).toList) = true := by simp [hsk]
            clear hsk
            go_wp2
            go_quiet (fail)
            go_wp2
            go_ret
            exact ⟨distPost_false s n, _, World.drewN_drewN ..⟩
          · have he := toList_ne hsk
            have HS := hid hsk
            clear hsk
            go_wp2
            go_quiet (fail)
            go_wp2
            go_roundw
            case rel =>
              exact ⟨m + 1, by omega, by go_num, hid (fun j hj => by
                by_cases e : j = m
                · rw [e]; exact HS.out
                · exact HM.out j (by omega)), _, by first | rfl | exact World.drewN_drewN ..⟩
            case measure => simp [intOf]; omega
        · have hmk' : m = k := by omega
          have HM2 : Hid (Dist s (k + 1)) := hid (fun i hi j hj => by
            by_cases e : i = k
            · subst e; exact HM.out j (by omega)
            · exact HD.out i (by omega) j hj)
          clear HM
          go_wp2
          go_roundw
          case rel => exact ⟨k + 1, by omega, by go_num, HM2, _, rfl⟩
          case measure => simp [intOf]; omega
    · have hkn : k = n := by omega
      have HD2 : Hid (Dist s n) := hid (hkn ▸ HD.out)
      go_wp2
      go_ret
      exact ⟨distPost_true HD2.out, _, rfl⟩
end Go.Proofs.Qxb6613675aFmt
