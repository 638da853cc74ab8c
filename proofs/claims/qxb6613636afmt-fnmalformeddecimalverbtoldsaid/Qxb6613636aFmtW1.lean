import Derived.Test.Qxb6613636aFmtRows
import Derived.WalkKit
import Derived.WalkLawsBesides
import Derived.Laws.IdiomStrings
import Derived.Lib.ItoaNum
namespace Go.Proofs.Qxb6613636aFmt
open Go.RowKit
theorem hid {p : Prop} (h : p) : Hid p := h
def IsBool (e : Ending) : Prop := ∃ r, e = .returned (.bool r)
theorem isBool (r : Bool) : IsBool (.returned (.bool r)) := ⟨r, rfl⟩

set_option maxHeartbeats 400000 in
theorem zzBytes_any (f : ByteArray) (n : Int) (w : World) (hf : f.size ≤ maxLen) :
    Calls Tryf.prog 4 #[.string f, .int .i64 n] w fun e w' => IsBool e ∧ w' = w := by
  unfold maxLen at hf
  go_enter Tryf.func4, Tryf.ntmps4
  go_wp2
  all_goals (go_ret; exact ⟨isBool _, rfl⟩)

/-- The row of bytes of zzDecimal: 20 cells, the digits of U from place i on. -/
def Dec (w : World) (B U i : Nat) : Prop :=
  (∀ j, j < 20 → (∃ u, w.cell? ⟨B, j, none⟩ = some u) ∧ w.frozen? ⟨B, j, none⟩ = false) ∧
  (∀ j, i ≤ j → j < 20 → w.cell? ⟨B, j, none⟩ = some (.int .u8 ((48 + U / 10 ^ (19 - j) % 10 : Nat) : Int)))

theorem sc_other {w : World} {a b : Addr} {v : Value} (h : a ≠ b) : (w.setCell a v).cell? b = w.cell? b := World.cell?_setCell_other (h := h) ..
theorem sc_same {w : World} {a : Addr} {u v : Value} (h : w.cell? a = some u) : (w.setCell a v).cell? a = some v := World.cell?_setCell_same (h := h) ..

theorem dec_start (w : World) (U : Nat) (z : Array Value) (hz : z.size = 20) (t : TypeId) : Dec (w.alloc (.cells z t)) w.heap.size U 20 := by
  refine ⟨fun j hj => ⟨⟨z[j]'(by omega), ?_⟩, ?_⟩, fun j h1 h2 => by omega⟩
  · rw [cell_of_row (w.alloc (.cells z t)) w.heap.size j z t (0, 0) (heap_alloc_new w _)]
    simp [hz, hj]
  · have h := heap_alloc_new w (.cells z t)
    unfold World.frozen?
    rw [h]; simp

theorem dec_step {w : World} {B U k : Nat} (h : Dec w B U (k + 1)) (hk : k < 20) (d : Int) (hd : d = ((48 + U / 10 ^ (19 - k) % 10 : Nat) : Int)) : Dec (w.setCell ⟨B, k, none⟩ (.int .u8 d)) B U k := by
  obtain ⟨h1, h2⟩ := h
  refine ⟨fun j hj => ?_, fun j h3 h4 => ?_⟩
  · obtain ⟨⟨u, hu⟩, hf⟩ := h1 j hj
    exact ⟨cell?_setCell_some hu, by rw [World.frozen?_setCell]; exact hf⟩
  · by_cases e : j = k
    · subst e
      obtain ⟨⟨u, hu⟩, _⟩ := h1 j h4
      rw [sc_same hu, hd]
    · rw [sc_other (by intro h; have h5 := congrArg Addr.off h; dsimp only at h5; omega)]
      exact h2 j (by omega) h4

/-- U's decimal digits as a Go string. -/
def decS (U : Nat) : ByteArray := ⟨(Lib.decDigits U).toArray⟩
theorem decS_size (U : Nat) : (decS U).size = Lib.nDigits U := by
  show (Lib.decDigits U).toArray.size = _
  rw [← Lib.decDigits_length]; simp

theorem slice_at (B k : Nat) (hk : k < 20) (W : World) : (Instr.sliceAt 28 (.pointer (some ⟨B, 0, none⟩)) (some (.int .i64 (k : Int))) none none).run Tryf.prog W = .ok (.slice (some ⟨B, k, none⟩) (20 - k) (20 - k)) W := by
  have hlen : Tryf.prog.arrayLen 28 = 20 := by kernel_rfl
  have hel : Tryf.prog.elem 28 = 5 := by kernel_rfl
  have hu : Tryf.prog.underlying 28 = some (.array (Tryf.prog.arrayLen 28) (Tryf.prog.elem 28)) := by rw [hlen, hel]; exact Tryf.underlying28
  have hz : (sizeOf 5).run Tryf.prog W = .ok 1 W := by kernel_rfl
  rw [run_sliceAt_array_l W 28 _ hu .i64 (k : Int) (by omega) (by rw [hlen]; omega), hlen, hel, hz]
  simp only [Result.andThen_ok, slicedAt, Int.toNat_natCast, Nat.mul_one, Addr.add_lit, Nat.zero_add]
  rw [if_neg (by omega)]

theorem digits_of (U k : Nat) (hk : k < 20) (h0 : U / 10 ^ (20 - k) = 0) (h1 : k = 19 ∨ U / 10 ^ (19 - k) ≠ 0) : Lib.nDigits U = 20 - k := by
  have hlt : U < 10 ^ (20 - k) := by
    rcases Nat.div_eq_zero_iff.1 h0 with h | h
    · exact absurd h (Nat.ne_of_gt (Nat.pow_pos (by omega)))
    · exact h
  by_cases e : k = 19
  · subst e
    exact Lib.nDigits_small (by simpa using hlt)
  · have h2 : 10 ^ (19 - k) ≤ U := by
      rcases Nat.lt_or_ge U (10 ^ (19 - k)) with h | h
      · exact absurd (Nat.div_eq_of_lt h) (by rcases h1 with h1 | h1; exact absurd h1 e; exact h1)
      · exact h
    have := Lib.nDigits_unique (19 - k) U h2 (by rw [show 19 - k + 1 = 20 - k by omega]; exact hlt)
    omega

theorem text_of_dec {W : World} {B U k : Nat} (hD : Dec W B U k) (hk : k < 20) (hN : Lib.nDigits U = 20 - k) :
    (convert 30 9 (.slice (some ⟨B, k, none⟩) (20 - k) (20 - k))).run Tryf.prog W = .ok (.string (decS U)) W := by
  have hl : (Lib.decDigits U).length = 20 - k := by rw [Lib.decDigits_length, hN]
  have h := run_convert_bytes_back (P := Tryf.prog) W 30 9 5 ⟨B, k, none⟩ (20 - k) (Lib.decDigits U) Tryf.underlying30 Tryf.underlying5 Tryf.underlying9 (fun j hj => by
    rw [Addr.add_lit, hD.2 (k + j) (by omega) (by omega)]
    have e : (Lib.decDigits U)[j]? = some (UInt8.ofNat (48 + U / 10 ^ (19 - (k + j)) % 10)) := by
      rw [Lib.decDigits_eq, hN]
      have hj2 : j < 20 - k := by omega
      simp [hj2, Lib.dg, show 20 - k - 1 - j = 19 - (k + j) by omega]
    rw [List.getElem?_eq_getElem hj] at e
    rw [Option.some.inj e]
    have : (UInt8.ofNat (48 + U / 10 ^ (19 - (k + j)) % 10)).toNat = 48 + U / 10 ^ (19 - (k + j)) % 10 := by simp [UInt8.toNat_ofNat']; omega
    rw [this])
  rw [hl] at h
  exact h

set_option maxHeartbeats 800000 in
theorem zzDecimal_pos (n : Int) (U : Nat) (w : World) (hn : n = (U : Int)) (hU : U ≤ 9223372036854775807) :
    Calls Tryf.prog 5 #[.int .i64 n] w fun e w' => e = .returned (.string (decS U)) ∧ Below w.heap.size w w' := by
  subst hn
  have hpos : decide ((U : Int) < 0) = false := by simp
  have HU := hid hU
  go_enter Tryf.func5, Tryf.ntmps5
  go_wp2
  go_loopw [4, 6] (fun u i wr => ∃ k q : Nat, k + 1 ≤ 20 ∧ i = .int .i64 (k + 1) ∧ u = .int .u64 q ∧ q ≤ 9223372036854775808 ∧ Hid (q = U / 10 ^ (19 - k)) ∧ Hid (k = 19 ∨ q ≠ 0) ∧ Below w.heap.size w wr ∧ w.heap.size < wr.heap.size ∧ Dec wr w.heap.size U (k + 1))
    (fun _ i _ => (intOf i).toNat)
  case atStart => exact ⟨19, U, by omega, rfl, rfl, by omega, hid (by simp), hid (.inl rfl), (Below.refl _ w).alloc (Nat.le_refl _) _, by simp, dec_start w U _ (by rfl) _⟩
  case round =>
    obtain ⟨k, q, hk, rfl, rfl, hq, HQ, HK, hb, hs, hD⟩ := hrel
    obtain ⟨⟨u0, hu0⟩, hf0⟩ := hD.1 k (by omega)
    have q5 : ((k : Int) + 1 - 1) = (k : Int) := by omega
    have q6 : (k : Int) < 20 := by omega
    have hsl := fun W => slice_at w.heap.size k (by omega) W
    have hDk : Dec (wr.setCell ⟨w.heap.size, k, none⟩ (.int .u8 (48 + (q : Int) % 10))) w.heap.size U k := dec_step hD (by omega) _ (by rw [← HQ.out]; omega)
    have hbk : Below w.heap.size w (wr.setCell ⟨w.heap.size, k, none⟩ (.int .u8 (48 + (q : Int) % 10))) := hb.setCell (Nat.le_refl _) _
    have HN : Hid (q / 10 = U / 10 ^ (20 - k)) := hid (by rw [HQ.out, show 20 - k = 19 - k + 1 by omega, Nat.pow_succ, Nat.div_div_eq_div_mul])
    by_cases hq0 : q / 10 = 0
    · have hN := digits_of U k (by omega) (by rw [← HN.out]; exact hq0) (by rcases HK.out with h | h; exact .inl h; exact .inr (by rw [← HQ.out]; exact h))
      have hcv := text_of_dec hDk (by omega) hN
      have hds : (decS U).size ≤ 20 := by rw [decS_size, hN]; omega
      have hz : ((q : Int) / 10 == 0) = true := by simp; omega
      clear hN hDk hD
      go_wp2
      go_ret
      exact ⟨rfl, hbk⟩
    · have hz : ((q : Int) / 10 == 0) = false := by simp; omega
      have hk1 : 1 ≤ k := by
        rcases Nat.eq_zero_or_pos k with h | h
        · subst h
          have h1 := HN.out
          have h2 := HU.out
          rw [Nat.div_eq_of_lt (show U < 10 ^ (20 - 0) by omega)] at h1
          omega
        · exact h
      clear hsl
      go_wp2
      go_roundw
      case rel => exact ⟨k - 1, q / 10, by omega, by go_num, by go_num, by omega, hid (by rw [HN.out, show 19 - (k - 1) = 20 - k by omega]), hid (.inr hq0), hbk, by simp [World.setCell]; omega, by rw [show k - 1 + 1 = k by omega]; exact hDk⟩
      case measure => simp [intOf]
set_option maxHeartbeats 800000 in
theorem zzDecimal_neg (n : Int) (U : Nat) (w : World) (hn : n = -(U : Int)) (hU0 : 1 ≤ U) (hU : U ≤ 9223372036854775808) :
    Calls Tryf.prog 5 #[.int .i64 n] w fun e w' => e = .returned (.string (⟨#[45]⟩ ++ decS U)) ∧ Below w.heap.size w w' := by
  subst hn
  have hneg : decide (-(U : Int) < 0) = true := by simp; omega
  have HU := hid hU
  go_enter Tryf.func5, Tryf.ntmps5
  go_wp2
  go_loopw [4, 6] (fun u i wr => ∃ k q : Nat, k + 1 ≤ 20 ∧ i = .int .i64 (k + 1) ∧ u = .int .u64 q ∧ q ≤ 9223372036854775808 ∧ Hid (q = U / 10 ^ (19 - k)) ∧ Hid (k = 19 ∨ q ≠ 0) ∧ Below w.heap.size w wr ∧ w.heap.size < wr.heap.size ∧ Dec wr w.heap.size U (k + 1))
    (fun _ i _ => (intOf i).toNat)
  case atStart => exact ⟨19, U, by omega, rfl, by go_num, by omega, hid (by simp), hid (.inl rfl), (Below.refl _ w).alloc (Nat.le_refl _) _, by simp, dec_start w U _ (by rfl) _⟩
  case round =>
    obtain ⟨k, q, hk, rfl, rfl, hq, HQ, HK, hb, hs, hD⟩ := hrel
    obtain ⟨⟨u0, hu0⟩, hf0⟩ := hD.1 k (by omega)
    have q5 : ((k : Int) + 1 - 1) = (k : Int) := by omega
    have q6 : (k : Int) < 20 := by omega
    have hsl := fun W => slice_at w.heap.size k (by omega) W
    have hDk : Dec (wr.setCell ⟨w.heap.size, k, none⟩ (.int .u8 (48 + (q : Int) % 10))) w.heap.size U k := dec_step hD (by omega) _ (by rw [← HQ.out]; omega)
    have hbk : Below w.heap.size w (wr.setCell ⟨w.heap.size, k, none⟩ (.int .u8 (48 + (q : Int) % 10))) := hb.setCell (Nat.le_refl _) _
    have HN : Hid (q / 10 = U / 10 ^ (20 - k)) := hid (by rw [HQ.out, show 20 - k = 19 - k + 1 by omega, Nat.pow_succ, Nat.div_div_eq_div_mul])
    by_cases hq0 : q / 10 = 0
    · have hN := digits_of U k (by omega) (by rw [← HN.out]; exact hq0) (by rcases HK.out with h | h; exact .inl h; exact .inr (by rw [← HQ.out]; exact h))
      have hcv := text_of_dec hDk (by omega) hN
      have hds : (decS U).size ≤ 20 := by rw [decS_size, hN]; omega
      have hz : ((q : Int) / 10 == 0) = true := by simp; omega
      clear hN hDk hD
      go_wp2
      go_ret
      exact ⟨rfl, hbk⟩
    · have hz : ((q : Int) / 10 == 0) = false := by simp; omega
      have hk1 : 1 ≤ k := by
        rcases Nat.eq_zero_or_pos k with h | h
        · subst h
          have h1 := HN.out
          have h2 := HU.out
          rw [Nat.div_eq_of_lt (show U < 10 ^ (20 - 0) by omega)] at h1
          omega
        · exact h
      clear hsl
      go_wp2
      go_roundw
      case rel => exact ⟨k - 1, q / 10, by omega, by go_num, by go_num, by omega, hid (by rw [HN.out, show 19 - (k - 1) = 20 - k by omega]), hid (.inr hq0), hbk, by simp [World.setCell]; omega, by rw [show k - 1 + 1 = k by omega]; exact hDk⟩
      case measure => simp [intOf]
end Go.Proofs.Qxb6613636aFmt
