import Derived.Test.Qxb6608830aDoorW7
namespace Go.Proofs.Qxb6608830aDoor
open Go.RowKit

/-- toAddrs, from 'fr' to 'fr + m = to_'. -/
theorem toAddrs_at (a0 : Option Addr) (len cap : Nat) (ip : Nat → ByteArray) (pt : Nat → Int) (fr to_ m : Nat) (w : World) (hm : fr + m = to_)
    (hl : len ≤ 100000) (hA : AddrsAt w a0 len ip pt) (hto : to_ ≤ len) :
    Calls Tryd.prog 8 #[.slice a0 len cap, .int .i64 fr, .int .i64 to_] w fun e w' => e = .returned (.slice (some ⟨w.heap.size, 0, none⟩) m m) ∧ Below w.heap.size w w' ∧ w.heap.size < w'.heap.size ∧
      AddrsAt w' (some ⟨w.heap.size, 0, none⟩) m (fun i => ip (fr + i)) (fun i => pt (fr + i)) := by
  subst hm
  have h := toAddrs_any a0 len cap ip pt fr m w hl hA hto
  rw [Int.natCast_add]
  exact h.mono fun e w' ⟨he, h1, h2, h3⟩ => ⟨he, h1, h2, fun i hi => ⟨_, 0, rfl, by simpa using (h3.2 i hi).1, by simpa using (h3.2 i hi).2⟩⟩

theorem AddrsAt.alloc {w : World} {a0 : Option Addr} {n : Nat} {ip : Nat → ByteArray} {pt : Nat → Int} (h : AddrsAt w a0 n ip pt) (o : Obj) : AddrsAt (w.alloc o) a0 n ip pt :=
  h.below ((Below.refl _ w).alloc (Nat.le_refl _) o)

/-- What stands behind one 'ZZwriteDemotedReplicas(&Group{Name: name, Demoted: toAddrs(..)})'. -/
theorem behind_write {w w0 wA w1 : World} {o : Obj} {n : Nat} {f : Nat → Nat → ByteArray} (hb0 : Below w.heap.size w w0) (hbA : Below w0.heap.size w0 wA) (hb1 : Below (wA.alloc o).heap.size (wA.alloc o) w1) (hL : LinesAt w1 (wA.alloc o).heap.size n f) :
    Below w.heap.size w w1 ∧ Below w0.heap.size w0 w1 ∧ LinesAt w1 (wA.heap.size + 1) n f := by
  have h1 := hb0.size
  have h2 := hbA.size
  have e : (wA.alloc o).heap.size = wA.heap.size + 1 := by simp
  rw [e] at hL hb1
  have hc : Below w0.heap.size w0 w1 := (hbA.alloc h2 o).trans (hb1.mono (by omega))
  exact ⟨hb0.trans (hc.mono (by omega)), hc, hL⟩

set_option maxRecDepth 100000 in
set_option maxHeartbeats 1000000 in
theorem law_walk (nm : ByteArray) (a0 : Option Addr) (n cap : Nat) (ip : Nat → ByteArray) (pt : Nat → Int) (cut : Int) (w : World)
    (hn : nm.size ≤ maxLen) (hl : n ≤ maxLen) (hA : AddrsAt w a0 n ip pt) (hip : ∀ i, (ip i).size ≤ maxLen) (h0 : 0 < w.heap.size)
    (hpt : ∀ i, -9223372036854775808 ≤ pt i ∧ pt i ≤ 9223372036854775807) (ht : Tab w) (hcut : -9223372036854775808 ≤ cut ∧ cut ≤ 9223372036854775807) :
    Calls Tryd.prog 3 #[.string nm, .slice a0 n cap, .int .i64 cut] w fun e w' => e = .returned (.bool true) ∧ Below w.heap.size w w' := by
  have hz := zzBytes_any nm a0 n cap ip pt cut w hn hl hA hip
  unfold maxLen at hn hl hip
  go_enter Tryd.func3, Tryd.ntmps3
  go_wp2_with fail
  refine hz.mono ?_
  rintro e w' ⟨⟨r, rfl⟩, hw⟩
  obtain rfl := hw.symm
  clear hz
  cases r
  · go_wp2
    go_ret
    exact ⟨rfl, Below.refl _ _⟩
  · go_wp2
    all_goals try (go_ret; exact ⟨rfl, Below.refl _ _⟩)
    go_loop [7, 8] (fun t i => ∃ k : Nat, ∃ T : Int, k ≤ n ∧ i = .int .i64 k ∧ t = .int .i64 T ∧ 0 ≤ T ∧ T ≤ 1048576) (fun _ i => n - (intOf i).toNat)
    case atStart => exact ⟨0, _, by omega, rfl, rfl, by omega, by omega⟩
    case round =>
      obtain ⟨k, T, hk, rfl, rfl, hT0, hT1⟩ := hrel
      by_cases hkn : k < n
      · obtain ⟨b, off, rfl, hc0, hc1⟩ := hA k hkn
        have hz := hip k
        go_wp2
        · go_ret
          exact ⟨rfl, Below.refl _ _⟩
        · go_ret
          exact ⟨rfl, Below.refl _ _⟩
        · go_round
          case rel => exact ⟨k + 1, _, by omega, by go_num, rfl, by omega, by omega⟩
          case measure => simp [intOf]; omega
      · by_cases hc : 0 ≤ cut ∧ cut ≤ (n : Int)
        · have hn6 : n ≤ 65536 := by omega
          obtain ⟨c, hcc⟩ : ∃ c : Nat, cut = (c : Int) := ⟨cut.toNat, by omega⟩
          subst hcc
          obtain ⟨m, hm⟩ : ∃ m, c + m = n := ⟨n - c, by omega⟩
          have HM := hid hm
          have qm : (n : Int) - (c : Int) = (m : Int) := by omega
          clear hm
          go_wp2_with fail
          refine (toAddrs_at a0 n cap ip pt 0 n n w (by omega) (by omega) hA (by omega)).mono ?_
          rintro e wA ⟨rfl, hbA, hsA, hAA⟩
          simp only [Nat.zero_add] at hAA
          go_wp2_with fail
          refine (zzWriteDemoted_any wA.heap.size w.heap.size nm n ip pt _ ?c1 ?c2 ?c3 ?c4 ?c6 hpt ?c7).mono ?_
          case c1 => simp
          case c2 => simp
          case c3 => exact hAA.alloc _
          case c4 => omega
          case c6 => simp
          case c7 => exact (ht.below hbA h0).below ((Below.refl _ wA).alloc (Nat.le_refl _) _) (by omega)
          rintro e w1 ⟨rfl, hb1, hs1, hL1⟩
          obtain ⟨hw1, _, hL1⟩ := behind_write (Below.refl _ w) hbA hb1 hL1
          have hA1 := hA.below hw1
          have ht1 := ht.below hw1 h0
          have h01 : 0 < w1.heap.size := Nat.lt_of_lt_of_le h0 hw1.size
          clear hb1 hs1 hAA
          go_wp2_with fail
          refine (toAddrs_at a0 n cap ip pt 0 c c w1 (by omega) (by omega) hA1 (by omega)).mono ?_
          rintro e wB ⟨rfl, hbB, hsB, hAB⟩
          simp only [Nat.zero_add] at hAB
          go_wp2_with fail
          refine (zzWriteDemoted_any wB.heap.size w1.heap.size nm c ip pt _ ?c1 ?c2 ?c3 ?c4 ?c6 hpt ?c7).mono ?_
          case c1 => simp
          case c2 => simp
          case c3 => exact hAB.alloc _
          case c4 => omega
          case c6 => simp
          case c7 => exact (ht1.below hbB h01).below ((Below.refl _ wB).alloc (Nat.le_refl _) _) (by omega)
          rintro e w2 ⟨rfl, hb2, hs2, hL2⟩
          obtain ⟨hw2, h12, hL2⟩ := behind_write hw1 hbB hb2 hL2
          have hL1' := hL1.below h12
          have hA2 := hA.below hw2
          have ht2 := ht.below hw2 h0
          have h02 : 0 < w2.heap.size := Nat.lt_of_lt_of_le h0 hw2.size
          clear hb2 hs2 hAB hL1 hw1 hA1 ht1 h01 hbB hsB
          go_wp2_with fail
          refine (toAddrs_at a0 n cap ip pt c n m w2 HM.out (by omega) hA2 (by omega)).mono ?_
          rintro e wC ⟨rfl, hbC, hsC, hAC⟩
          go_wp2_with fail
          refine (zzWriteDemoted_any wC.heap.size w2.heap.size nm m (fun i => ip (c + i)) (fun i => pt (c + i)) _ ?c1 ?c2 ?c3 ?c4 ?c6 (fun i => hpt _) ?c7).mono ?_
          case c1 => simp
          case c2 => simp
          case c3 => exact hAC.alloc _
          case c4 => have := HM.out; omega
          case c6 => simp
          case c7 => exact (ht2.below hbC h02).below ((Below.refl _ wC).alloc (Nat.le_refl _) _) (by omega)
          rintro e w3 ⟨rfl, hb3, hs3, hL3⟩
          obtain ⟨hw3, h23, hL3⟩ := behind_write hw2 hbC hb3 hL3
          have hL1 := hL1'.below h23
          have hL2 := hL2.below h23
          have hA3 := hA.below hw3
          clear hb3 hs3 hAC hL1' hw2 hA2 ht2 h02 hbC hsC h12 h23
          go_wp2
          generalize wA.heap.size + 1 = B1 at *
          generalize wB.heap.size + 1 = B2 at *
          generalize wC.heap.size + 1 = B3 at *
          go_loopw [12, 13, 14] (fun i _ _ wr => ∃ j : Nat, j ≤ n ∧ i = .int .i64 j ∧ ∃ q, wr = w3.drewN q) (fun i _ _ _ => n - (intOf i).toNat)
          case atStart => exact ⟨0, by omega, rfl, 0, rfl⟩
          case round =>
            obtain ⟨j, hj, rfl, q, rfl⟩ := hrel
            by_cases hjn : j < n
            · obtain ⟨b, off, rfl, hc0, hc1⟩ := hA3 j hjn
              obtain ⟨l1, hl1, _, hS1⟩ := hL1 j hjn
              have s0 : w3.cell? ⟨l1, 0, none⟩ = some (.string nm) := hS1 0 (by omega)
              have s1 : w3.cell? ⟨l1, 1, none⟩ = some (.string (ip j)) := hS1 1 (by omega)
              have s2 : w3.cell? ⟨l1, 2, none⟩ = some (.string (itoaS (pt j))) := hS1 2 (by omega)
              have q1 : (0 : Int) ≤ (j : Int) := by omega
              have q2 : (j : Int) < (n : Int) := by omega
              obtain ⟨p1, p2⟩ := hpt j
              by_cases hjc : j < c
              · obtain ⟨l2, hl2, _, hS2⟩ := hL2 j hjc
                go_wp2_with fail
                refine (sameLine_eq l1 0 l2 0 3 3 3 _ (w3.drewN q) (by omega) (hS1.drewN q) (hS2.drewN q)).mono ?_
                rintro e w4 ⟨rfl, q', rfl⟩
                go_wp2
                go_quiet ((go_at_call 10; exact (readsBack_itoa _ p1 p2 _).mono fun _ _ ⟨he, hw⟩ => ⟨he, _, hw⟩))
                go_wp2
                go_roundw
                case rel => exact ⟨j + 1, by omega, by go_num, _, rfl⟩
                case measure => simp [intOf]; omega
              · obtain ⟨i, rfl⟩ : ∃ i, j = c + i := ⟨j - c, by omega⟩
                obtain ⟨l3, hl3, _, hS3⟩ := hL3 i (by have := HM.out; omega)
                have hS3' : StrsAt w3 l3 0 3 (lineOf nm (ip (c + i)) (pt (c + i))) := hS3
                have q5 : ((c : Int) + (i : Int) - (c : Int)) = (i : Int) := by omega
                have q7 : (i : Int) < (m : Int) := by have := HM.out; omega
                go_wp2_with fail
                refine (sameLine_eq l1 0 l3 0 3 3 3 _ (w3.drewN q) (by omega) (hS1.drewN q) (hS3'.drewN q)).mono ?_
                rintro e w4 ⟨rfl, q', rfl⟩
                go_wp2
                go_quiet ((go_at_call 10; exact (readsBack_itoa _ p1 p2 _).mono fun _ _ ⟨he, hw⟩ => ⟨he, _, hw⟩))
                go_wp2
                go_roundw
                case rel => exact ⟨c + i + 1, by omega, by go_num, _, rfl⟩
                case measure => simp [intOf]; omega
            · go_wp2
              go_ret
              exact ⟨rfl, below_drewN hw3 _⟩
        · by_cases hc1 : cut < 0
          · go_wp2
            go_ret
            exact ⟨rfl, Below.refl _ _⟩
          · have hc2 : (n : Int) < cut := by omega
            go_wp2
            go_ret
            exact ⟨rfl, Below.refl _ _⟩
end Go.Proofs.Qxb6608830aDoor
