import Derived.Test.Qxb6613675aFmtW6
import Derived.Deep.RegionHeld3
namespace Go.Proofs.Qxb6613675aFmt
open Go.RowKit

/-- zzCloneStrings, nil or not: the copy lies in a block of its own. -/
theorem clone_any (a0 : Option Addr) (n cap : Nat) (s : Nat → ByteArray) (w : World) (hn : n ≤ 100000) (hnil : a0 = none → n = 0 ∧ cap = 0) (h0 : StrsOf w a0 n s) :
    Calls Tryf.prog 18 #[.slice a0 n cap] w fun e w' => ∃ wo, e = .returned (.slice wo n n) ∧ wo.isNone = a0.isNone ∧ Below w.heap.size w w' ∧ StrsOf w' wo n s ∧ ∀ a, wo = some a → a.block < w'.heap.size ∧ w.heap.size ≤ a.block := by
  cases a0 with
  | none =>
    obtain ⟨rfl, rfl⟩ := hnil rfl
    exact (clone_nil w).mono fun e w' ⟨he, hw⟩ => ⟨none, he, rfl, hw ▸ Below.refl _ _, fun i hi => by omega, fun a ha => by cases ha⟩
  | some a =>
    refine (clone_some a n cap s w hn h0).mono fun e w' ⟨he, hb, hs, hL⟩ => ⟨some ⟨w.heap.size, 0, none⟩, he, rfl, hb, fun i hi => ⟨_, 0, rfl, by simpa using hL.2 i hi⟩, fun b hb2 => ?_⟩
    cases hb2
    exact ⟨hs, Nat.le_refl _⟩

theorem Kept.refl (H0 : Nat) (xs : List Nat) (w : World) : Kept H0 xs w w := ⟨rfl, rfl, rfl, Nat.le_refl _, fun _ _ _ => rfl⟩
theorem Kept.trans {H0 : Nat} {xs : List Nat} {a b c : World} (h : Kept H0 xs a b) (k : Kept H0 xs b c) : Kept H0 xs a c :=
  ⟨k.os.trans h.os, k.tape.trans h.tape, k.output.trans h.output, Nat.le_trans h.size k.size, fun i h1 h2 => (k.block i h1 h2).trans (h.block i h1 h2)⟩
theorem Kept.cell {H0 sb st : Nat} {w w' : World} {a : Addr} {v : Value} (hk : Kept H0 [sb, st] w w') (h : w.cell? a = some v) (h1 : a.block < sb) (h2 : sb < st) (h3 : sb < H0) : w'.cell? a = some v :=
  (World.cell?_of_block (w := w) (a := a) (hk.block a.block (by omega) (by simp; omega))).trans h
theorem Kept.below {w wD w' : World} {H0 sb st : Nat} (hk : Kept H0 [sb, st] wD w') (hb : Below w.heap.size w wD) (h1 : w.heap.size ≤ sb) (h2 : sb < st) (h3 : sb < H0) : Below w.heap.size w w' :=
  ⟨hk.os.trans hb.os, hk.tape.trans hb.tape, hk.output.trans hb.output, Nat.le_trans hb.size hk.size, fun k hlt => (hk.block k (by omega) (by simp; omega)).trans (hb.block k hlt)⟩
theorem StrsOf.kept {w w' : World} {H0 sb st n : Nat} {wo : Option Addr} {s : Nat → ByteArray} (h : StrsOf w wo n s) (hk : Kept H0 [sb, st] w w') (hlt : ∀ a, wo = some a → a.block < sb) (h2 : sb < st) (h3 : sb < H0) : StrsOf w' wo n s := fun i hi => by
  obtain ⟨b, off, e, h1⟩ := h i hi
  exact ⟨b, off, e, hk.cell h1 (hlt ⟨b, off, none⟩ e) h2 h3⟩

/-- The flag set as it is made. -/
theorem fs_start {wB wD : World} {go : Option Addr} {n : Nat} {nm : Nat → ByteArray} (hg : (wB.alloc (.cells #[.slice none 0 0, .slice go n n] 29)).grownBy wD none) : FS wD wD.heap.size wB.heap.size (.slice go n n) (.slice none 0 0) [] nm where
  c0 := hg.cell (a := ⟨wB.heap.size, 0, none⟩) (by simp) (by simp)
  c1 := hg.cell (a := ⟨wB.heap.size, 1, none⟩) (by simp) (by simp)
  fz := by
    rw [hg.frozen_far ⟨wB.heap.size, 0, none⟩ (by simp) (by simp)]
    have h := heap_alloc_new wB (.cells #[.slice none 0 0, .slice go n n] 29)
    unfold World.frozen?
    rw [h]; simp
  sbH := by have := hg.size; simp at this; omega
  H0w := Nat.le_refl _
  own := World.ownsRow_nil _ _ _ _
  fl := fun j b hj => by simp at hj

/-- All that the loop over the names is told. -/
theorem at_loop {w wA wB wD : World} {n0 n1 : Nat} {s0 s1 : Nat → ByteArray} {wo go : Option Addr} {xs : List Value} (hbwA : Below w.heap.size w wA) (hbB : Below wA.heap.size wA wB) (hSA : StrsOf wA wo n0 s0) (hSB : StrsOf wB go n0 s0)
    (hwb : ∀ a, wo = some a → a.block < wA.heap.size) (hgb : ∀ a, go = some a → a.block < wB.heap.size)
    (hown : wD.ownsRow (wB.heap.size + 1) 9 1 (.slice (some ⟨wB.heap.size + 1, 0, none⟩) n1 n1) n1 xs)
    (hg : (wB.alloc (.cells #[.slice none 0 0, .slice go n0 n0] 29)).grownBy wD none) :
    ∃ H0, FS wD H0 wB.heap.size (.slice go n0 n0) (.slice none 0 0) [] s1 ∧ Room wD (wB.heap.size + 1) n1 ∧ Below w.heap.size w wD ∧ wB.heap.size + 1 < H0 ∧ w.heap.size ≤ wB.heap.size ∧
      StrsOf wD wo n0 s0 ∧ StrsOf wD go n0 s0 ∧ (∀ a, wo = some a → a.block < wB.heap.size) ∧ (∀ a, go = some a → a.block < wB.heap.size) := by
  have e : (wB.alloc (.cells #[.slice none 0 0, .slice go n0 n0] 29)).heap.size = wB.heap.size + 1 := by simp
  have hlt : wB.heap.size + 1 < wD.heap.size := (hown.lt _ rfl).2
  have h1 := hbwA.size
  have h2 := hbB.size
  have hbBD : Below wB.heap.size wB wD := ((Below.refl _ wB).alloc (Nat.le_refl _) _).grown hg (by rw [e]; omega) (fun k hk => by cases hk)
  have hbAD : Below wA.heap.size wA wD := hbB.trans (hbBD.mono h2)
  refine ⟨wD.heap.size, fs_start hg, (laying_start (s := s1) hown).1, hbwA.trans (hbAD.mono h1), hlt, by omega, hSA.below hbAD, hSB.below hbBD, fun a ha => by have := hwb a ha; omega, hgb⟩

set_option maxRecDepth 100000 in
set_option maxHeartbeats 1000000 in
theorem law_walk (a0 a1 : Option Addr) (n0 n1 c0 c1 : Nat) (s0 s1 : Nat → ByteArray) (w : World)
    (hn0 : n0 ≤ maxLen) (hn1 : n1 ≤ maxLen) (h0 : StrsOf w a0 n0 s0) (h1 : StrsOf w a1 n1 s1) (hs0 : ∀ i, (s0 i).size ≤ maxLen) (hs1 : ∀ i, (s1 i).size ≤ maxLen) (hnil : a0 = none → n0 = 0 ∧ c0 = 0) :
    Calls Tryf.prog 5 #[.slice a0 n0 c0, .slice a1 n1 c1] w fun e w' => e = .returned (.bool true) ∧ Below w.heap.size w w' := by
  have hz := zzBytes_any a0 a1 n0 n1 c0 c1 s0 s1 w hn0 hn1 h0 h1 hs0 hs1
  have hz2 := zzBytesOver2_any a0 a1 n0 n1 c0 c1 s0 s1 w hn0 hn1 h0 h1 hs0 hs1
  obtain ⟨i0, hi, hz0, hz1, hz3⟩ := info_parts Tryf.info9
  have hen := eql_nil
  unfold maxLen at hn0 hn1
  clear hs0 hs1
  go_enter Tryf.func5, Tryf.ntmps5
  go_wp2_with fail
  refine hz.mono ?_
  rintro e w' ⟨⟨r, rfl⟩, hw⟩
  obtain rfl := hw.symm
  clear hz
  cases r
  · go_wp2
    go_ret
    exact ⟨rfl, Below.refl _ _⟩
  · by_cases hl0 : n0 ≤ 65536
    · by_cases hl1 : n1 ≤ 1024
      · go_wp2_with fail
        refine hz2.mono ?_
        rintro e w' ⟨⟨r, rfl⟩, hw⟩
        obtain rfl := hw.symm
        clear hz2
        cases r
        · go_wp2_with fail
          refine (zzDistinct_any a1 n1 c1 s1 w (by omega) h1).mono ?_
          rintro e w' ⟨⟨r, rfl, hdist⟩, q, rfl⟩
          cases r
          · clear hdist
            go_wp2
            go_ret
            exact ⟨rfl, below_drewN (Below.refl _ _) q⟩
          · have HD := hid (hdist rfl)
            clear hdist
            have hbq : Below w.heap.size w (w.drewN q) := below_drewN (Below.refl _ _) q
            go_wp2_with fail
            refine (clone_any a0 n0 c0 s0 (w.drewN q) (by omega) hnil (h0.below hbq)).mono ?_
            rintro e wA ⟨wo, rfl, hwo, hbA, hSA, hwb⟩
            have hbwA : Below w.heap.size w wA := hbq.trans hbA
            go_wp2_with fail
            refine (clone_any a0 n0 c0 s0 wA (by omega) hnil (h0.below hbwA)).mono ?_
            rintro e wB ⟨go, rfl, hgo, hbB, hSB, hgb⟩
            have hbwB : Below w.heap.size w wB := hbwA.trans (hbB.mono hbwA.size)
            go_wp2_with fail
            refine (newFlagSet_any _ go n0 n0 rfl wB).mono ?_
            rintro e wC ⟨rfl, rfl⟩
            go_wp2_with (at_make; refine wpList_make_full _ rfl _ _ 22 rfl (wB.heap.size + 1) 9 i0 _ 1 Tryf.underlying22 hi hz0 hz1 _ _ _ _ n1 rfl rfl ?hL ?hC ?b2 ?b3 ?b4 ?_)
            case hL => omega
            case hC => omega
            case b2 => rw [hz3]; omega
            case b3 => unfold maxLen; omega
            case b4 => simp
            intro wD hownD hgD
            obtain ⟨H0, hFS, hRm, hbD, hH0, hsbw, hSA', hSB', hwb', hgb'⟩ := at_loop (s1 := s1) hbwA hbB hSA hSB (fun a ha => (hwb a ha).1) (fun a ha => (hgb a ha).1) hownD hgD
            clear hownD hgD hbwA hbB hSA hSB hwb hgb hbwB hbA hbq
            go_wp2
            generalize wB.heap.size = sb at *
            have HF := hid hFS
            have HR := hid hRm
            clear hFS hRm
            go_loopw [9] (fun i wr => ∃ fbs : List Nat, ∃ v, fbs.length ≤ n1 ∧ i = .int .i64 fbs.length ∧ Hid (FS wr H0 sb (.slice go n0 n0) v fbs s1) ∧ Hid (Room wr (sb + 1) n1) ∧ Hid (Kept H0 [sb, sb + 1] wD wr)) (fun i _ => n1 - (intOf i).toNat)
            case atStart => exact ⟨[], .slice none 0 0, by simp, rfl, HF, HR, hid (Kept.refl _ _ _)⟩
            case round =>
              obtain ⟨fbs, v, hk, rfl, HF1, HR1, HK1⟩ := hrel
              have hbr : Below w.heap.size w wr := HK1.out.below hbD hsbw (by omega) (by omega)
              by_cases hkn : fbs.length < n1
              · obtain ⟨b, off, rfl, hcw⟩ := h1 fbs.length hkn
                have hbw : b < w.heap.size := World.block_lt_of_cell? w _ hcw
                have hc : wr.cell? ⟨b, off + fbs.length, none⟩ = some (.string (s1 fbs.length)) := (hbr.cell (by exact hbw)).trans hcw
                have hcd : wr.drew.cell? ⟨b, off + fbs.length, none⟩ = some (.string (s1 fbs.length)) := hc
                have HFd : Hid (FS wr.drew H0 sb (.slice go n0 n0) v fbs s1) := hid (HF1.out.below (Below.refl _ _).drew)
                have HRd : Hid (Room wr.drew (sb + 1) n1) := hid HR1.out
                have HKd : Hid (Kept H0 [sb, sb + 1] wD wr.drew) := hid (HK1.out.trans ⟨rfl, rfl, rfl, Nat.le_refl _, fun _ _ _ => rfl⟩)
                have HE : Hid (∀ j, j < fbs.length → s1 j ≠ s1 fbs.length) := hid (fun j hj e => HD.out fbs.length hkn j hj e.symm)
                have g0 : b < sb := by omega
                have g1 : sb < sb + 1 := by omega
                have g2 : sb < H0 := by omega
                have g3 : sb + 1 ≠ sb := by omega
                have g4 : fbs.length < 100000 := by omega
                have q1 : (0 : Int) ≤ (fbs.length : Int) := by omega
                have q2 : (fbs.length : Int) < (n1 : Int) := by omega
                clear hcw HF1 HR1 HK1 hbr
                go_wp2
                go_region_held3 (fun w' => w'.cell? ⟨b, off + fbs.length, none⟩ = some (.string (s1 fbs.length))) (first | go_keep | exact hK2.cell hcd g0 g1 g2)
                  (first | (go_at_call 10; refine (stringVar_any H0 sb (sb + 1) n1 fbs.length (.slice go n0 n0) v fbs s1 _ _ _ (by exact HFd.out) (by exact HRd.out) hkn hH0 g3 HE.out g4).mono ?_; rintro e w2 ⟨rfl, v', fb, hF2, hR2, hK2⟩))
                have HF2 := hid hF2
                have HR2 := hid hR2
                have HK2 := hid (HKd.out.trans hK2)
                clear hF2 hR2 hK2
                go_wp2
                go_roundw
                case rel => exact ⟨fbs ++ [fb], v', by simp; omega, by simp, HF2, HR2, HK2⟩
                case measure => simp [intOf]; omega
              · have hSw := hSA'.kept HK1.out hwb' (by omega) (by omega)
                have hSg := hSB'.kept HK1.out hgb' (by omega) (by omega)
                have hc1 := HF1.out.c1
                clear HF1 HR1 HK1 hSA' hSB' HF HR
                go_wp2_with (go_at_call 20; refine (args_any sb _ go n0 n0 rfl _ hc1).mono ?_; rintro e w' ⟨rfl, hw⟩; obtain rfl := hw.symm)
                clear hwo hgo hwb' hgb'
                go_loopw [12] (fun i w2 => ∃ k : Nat, k ≤ n0 ∧ i = .int .i64 k ∧ ∃ q, w2 = wr.drewN q) (fun i _ => n0 - (intOf i).toNat)
                case atStart => exact ⟨0, by omega, rfl, 0, rfl⟩
                case round =>
                  obtain ⟨k, hk0, rfl, q2, rfl⟩ := hrel
                  by_cases hkn0 : k < n0
                  · obtain ⟨b, off, rfl, hcw⟩ := hSw k hkn0
                    obtain ⟨b2, off2, rfl, hcg⟩ := hSg k hkn0
                    have q3 : (0 : Int) ≤ (k : Int) := by omega
                    have q4 : (k : Int) < (n0 : Int) := by omega
                    go_wp2
                    go_quiet (fail)
                    go_wp2
                    go_roundw
                    case rel => exact ⟨k + 1, by omega, by go_num, _, by first | rfl | exact World.drewN_drewN ..⟩
                    case measure => simp [intOf]; omega
                  · go_wp2
                    go_ret
                    exact ⟨rfl, below_drewN hbr _⟩
        · go_wp2
          go_ret
          exact ⟨rfl, Below.refl _ _⟩
      · go_wp2
        go_ret
        exact ⟨rfl, Below.refl _ _⟩
    · go_wp2
      go_ret
      exact ⟨rfl, Below.refl _ _⟩
end Go.Proofs.Qxb6613675aFmt
