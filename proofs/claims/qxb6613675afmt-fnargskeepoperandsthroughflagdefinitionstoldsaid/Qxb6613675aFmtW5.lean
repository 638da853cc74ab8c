import Derived.Test.Qxb6613675aFmtW4
import Derived.Deep.AppendLies
namespace Go.Proofs.Qxb6613675aFmt
open Go.RowKit

def ptrV (b : Nat) : Value := .pointer (some ⟨b, 0, none⟩)

/-- The flag set in block sb: its flags (in v) are those of fbs, named by nm; its operands are gv. -/
structure FS (w : World) (H0 sb : Nat) (gv v : Value) (fbs : List Nat) (nm : Nat → ByteArray) : Prop where
  c0 : w.cell? ⟨sb, 0, none⟩ = some v
  c1 : w.cell? ⟨sb, 1, none⟩ = some gv
  fz : w.frozen? ⟨sb, 0, none⟩ = false
  sbH : sb < H0
  H0w : H0 ≤ w.heap.size
  own : w.ownsRow H0 33 1 v fbs.length (fbs.map ptrV)
  fl : ∀ j b, fbs[j]? = some b → H0 ≤ b ∧ b < w.heap.size ∧ v.ownBlock ≠ some b ∧ w.cell? ⟨b, 0, none⟩ = some (.string (nm j))

/-- Below H0 nothing has turned but what xs names. -/
structure Kept (H0 : Nat) (xs : List Nat) (w w' : World) : Prop where
  os : w'.os = w.os
  tape : w'.tape = w.tape
  output : w'.output = w.output
  size : w.heap.size ≤ w'.heap.size
  block : ∀ k, k < H0 → k ∉ xs → w'.heap[k]? = w.heap[k]?

theorem FS.shape {w : World} {H0 sb : Nat} {gv v : Value} {fbs : List Nat} {nm : Nat → ByteArray} (h : FS w H0 sb gv v fbs nm) :
    ∃ a0 cap, v = .slice a0 fbs.length cap ∧ PtrsOf w a0 fbs.length (fun i => fbs.getD i 0) := by
  rcases h.own with ⟨_, ⟨hv, hl⟩ | ⟨g, cap, cur, hv, _, hh, _, _, hsz, htk⟩⟩
  · exact ⟨none, 0, by rw [hl]; exact hv, fun i hi => by omega⟩
  · refine ⟨some ⟨g, 0, none⟩, cap, hv, fun i hi => ⟨g, rfl, ?_⟩⟩
    have e : cur.toList[i]? = some (ptrV (fbs.getD i 0)) := by
      have e1 : (cur.toList.take (fbs.length * 1))[i]? = (fbs.map ptrV)[i]? := by rw [htk]
      rw [List.getElem?_take_of_lt (by omega)] at e1
      rw [e1]; simp [List.getD, hi]
    have e2 : cur[i]? = some (ptrV (fbs.getD i 0)) := by simpa using e
    simp [World.cell?, hh]
    rw [e2]; simp [ptrV, List.getD, hi]
theorem FS.names {w : World} {H0 sb : Nat} {gv v : Value} {fbs : List Nat} {nm : Nat → ByteArray} (h : FS w H0 sb gv v fbs nm) (j : Nat) (hj : j < fbs.length) : w.cell? ⟨fbs.getD j 0, 0, none⟩ = some (.string (nm j)) := by
  have e : fbs[j]? = some (fbs.getD j 0) := by simp [List.getD, hj]
  exact (h.fl j _ e).2.2.2

/-- A flag set in a later world: nothing old has turned. -/
theorem FS.below {w w' : World} {H0 sb : Nat} {gv v : Value} {fbs : List Nat} {nm : Nat → ByteArray} (h : FS w H0 sb gv v fbs nm) (hb : Below w.heap.size w w') : FS w' H0 sb gv v fbs nm where
  c0 := keep_cell h.c0 hb
  c1 := keep_cell h.c1 hb
  fz := by rw [hb.frozen (p := ⟨sb, 0, none⟩) (Nat.lt_of_lt_of_le h.sbH h.H0w)]; exact h.fz
  sbH := h.sbH
  H0w := Nat.le_trans h.H0w hb.size
  own := by
    obtain ⟨h1, h0 | ⟨g, c, cur, hv, hbg, hh, r⟩⟩ := h.own
    · exact ⟨h1, .inl h0⟩
    · have hg : g < w.heap.size := by
        rcases Nat.lt_or_ge g w.heap.size with h2 | h2
        · exact h2
        · rw [Array.getElem?_eq_none h2] at hh; cases hh
      exact ⟨h1, .inr ⟨g, c, cur, hv, hbg, by rw [hb.block _ hg]; exact hh, r⟩⟩
  fl := fun j b hj => by
    obtain ⟨h1, h2, h3, h4⟩ := h.fl j b hj
    exact ⟨h1, by have := hb.size; omega, h3, keep_cell h4 hb⟩

theorem Tryf.info33 : (Tryf.prog.info? 33).map (fun i => (i.zero, i.size, i.bytes)) = some (some (.pointer none), 1, 8) := by kernel_rfl

theorem news_at (w1 : World) (v : Value) (t : TypeId) : ∀ (j : Nat) (u : Value), [v][j]? = some u → (w1.alloc (.cells #[v] t)).cell? ((⟨w1.heap.size, 0, none⟩ : Addr).add j) = some u :=
  World.news_of_block (cs := #[v]) (t := t) (fr := (0, 0)) (heap_alloc_new w1 _)

theorem own_ge {w : World} {H0 sb : Nat} {gv v : Value} {fbs : List Nat} {nm : Nat → ByteArray} (h : FS w H0 sb gv v fbs nm) (k : Nat) (hk : v.ownBlock = some k) : H0 ≤ k ∧ k < w.heap.size := h.own.lt k hk

theorem sb_behind {w1 w3 : World} {H0 sb : Nat} {gv v : Value} {fbs : List Nat} {nm : Nat → ByteArray} {o : Obj} (h : FS w1 H0 sb gv v fbs nm) (hg : (w1.alloc o).grownBy w3 v.ownBlock) :
    w3.cell? ⟨sb, 0, none⟩ = some v ∧ w3.frozen? ⟨sb, 0, none⟩ = false := by
  have hlt : sb < w1.heap.size := Nat.lt_of_lt_of_le h.sbH h.H0w
  have hne : some sb ≠ v.ownBlock := fun e => by have := (own_ge h sb e.symm).1; have := h.sbH; omega
  constructor
  · rw [hg.cell_far ⟨sb, 0, none⟩ (by simp; omega) hne, World.cell?_alloc_lt _ _ _ hlt]; exact h.c0
  · rw [hg.frozen_far ⟨sb, 0, none⟩ (by simp; omega) hne, World.frozen?_alloc_old _ _ _ (Nat.ne_of_lt hlt)]; exact h.fz

/-- What stands behind 's.flags = append(s.flags, f)'. -/
theorem add_end {w w1 w3 : World} {H0 sb fb g cap2 : Nat} {gv v : Value} {fbs : List Nat} {nm : Nat → ByteArray} {o : Obj} (hH : H0 ≤ w.heap.size) (hb1 : Below w.heap.size w w1) (h : FS w1 H0 sb gv v fbs nm) (hfb : H0 ≤ fb) (hfw : fb < w1.heap.size) (hfv : v.ownBlock ≠ some fb)
    (hc : w1.cell? ⟨fb, 0, none⟩ = some (.string (nm fbs.length))) (hg : (w1.alloc o).grownBy w3 v.ownBlock) (hown : w3.ownsRow H0 33 1 (.slice (some ⟨g, 0, none⟩) (fbs.length + 1) cap2) (fbs.length + 1) (fbs.map ptrV ++ [ptrV fb]))
    (hat : v.ownBlock = some g ∨ g = w1.heap.size + 1) :
    FS (w3.setCell ⟨sb, 0, none⟩ (.slice (some ⟨g, 0, none⟩) (fbs.length + 1) cap2)) H0 sb gv (.slice (some ⟨g, 0, none⟩) (fbs.length + 1) cap2) (fbs ++ [fb]) nm ∧ Kept H0 [sb] w (w3.setCell ⟨sb, 0, none⟩ (.slice (some ⟨g, 0, none⟩) (fbs.length + 1) cap2)) := by
  obtain ⟨d0, d1⟩ := sb_behind h hg
  have hsb : sb < H0 := h.sbH
  have hH1 : H0 ≤ w1.heap.size := h.H0w
  have hs3 : w1.heap.size + 1 ≤ w3.heap.size := by have := hg.size; simpa using this
  have hsS : (w3.setCell ⟨sb, 0, none⟩ (.slice (some ⟨g, 0, none⟩) (fbs.length + 1) cap2)).heap.size = w3.heap.size := by simp [World.setCell]
  have hgH : H0 ≤ g := by
    rcases hat with e | e
    · exact (own_ge h g e).1
    · omega
  have hnesb : some sb ≠ v.ownBlock := fun e => by have := (own_ge h sb e.symm).1; omega
  -- a cell that lay in w1, in no block that was written, lies there still
  have keep : ∀ (a : Addr) (u : Value), w1.cell? a = some u → some a.block ≠ v.ownBlock → a.block ≠ sb → (w3.setCell ⟨sb, 0, none⟩ (.slice (some ⟨g, 0, none⟩) (fbs.length + 1) cap2)).cell? a = some u := by
    intro a u ha hne hns
    have hlt : a.block < w1.heap.size := World.block_lt_of_cell? w1 a ha
    rw [World.cell?_of_block (w := w3) (a := a) (Below.heap_setCell _ _ _ _ hns), hg.cell_far a (by simp; omega) hne, World.cell?_alloc_lt _ _ _ hlt]
    exact ha
  refine ⟨⟨sc_same d0, ?_, by rw [World.frozen?_setCell]; exact d1, hsb, by omega, ?_, ?_⟩, ⟨?_, ?_, ?_, by have := hb1.size; omega, ?_⟩⟩
  · rw [sc_other (by simp), hg.cell_far ⟨sb, 1, none⟩ (by simp; omega) hnesb, World.cell?_alloc_lt _ _ _ (by show sb < _; omega)]
    exact h.c1
  · have e : (fbs ++ [fb]).length = fbs.length + 1 := by simp
    rw [e, List.map_append]
    exact ownsRow_setCell_below hown (by show sb < H0; omega) _
  · intro j b hj
    by_cases hjl : j < fbs.length
    · rw [List.getElem?_append_left hjl] at hj
      obtain ⟨h1, h2, h3, h4⟩ := h.fl j b hj
      refine ⟨h1, by omega, ?_, keep _ _ h4 (fun e => h3 e.symm) (by show b ≠ sb; omega)⟩
      simp only [Value.ownBlock, ne_eq, Option.some.injEq]
      intro e
      rcases hat with e2 | e2
      · exact h3 (by rw [e2, e])
      · omega
    · rw [List.getElem?_append_right (by omega)] at hj
      have hj0 : j = fbs.length := by
        have := (List.getElem?_eq_some_iff.1 hj).1
        simp at this; omega
      subst hj0
      simp at hj
      subst hj
      refine ⟨hfb, by omega, ?_, keep _ _ hc (fun e => hfv e.symm) (by show fb ≠ sb; omega)⟩
      simp only [Value.ownBlock, ne_eq, Option.some.injEq]
      intro e
      rcases hat with e2 | e2
      · exact hfv (by rw [e2, e])
      · omega
  · exact hg.os.trans hb1.os
  · exact hg.tape.trans hb1.tape
  · exact hg.output.trans hb1.output
  · intro k hk hx
    have hks : k ≠ sb := by simpa using hx
    rw [Below.heap_setCell _ _ _ _ hks, hg.block k (by simp; omega) (fun e => by have := (own_ge h k e.symm).1; omega), Below.heap_alloc _ _ _ (by omega), hb1.block k (by omega)]

set_option maxHeartbeats 800000 in
theorem add_any (H0 sb fb : Nat) (gv v : Value) (fbs : List Nat) (nm : Nat → ByteArray) (w : World) (h : FS w H0 sb gv v fbs nm) (hfb : H0 ≤ fb) (hfw : fb < w.heap.size) (hfv : v.ownBlock ≠ some fb)
    (hc : w.cell? ⟨fb, 0, none⟩ = some (.string (nm fbs.length))) (hne : ∀ j, j < fbs.length → nm j ≠ nm fbs.length) (hlen : fbs.length < 100000) :
    Calls Tryf.prog 27 #[ptrV sb, ptrV fb] w fun e w' => e = .returned (.tuple #[]) ∧ ∃ v', FS w' H0 sb gv v' (fbs ++ [fb]) nm ∧ Kept H0 [sb] w w' := by
  obtain ⟨i0, hi, hz0, hz1, hz2⟩ := info_parts Tryf.info33
  obtain ⟨a0, cap, rfl, hP⟩ := h.shape
  have hL := lookup_none sb a0 fbs.length cap _ nm (nm fbs.length) w (by omega) h.c0 hP h.names hne
  unfold ptrV
  clear hne
  go_enter Tryf.func27, Tryf.ntmps27
  go_wp2_with fail
  refine hL.mono ?_
  rintro e w1 ⟨rfl, hb1⟩
  clear hL
  have h1 := h.below hb1
  have hc0 := h1.c0
  have hfz := h1.fz
  have HO : Hid ((w1.alloc (.cells #[ptrV fb] 33)).ownsRow H0 33 1 (.slice a0 fbs.length cap) fbs.length (fbs.map ptrV)) := hid (h1.own.alloc _)
  have hsz := hb1.size
  have hH1 := h1.H0w
  go_wp2_with (at_builtin; refine wpList_append_lies _ rfl _ _ 27 rfl H0 33 i0 _ 1 8 Tryf.underlying27 hi hz0 hz1 hz2 rfl (by omega) (.slice a0 fbs.length cap) fbs.length (fbs.map ptrV) rfl HO.out ⟨w1.heap.size, 0, none⟩ 1 1 [ptrV fb] rfl rfl (news_at w1 _ _) ?g1 (by omega) ?g2 ?g3 ?g4 (w1.heap.size + 1) (by simp) ?_)
  case g1 => intro u hu; simp at hu; subst hu; rfl
  case g2 => unfold maxLen; omega
  case g3 => omega
  case g4 => simp; omega
  intro g cap2 w3 hown3 hgrow3 hat hlt3
  have hend := add_end h.H0w hb1 h1 hfb (by omega) hfv (keep_cell hc hb1) hgrow3 hown3 hat
  obtain ⟨d0, d1⟩ := sb_behind h1 hgrow3
  clear hgrow3 hown3 hat
  go_wp2
  go_end0
  exact ⟨rfl, _, hend⟩
end Go.Proofs.Qxb6613675aFmt
