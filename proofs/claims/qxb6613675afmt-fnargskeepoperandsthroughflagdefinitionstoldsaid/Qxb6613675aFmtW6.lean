import Derived.Test.Qxb6613675aFmtW5
namespace Go.Proofs.Qxb6613675aFmt
open Go.RowKit

theorem add_at (H0 sb fb : Nat) (gv v : Value) (fbs : List Nat) (nm : Nat → ByteArray) (w : World) (h : FS w H0 sb gv v fbs nm) (hfb : H0 ≤ fb) (hfw : fb < w.heap.size) (hfv : v.ownBlock ≠ some fb)
    (hc : w.cell? ⟨fb, 0, none⟩ = some (.string (nm fbs.length))) (hne : ∀ j, j < fbs.length → nm j ≠ nm fbs.length) (hlen : fbs.length < 100000) :
    Calls Tryf.prog 27 #[.pointer (some ⟨sb, 0, none⟩), .pointer (some ⟨fb, 0, none⟩)] w fun e w' => e = .returned (.tuple #[]) ∧ ∃ v', FS w' H0 sb gv v' (fbs ++ [fb]) nm ∧ Kept H0 [sb] w w' :=
  add_any H0 sb fb gv v fbs nm w h hfb hfw hfv hc hne hlen
theorem Kept.of_below {w w1 w2 : World} {H0 : Nat} {xs : List Nat} (hb : Below w.heap.size w w1) (hH : H0 ≤ w.heap.size) (hk : Kept H0 xs w1 w2) : Kept H0 xs w w2 :=
  ⟨hk.os.trans hb.os, hk.tape.trans hb.tape, hk.output.trans hb.output, Nat.le_trans hb.size hk.size, fun k h1 h2 => (hk.block k h1 h2).trans (hb.block k (by omega))⟩

set_option maxHeartbeats 800000 in
theorem var_any (H0 sb st k : Nat) (gv v : Value) (fbs : List Nat) (nm : Nat → ByteArray) (us s0 : ByteArray) (w : World) (h : FS w H0 sb gv v fbs nm)
    (hst : w.cell? ⟨st, k, none⟩ = some (.string s0)) (hne : ∀ j, j < fbs.length → nm j ≠ nm fbs.length) (hlen : fbs.length < 100000) :
    Calls Tryf.prog 23 #[.pointer (some ⟨sb, 0, none⟩), .iface 54 (.pointer (some ⟨st, k, none⟩)), .string (nm fbs.length), .string us] w fun e w' => e = .returned (.tuple #[]) ∧ ∃ v', FS w' H0 sb gv v' (fbs ++ [w.heap.size]) nm ∧ Kept H0 [sb] w w' := by
  have HE := hid hne
  clear hne
  have hm : ∀ w, (method 207 54 (.pointer (some ⟨st, k, none⟩)) "String").run Tryf.prog w = .ok (47, .pointer (some ⟨st, k, none⟩)) w := fun _ => by kernel_rfl
  go_enter Tryf.func23, Tryf.ntmps23
  go_wp2_with (go_at_call 47; refine (string_any st k s0 _ hst).mono ?_; rintro e w' ⟨rfl, hw⟩; obtain rfl := hw.symm)
  refine (add_at H0 sb w.heap.size gv v fbs nm _ (h.below ((Below.refl _ w).alloc (Nat.le_refl _) _)) h.H0w (by simp) (fun e => by have := (own_ge h _ e).2; omega) (by simp) HE.out hlen).mono ?_
  rintro e w2 ⟨rfl, v', hF, hK⟩
  have hK2 := Kept.of_below ((Below.refl _ w).alloc (Nat.le_refl _) _) h.H0w hK
  clear hK
  go_wp2
  go_end0
  exact ⟨rfl, v', hF, hK2⟩

/-- The stores: a row of n cells that may be written. -/
def Room (w : World) (st n : Nat) : Prop := ∀ i, i < n → (∃ u, w.cell? ⟨st, i, none⟩ = some u) ∧ w.frozen? ⟨st, i, none⟩ = false

theorem far_cell {w : World} {st k : Nat} {u : Value} {a : Addr} (h : a.block ≠ st) : (w.setCell ⟨st, k, none⟩ u).cell? a = w.cell? a := World.cell?_of_block (w := w) (a := a) (Below.heap_setCell _ _ _ _ h)

theorem FS.store {w : World} {H0 sb : Nat} {gv v : Value} {fbs : List Nat} {nm : Nat → ByteArray} (h : FS w H0 sb gv v fbs nm) (st k : Nat) (u : Value) (hst : st < H0) (hss : st ≠ sb) : FS (w.setCell ⟨st, k, none⟩ u) H0 sb gv v fbs nm where
  c0 := (far_cell (Ne.symm hss)).trans h.c0
  c1 := (far_cell (Ne.symm hss)).trans h.c1
  fz := by rw [World.frozen?_setCell]; exact h.fz
  sbH := h.sbH
  H0w := by have := h.H0w; simpa [World.setCell] using this
  own := ownsRow_setCell_below h.own (by exact hst) _
  fl := fun j b hj => by
    obtain ⟨h1, h2, h3, h4⟩ := h.fl j b hj
    exact ⟨h1, by simpa [World.setCell] using h2, h3, (far_cell (by show b ≠ st; omega)).trans h4⟩
theorem Room.store {w : World} {st n : Nat} (h : Room w st n) (k : Nat) (u : Value) : Room (w.setCell ⟨st, k, none⟩ u) st n := fun i hi => by
  obtain ⟨⟨x, hx⟩, hf⟩ := h i hi
  exact ⟨cell?_setCell_some hx, by rw [World.frozen?_setCell]; exact hf⟩
theorem Room.kept {w w' : World} {st n H0 : Nat} {xs : List Nat} (h : Room w st n) (hk : Kept H0 xs w w') (hst : st < H0) (hx : st ∉ xs) : Room w' st n := fun i hi => by
  obtain ⟨⟨x, hx1⟩, hf⟩ := h i hi
  have hb := hk.block st hst hx
  exact ⟨⟨x, (World.cell?_of_block (w := w) (a := ⟨st, i, none⟩) hb).trans hx1⟩, (World.frozen?_of_block (w := w) (a := ⟨st, i, none⟩) hb).trans hf⟩

set_option maxHeartbeats 800000 in
theorem stringVar_any (H0 sb st n k : Nat) (gv v : Value) (fbs : List Nat) (nm : Nat → ByteArray) (us s0 : ByteArray) (w : World) (h : FS w H0 sb gv v fbs nm)
    (hR : Room w st n) (hkn : k < n) (hst : st < H0) (hss : st ≠ sb) (hne : ∀ j, j < fbs.length → nm j ≠ nm fbs.length) (hlen : fbs.length < 100000) :
    Calls Tryf.prog 10 #[.pointer (some ⟨sb, 0, none⟩), .pointer (some ⟨st, k, none⟩), .string (nm fbs.length), .string s0, .string us] w fun e w' => e = .returned (.tuple #[]) ∧ ∃ v' fb, FS w' H0 sb gv v' (fbs ++ [fb]) nm ∧ Room w' st n ∧ Kept H0 [sb, st] w w' := by
  obtain ⟨⟨u0, hu0⟩, hz0⟩ := hR k hkn
  have HE := hid hne
  clear hne
  go_enter Tryf.func10, Tryf.ntmps10
  go_wp2_with fail
  refine (var_any H0 sb st k gv v fbs nm us s0 _ (h.store st k (.string s0) hst hss) (sc_same hu0) HE.out hlen).mono ?_
  rintro e w2 ⟨rfl, v', hF, hK⟩
  have hR2 := (hR.store k (.string s0)).kept hK hst (by simpa using hss)
  have hK2 : Kept H0 [sb, st] w w2 := ⟨hK.os, hK.tape, hK.output, by have := hK.size; simpa [World.setCell] using this, fun j h1 h2 => by
    simp only [List.mem_cons, List.not_mem_nil, or_false, not_or] at h2
    exact (hK.block j h1 (by simpa using h2.1)).trans (Below.heap_setCell _ _ _ _ h2.2)⟩
  clear hK
  go_wp2
  go_end0
  exact ⟨rfl, v', _, hF, hR2, hK2⟩
end Go.Proofs.Qxb6613675aFmt
