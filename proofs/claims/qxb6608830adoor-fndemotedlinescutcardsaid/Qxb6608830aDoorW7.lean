import Derived.Test.Qxb6608830aDoorW6
namespace Go.Proofs.Qxb6608830aDoor
open Go.RowKit

/-- A slice of n lines of three words in block B. -/
def LinesAt (w : World) (B n : Nat) (f : Nat → Nat → ByteArray) : Prop :=
  ∀ j, j < n → ∃ b, w.cell? ⟨B, j, none⟩ = some (.slice (some ⟨b, 0, none⟩) 3 3) ∧ b < w.heap.size ∧ StrsAt w b 0 3 (f j)

theorem linesAt_of {w' : World} {B n : Nat} {lbs : List Nat} {f : Nat → Nat → ByteArray} (hlen : lbs.length = n) (hO : w'.ownsRow B 39 1 (.slice (some ⟨B, 0, none⟩) n n) n (lbs.map lineV)) (hL : Lines w' B lbs f) : LinesAt w' B n f := by
  intro j hj
  have hb : lbs[j]? = some (lbs[j]'(by omega)) := List.getElem?_eq_getElem (by omega)
  obtain ⟨_, h2, h3⟩ := hL j _ hb
  refine ⟨lbs[j]'(by omega), ?_, h2, h3⟩
  rcases hO with ⟨_, ⟨h, _⟩ | ⟨g, c, cur, hv, _, hh, _, _, hsz, htk⟩⟩
  · cases h
  · simp only [Value.slice.injEq, Option.some.injEq, Addr.mk.injEq] at hv
    obtain ⟨⟨rfl, _⟩, _, rfl⟩ := hv
    have e : cur.toList[j]? = some (lineV (lbs[j]'(by omega))) := by
      have e1 : (cur.toList.take (n * 1))[j]? = (lbs.map lineV)[j]? := by rw [htk]
      rw [List.getElem?_take_of_lt (by omega)] at e1
      rw [e1]; simp [hb]
    have e2 : cur[j]? = some (lineV (lbs[j]'(by omega))) := by simpa using e
    simp [World.cell?, hh]
    rw [e2]; rfl
theorem LinesAt.below {w w' : World} {B n : Nat} {f : Nat → Nat → ByteArray} (h : LinesAt w B n f) (hb : Below w.heap.size w w') : LinesAt w' B n f := fun j hj => by
  obtain ⟨b, h1, h2, h3⟩ := h j hj
  exact ⟨b, keep_cell h1 hb (World.block_lt_of_cell? w _ h1), by have := hb.size; omega, h3.below hb h2⟩

set_option maxHeartbeats 400000 in
theorem writeDemoted_any (gb : Nat) (ab : Nat) (nm : ByteArray) (n : Nat) (ip : Nat → ByteArray) (pt : Nat → Int) (w : World)
    (hg : w.cell? ⟨gb, 0, none⟩ = some (.string nm)) (hg2 : w.cell? ⟨gb, 11, none⟩ = some (.slice (some ⟨ab, 0, none⟩) n n)) (hA : AddrsAt w (some ⟨ab, 0, none⟩) n ip pt) (hn : n ≤ 100000) (h0 : 0 < w.heap.size)
    (hpt : ∀ i, -9223372036854775808 ≤ pt i ∧ pt i ≤ 9223372036854775807) (ht : Tab w) :
    Calls Tryd.prog 16 #[.pointer (some ⟨gb, 0, none⟩)] w fun e w' => e = .returned (.slice (some ⟨w.heap.size, 0, none⟩) n n) ∧ Below w.heap.size w w' ∧ w.heap.size < w'.heap.size ∧ LinesAt w' w.heap.size n (fun j => lineOf nm (ip j) (pt j)) := by
  go_enter Tryd.func16, Tryd.ntmps16
  go_wp2_with fail
  refine (groupAddrLines_any gb ab nm n ip pt w hg hA hn h0 hpt ht).mono ?_
  rintro e w' ⟨rfl, hb, lbs, hlen, hO, hL⟩
  have hs : w.heap.size < w'.heap.size := (hO.lt _ rfl).2
  have hLA := linesAt_of hlen hO hL
  clear hlen hO hL
  go_wp2
  go_ret
  exact ⟨rfl, hb, hs, hLA⟩

set_option maxHeartbeats 400000 in
theorem zzWriteDemoted_any (gb : Nat) (ab : Nat) (nm : ByteArray) (n : Nat) (ip : Nat → ByteArray) (pt : Nat → Int) (w : World)
    (hg : w.cell? ⟨gb, 0, none⟩ = some (.string nm)) (hg2 : w.cell? ⟨gb, 11, none⟩ = some (.slice (some ⟨ab, 0, none⟩) n n)) (hA : AddrsAt w (some ⟨ab, 0, none⟩) n ip pt) (hn : n ≤ 100000) (h0 : 0 < w.heap.size)
    (hpt : ∀ i, -9223372036854775808 ≤ pt i ∧ pt i ≤ 9223372036854775807) (ht : Tab w) :
    Calls Tryd.prog 7 #[.pointer (some ⟨gb, 0, none⟩)] w fun e w' => e = .returned (.slice (some ⟨w.heap.size, 0, none⟩) n n) ∧ Below w.heap.size w w' ∧ w.heap.size < w'.heap.size ∧ LinesAt w' w.heap.size n (fun j => lineOf nm (ip j) (pt j)) := by
  go_enter Tryd.func7, Tryd.ntmps7
  go_wp2_with fail
  refine (writeDemoted_any gb ab nm n ip pt w hg hg2 hA hn h0 hpt ht).mono ?_
  rintro e w' ⟨rfl, hb, hs, hLA⟩
  go_wp2
  go_ret
  exact ⟨rfl, hb, hs, hLA⟩
end Go.Proofs.Qxb6608830aDoor
