import Derived.Test.Qxb6608830aDoorW1
import Derived.Deep.RegionHeld3
namespace Go.Proofs.Qxb6608830aDoor
open Go.RowKit

theorem Tryd.info49 : (Tryd.prog.info? 49).map (fun i => (i.zero, i.size, i.bytes)) = some (some (.agg #[.string ByteArray.empty, .int .i64 0]), 2, 24) := by kernel_rfl

/-- From AddrsAt in a world to a later one. -/
theorem AddrsAt.below {w w' : World} {a0 : Option Addr} {n : Nat} {ip : Nat → ByteArray} {pt : Nat → Int} (h : AddrsAt w a0 n ip pt) (hb : Below w.heap.size w w') : AddrsAt w' a0 n ip pt := fun i hi => by
  obtain ⟨b, off, e, h1, h2⟩ := h i hi
  have : b < w.heap.size := World.block_lt_of_cell? w _ h1
  exact ⟨b, off, e, (hb.cell (by exact this)).trans h1, (hb.cell (by exact this)).trans h2⟩

/-- A row of n structs of two cells, the call's own: the first k are laid. -/
def Filling (w : World) (B n k : Nat) (ip : Nat → ByteArray) (pt : Nat → Int) : Prop :=
  (∀ i, i < n → (∃ u, w.cell? ⟨B, i * 2, none⟩ = some u) ∧ (∃ u, w.cell? ⟨B, i * 2 + 1, none⟩ = some u) ∧ w.frozen? ⟨B, i * 2, none⟩ = false ∧ w.frozen? ⟨B, i * 2 + 1, none⟩ = false) ∧
  (∀ i, i < k → w.cell? ⟨B, i * 2, none⟩ = some (.string (ip i)) ∧ w.cell? ⟨B, i * 2 + 1, none⟩ = some (.int .i64 (pt i)))

theorem filling_start {w : World} {B n cap : Nat} {xs : List Value} {ip : Nat → ByteArray} {pt : Nat → Int} (h : w.ownsRow B 49 2 (.slice (some ⟨B, 0, none⟩) n cap) n xs) : Filling w B n 0 ip pt := by
  rcases h with ⟨_, ⟨h, _⟩ | ⟨g, c, cur, hv, _, hh, hn, _, hsz, _⟩⟩
  · cases h
  · simp only [Value.slice.injEq, Option.some.injEq, Addr.mk.injEq] at hv
    obtain ⟨⟨rfl, _⟩, _, rfl⟩ := hv
    refine ⟨fun i hi => ⟨?_, ?_, ?_, ?_⟩, fun i hi => by omega⟩
    · exact ⟨cur[i * 2]'(by omega), by simp [World.cell?, hh]⟩
    · exact ⟨cur[i * 2 + 1]'(by omega), by simp [World.cell?, hh]⟩
    · simp [World.frozen?, hh]
    · simp [World.frozen?, hh]

theorem cell_far2 (w : World) (a b p : Addr) (u v : Value) (h1 : p.block ≠ a.block) (h2 : p.block ≠ b.block) : ((w.setCell a u).setCell b v).drew.cell? p = w.cell? p :=
  World.cell?_of_block (w := w) (a := p) (by
    show ((w.setCell a u).setCell b v).heap[p.block]? = _
    rw [Below.heap_setCell _ _ _ _ h2, Below.heap_setCell _ _ _ _ h1])

theorem sc_other {w : World} {a b : Addr} {v : Value} (h : a ≠ b) : (w.setCell a v).cell? b = w.cell? b := World.cell?_setCell_other (h := h) ..
theorem sc_same {w : World} {a : Addr} {u v : Value} (h : w.cell? a = some u) : (w.setCell a v).cell? a = some v := World.cell?_setCell_same (h := h) ..

theorem filling_step {w : World} {B n k : Nat} {ip : Nat → ByteArray} {pt : Nat → Int} (h : Filling w B n k ip pt) (hk : k < n) :
    Filling ((w.setCell ⟨B, k * 2, none⟩ (.string (ip k))).setCell ⟨B, k * 2 + 1, none⟩ (.int .i64 (pt k))).drew B n (k + 1) ip pt := by
  obtain ⟨h1, h2⟩ := h
  refine ⟨fun i hi => ?_, fun i hi => ?_⟩
  · obtain ⟨⟨a, ha⟩, ⟨b, hb⟩, f1, f2⟩ := h1 i hi
    refine ⟨?_, ?_, ?_, ?_⟩
    · obtain ⟨_, e⟩ := cell?_setCell_some (p := ⟨B, k * 2, none⟩) (x := .string (ip k)) ha
      exact cell?_setCell_some e
    · obtain ⟨_, e⟩ := cell?_setCell_some (p := ⟨B, k * 2, none⟩) (x := .string (ip k)) hb
      exact cell?_setCell_some e
    · show ((w.setCell _ _).setCell _ _).frozen? _ = false
      rw [World.frozen?_setCell, World.frozen?_setCell]; exact f1
    · show ((w.setCell _ _).setCell _ _).frozen? _ = false
      rw [World.frozen?_setCell, World.frozen?_setCell]; exact f2
  · by_cases e : i = k
    · subst e
      obtain ⟨⟨a, ha⟩, ⟨b, hb⟩, f1, f2⟩ := h1 i hk
      constructor
      · show ((w.setCell _ _).setCell _ _).cell? _ = _
        rw [sc_other (by simp), sc_same ha]
      · obtain ⟨_, e⟩ := cell?_setCell_some (p := ⟨B, i * 2, none⟩) (x := .string (ip i)) hb
        exact sc_same e
    · obtain ⟨a, b⟩ := h2 i (by omega)
      constructor
      · show ((w.setCell _ _).setCell _ _).cell? _ = _
        rw [sc_other (by intro h; have h2 := congrArg Addr.off h; dsimp only at h2; omega), sc_other (by intro h; have h2 := congrArg Addr.off h; dsimp only at h2; omega)]; exact a
      · show ((w.setCell _ _).setCell _ _).cell? _ = _
        rw [sc_other (by intro h; have h2 := congrArg Addr.off h; dsimp only at h2; omega), sc_other (by intro h; have h2 := congrArg Addr.off h; dsimp only at h2; omega)]; exact b

set_option maxHeartbeats 1000000 in
theorem toAddrs_any (a0 : Option Addr) (len cap : Nat) (ip : Nat → ByteArray) (pt : Nat → Int) (from_ n : Nat) (w : World)
    (hl : len ≤ 100000) (hA : AddrsAt w a0 len ip pt) (hto : from_ + n ≤ len) :
    Calls Tryd.prog 8 #[.slice a0 len cap, .int .i64 from_, .int .i64 (from_ + n)] w fun e w' => e = .returned (.slice (some ⟨w.heap.size, 0, none⟩) n n) ∧ Below w.heap.size w w' ∧ w.heap.size < w'.heap.size ∧
      Filling w' w.heap.size n n (fun i => ip (from_ + i)) (fun i => pt (from_ + i)) := by
  obtain ⟨i0, hi, hz0, hz1, hz2⟩ := info_parts Tryd.info49
  go_enter Tryd.func8, Tryd.ntmps8
  go_wp2_with (at_make; refine wpList_make_full _ rfl _ _ 29 rfl w.heap.size 49 i0 _ 2 Tryd.underlying29 hi hz0 hz1 _ _ _ _ n rfl rfl ?hL ?hC ?b2 ?b3 ?b4 ?_)
  case hL => omega
  case hC => omega
  case b2 => rw [hz2]; omega
  case b3 => unfold maxLen; omega
  case b4 => omega
  intro w1 hown hgrow
  have hf0 : Filling w1 w.heap.size n 0 (fun i => ip (from_ + i)) (fun i => pt (from_ + i)) := filling_start hown
  have hb0 : Below w.heap.size w w1 := (Below.refl _ w).grown hgrow (Nat.le_refl _) (fun k hk => by cases hk)
  have hs0 : w.heap.size < w1.heap.size := (hown.lt _ rfl).2
  clear hown hgrow
  go_wp2
  go_loopw [8] (fun i wr => ∃ k : Nat, k ≤ n ∧ i = .int .i64 (from_ + k) ∧ Below w.heap.size w wr ∧ w.heap.size < wr.heap.size ∧ Filling wr w.heap.size n k (fun i => ip (from_ + i)) (fun i => pt (from_ + i)))
    (fun i _ => from_ + n - (intOf i).toNat)
  case atStart => exact ⟨0, by omega, by go_num, hb0, hs0, hf0⟩
  case round =>
    obtain ⟨k, hk, rfl, hb, hs, hf⟩ := hrel
    by_cases hkn : k < n
    · obtain ⟨b, off, rfl, hcA, _⟩ := hA (from_ + k) (by omega)
      obtain ⟨b', off', e', hc0, hc1⟩ := (hA.below hb) (from_ + k) (by omega)
      simp only [Option.some.injEq, Addr.mk.injEq] at e'
      obtain ⟨rfl, rfl, _⟩ := e'
      obtain ⟨⟨u0, hu0⟩, ⟨u1, hu1⟩, hz0, hz1⟩ := hf.1 k hkn
      have hne : b ≠ w.heap.size := by have : b < w.heap.size := World.block_lt_of_cell? w _ hcA; omega
      clear hcA
      have q1 : (0 : Int) ≤ (from_ : Int) + (k : Int) := by omega
      have q2 : (from_ : Int) + (k : Int) < (len : Int) := by omega
      have q3 : (k : Int) < (n : Int) := by omega
      have q4 : ((from_ : Int) + (k : Int)).toNat = from_ + k := by omega
      have q5 : ((from_ : Int) + (k : Int) - (from_ : Int)) = (k : Int) := by omega
      have q6 : IntKind.i64.wrap (k : Int) = (k : Int) := by rw [IntKind.wrap_i64]; omega
      have hk0 := (cell_far2 wr ⟨w.heap.size, k * 2, none⟩ ⟨w.heap.size, k * 2 + 1, none⟩ ⟨b, off + (from_ + k) * 2, none⟩ (.string (ip (from_ + k))) (.int .i64 (pt (from_ + k))) hne hne).trans hc0
      have hk1 := (cell_far2 wr ⟨w.heap.size, k * 2, none⟩ ⟨w.heap.size, k * 2 + 1, none⟩ ⟨b, off + (from_ + k) * 2 + 1, none⟩ (.string (ip (from_ + k))) (.int .i64 (pt (from_ + k))) hne hne).trans hc1
      go_wp2
      go_region_held3 (fun w' => w'.cell? ⟨b, off + (from_ + k) * 2, none⟩ = some (.string (ip (from_ + k))) ∧ w'.cell? ⟨b, off + (from_ + k) * 2 + 1, none⟩ = some (.int .i64 (pt (from_ + k)))) (first | go_keep | exact ⟨hk0, hk1⟩) (fail)
      go_wp2
      go_roundw
      case rel => exact ⟨k + 1, by omega, by go_num, ((hb.setCell (Nat.le_refl _) _).setCell (Nat.le_refl _) _).drew, by simp [World.setCell]; omega, filling_step (ip := fun i => ip (from_ + i)) (pt := fun i => pt (from_ + i)) hf hkn⟩
      case measure => simp [intOf]; omega
    · have hke : k = n := by omega
      subst hke
      go_wp2
      go_ret
      exact ⟨rfl, hb, hs, hf⟩
end Go.Proofs.Qxb6608830aDoor
