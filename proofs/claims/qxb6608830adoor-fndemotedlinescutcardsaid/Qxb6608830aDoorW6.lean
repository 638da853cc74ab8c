import Derived.Test.Qxb6608830aDoorW2
import Derived.Test.Qxb6608830aDoorW4
import Derived.Test.Qxb6608830aDoorW5
import Derived.Test.Qxb6608830aDoorShelf
import Derived.Deep.AppendLies
import Derived.WalkSmall
namespace Go.Proofs.Qxb6608830aDoor
open Go.RowKit
open Go.Lib (TabIs pow10Tab)

/-- The library's table of powers of ten reads as Go's text lays it. -/
def Tab (w : World) : Prop := TabIs Tryd.prog w Tryd.powName .u64 pow10Tab
theorem gPow : Tryd.prog.globalNamed Tryd.powName = some 0 := by kernel_rfl
theorem Tab.below {B : Nat} {w w' : World} (h : Tab w) (hb : Below B w w') (h0 : 0 < B) : Tab w' := var?_below hb gPow h0 h

theorem below_grow (w : World) (k : Nat) (os : Array Obj) : Below w.heap.size w (Sort.grow (w.drewN k) os) :=
  ⟨rfl, rfl, rfl, by show w.heap.size ≤ (w.heap ++ os).size; rw [Array.size_append]; omega, fun j hj => by show (w.heap ++ os)[j]? = _; rw [Array.getElem?_append_left hj]⟩

theorem itoa_any (n : Int) (h0 : -9223372036854775808 ≤ n) (h1 : n ≤ 9223372036854775807) (w : World) (ht : Tab w) :
    Calls Tryd.prog 19 #[.int .i64 n] w fun e w' => e = .returned (.string (itoaS n)) ∧ Below w.heap.size w w' :=
  (Tryd.strconv_Itoa n h0 h1 w ht).mono fun _ _ ⟨he, k, os, hw⟩ => ⟨he, hw ▸ below_grow w k os⟩

/-- append within the capacity, at a step of a region that draws its order. -/
theorem step_append_fits {P : Program} (w : World) {ops : Array Oper} {o : Oper} {a : Act} {K : Act → World → Prop} {Q : Exit → Act → World → Prop} {E : Prop} (hgd : o.guard = none) (s x : Operand) (t : TypeId)
    (ho : o.op = .call { callee := .builtin .append, args := #[s, x], argTypes := #[t, t] })
    (base : Nat) (e : TypeId) (i : TypeInfo) (size : Nat) (ht : P.underlying t = some (.slice e)) (hi : P.info? e = some i) (hsize : i.size = size)
    (g n cap : Nat) (xs : List Value) (hs : a.eval s = .slice (some ⟨g, 0, none⟩) n cap) (hown : w.ownsRow base e size (.slice (some ⟨g, 0, none⟩) n cap) n xs)
    (ad : Addr) (m c : Nat) (news : List Value) (hx : a.eval x = .slice (some ad) m c) (hl : news.length = m * size) (hnews : ∀ j u, news[j]? = some u → w.cell? (ad.add j) = some u) (h1 : ∀ u ∈ news, u.oneCell' = true)
    (hroom : n + m ≤ cap)
    (h : ∀ w', w'.ownsRow base e size (.slice (some ⟨g, 0, none⟩) (n + m) cap) (n + m) (xs ++ news) → w.grownBy w' (some g) → K (a.put o.dst (.slice (some ⟨g, 0, none⟩) (n + m) cap)) w') :
    if Region.wanted o (yielded ops a.tmps) = true then Oper.wp P o a w K Q else E := by
  have hw : Region.wanted o (yielded ops a.tmps) = true := by simp [Region.wanted, hgd]
  rw [if_pos hw]
  obtain ⟨w', hr, h2, h3⟩ := run_append_fits (P := P) w base t o.type e i size ht hi hsize g n cap xs hown ad m c news hl hnews h1 hroom
  unfold Oper.wp execOp
  simp only [ho, resolve, invoke, builtin, Sem.run_bind, Sem.run_pure, Result.andThen_ok, List.map_toArray, List.map_cons, List.map_nil, hs, hx, hr]
  exact h w' h2 h3

theorem owns_later {w W : World} {base e size g n cap B : Nat} {xs : List Value} (h : w.ownsRow base e size (.slice (some ⟨g, 0, none⟩) n cap) n xs) (hb : Below B w W) (hg : g < B) :
    W.ownsRow base e size (.slice (some ⟨g, 0, none⟩) n cap) n xs := by
  obtain ⟨h1, h0 | ⟨g', c, cur, hv, hbg, hh, r⟩⟩ := h
  · exact ⟨h1, .inl h0⟩
  · refine ⟨h1, .inr ⟨g', c, cur, hv, hbg, ?_, r⟩⟩
    simp only [Value.slice.injEq, Option.some.injEq, Addr.mk.injEq] at hv
    obtain ⟨⟨rfl, _⟩, _⟩ := hv
    rw [hb.block _ hg]; exact hh

theorem keep_cell {W W' : World} {B : Nat} {a : Addr} {v : Value} (h : W.cell? a = some v) (hb : Below B W W') (hlt : a.block < B) : W'.cell? a = some v := (hb.cell hlt).trans h

theorem StrsAt.below {w w' : World} {b off n B : Nat} {s : Nat → ByteArray} (h : StrsAt w b off n s) (hb : Below B w w') (hlt : b < B) : StrsAt w' b off n s := fun i hi => keep_cell (h i hi) hb hlt
theorem StrsAt.grown {w w' : World} {b off n : Nat} {row : Option Nat} {s : Nat → ByteArray} (h : StrsAt w b off n s) (hg : w.grownBy w' row) (hne : some b ≠ row) : StrsAt w' b off n s := fun i hi => hg.cell (h i hi) hne

/-- The three words of a line. -/
def lineOf (nm ip : ByteArray) (pt : Int) : Nat → ByteArray := fun i => if i = 0 then nm else if i = 1 then ip else itoaS pt
def lineV (b : Nat) : Value := .slice (some ⟨b, 0, none⟩) 3 3

/-- The blocks of the lines laid so far, and what they hold. -/
def Lines (w : World) (B : Nat) (lbs : List Nat) (f : Nat → Nat → ByteArray) : Prop := ∀ j b, lbs[j]? = some b → B < b ∧ b < w.heap.size ∧ StrsAt w b 0 3 (f j)

theorem Tryd.info39 : (Tryd.prog.info? 39).map (fun i => (i.zero, i.size, i.bytes)) = some (some (.slice none 0 0), 1, 24) := by kernel_rfl

theorem below_at_append {wr W1 w2 : World} (hbW : Below wr.heap.size wr W1) (hb2 : Below W1.drew.heap.size W1.drew w2) (hZ : Hid (W1.heap.size = wr.heap.size + 1)) (A C : Obj) :
    Below wr.heap.size wr ((w2.alloc A).alloc C) ∧ wr.heap.size + 1 ≤ w2.heap.size := by
  have h1 : wr.heap.size + 1 ≤ w2.heap.size := by have := hb2.size; have h2 : W1.drew.heap.size = W1.heap.size := rfl; have := hZ.out; omega
  have h2 : Below wr.heap.size wr w2 := hbW.drew.trans (hb2.mono (by have h2 : W1.drew.heap.size = W1.heap.size := rfl; have := hZ.out; omega))
  exact ⟨(h2.alloc (by omega) _).alloc (by simp; omega) _, h1⟩
theorem own_at_append {wr W1 w2 : World} {B k n : Nat} {xs : List Value} (hO : Hid (wr.ownsRow B 39 1 (.slice (some ⟨B, 0, none⟩) k n) k xs)) (hbW : Below wr.heap.size wr W1) (hb2 : Below W1.drew.heap.size W1.drew w2)
    (hZ : Hid (W1.heap.size = wr.heap.size + 1)) (hs : B < wr.heap.size) (A C : Obj) : ((w2.alloc A).alloc C).ownsRow B 39 1 (.slice (some ⟨B, 0, none⟩) k n) k xs :=
  owns_later hO.out (below_at_append hbW hb2 hZ A C).1 hs
theorem keep_app {W1 w2 w3 : World} {B : Nat} {A C : Obj} {a : Addr} {v : Value} (c : W1.cell? a = some v) (hb2 : Below W1.drew.heap.size W1.drew w2) (hg : ((w2.alloc A).alloc C).grownBy w3 (some B)) (ha : a.block < W1.drew.heap.size) (hne : a.block ≠ B) : w3.cell? a = some v := by
  have h2 : w2.cell? a = some v := keep_cell (W := W1.drew) c hb2 ha
  have hlt : a.block < w2.heap.size := World.block_lt_of_cell? w2 a h2
  refine hg.cell ?_ (by simpa using hne)
  rw [World.cell?_alloc_lt _ _ _ (by simp; omega), World.cell?_alloc_lt _ _ _ hlt]; exact h2
theorem news_at (w2 : World) (A : Obj) (v : Value) (t : TypeId) : ∀ (j : Nat) (u : Value), [v][j]? = some u → ((w2.alloc A).alloc (.cells #[v] t)).cell? ((⟨w2.heap.size + 1, 0, none⟩ : Addr).add j) = some u :=
  World.news_of_block (cs := #[v]) (t := t) (fr := (0, 0)) (by have := heap_alloc_new (w2.alloc A) (.cells #[v] t); simpa using this)

theorem round_next {w wr W1 w2 w3 : World} {lbs : List Nat} {nm ipk : ByteArray} {ptk : Int} {f : Nat → Nat → ByteArray} {t : TypeId} {C : Obj} (hb : Below w.heap.size w wr) (hs : w.heap.size < wr.heap.size)
    (hbW : Below wr.heap.size wr W1) (hb2 : Below W1.drew.heap.size W1.drew w2) (hZ : Hid (W1.heap.size = wr.heap.size + 1))
    (hg : ((w2.alloc (.cells #[.string nm, .string ipk, .string (itoaS ptk)] t)).alloc C).grownBy w3 (some w.heap.size)) (hL : Lines wr w.heap.size lbs f) (hf : f lbs.length = lineOf nm ipk ptk) :
    Below w.heap.size w w3 ∧ w.heap.size < w3.heap.size ∧ Lines w3 w.heap.size (lbs ++ [w2.heap.size]) f := by
  obtain ⟨hbA, hsz⟩ := below_at_append hbW hb2 hZ (.cells #[.string nm, .string ipk, .string (itoaS ptk)] t) C
  have hsA := hbA.size
  have hsg := hg.size
  have hsA2 : ((w2.alloc (.cells #[.string nm, .string ipk, .string (itoaS ptk)] t)).alloc C).heap.size = w2.heap.size + 2 := by simp
  refine ⟨(hb.trans (hbA.mono (by omega))).grown hg (by omega) (fun k hk => by cases hk; omega), by omega, fun j b hj => ?_⟩
  by_cases hjl : j < lbs.length
  · rw [List.getElem?_append_left hjl] at hj
    obtain ⟨h1, h2, h3⟩ := hL j b hj
    exact ⟨h1, by omega, (h3.below hbA h2).grown hg (by simp; omega)⟩
  · rw [List.getElem?_append_right (by omega)] at hj
    have hj0 : j = lbs.length := by
      have := (List.getElem?_eq_some_iff.1 hj).1
      simp at this; omega
    subst hj0
    simp at hj
    subst hj
    refine ⟨by omega, by omega, ?_⟩
    rw [hf]
    refine StrsAt.grown (w := (w2.alloc (.cells #[.string nm, .string ipk, .string (itoaS ptk)] t)).alloc C) (fun i hi => ?_) hg (by simp; omega)
    rw [World.cell?_alloc_lt _ _ _ (by simp)]
    match i, hi with
    | 0, _ => simp [lineOf]
    | 1, _ => simp [lineOf]
    | 2, _ => simp [lineOf]

set_option maxHeartbeats 1000000 in
theorem groupAddrLines_any (gb : Nat) (ab : Nat) (nm : ByteArray) (n : Nat) (ip : Nat → ByteArray) (pt : Nat → Int) (w : World)
    (hg : w.cell? ⟨gb, 0, none⟩ = some (.string nm)) (hA : AddrsAt w (some ⟨ab, 0, none⟩) n ip pt) (hn : n ≤ 100000) (h0 : 0 < w.heap.size)
    (hpt : ∀ i, -9223372036854775808 ≤ pt i ∧ pt i ≤ 9223372036854775807) (ht : Tab w) :
    Calls Tryd.prog 18 #[.pointer (some ⟨gb, 0, none⟩), .slice (some ⟨ab, 0, none⟩) n n] w fun e w' => e = .returned (.slice (some ⟨w.heap.size, 0, none⟩) n n) ∧ Below w.heap.size w w' ∧
      ∃ lbs : List Nat, lbs.length = n ∧ w'.ownsRow w.heap.size 39 1 (.slice (some ⟨w.heap.size, 0, none⟩) n n) n (lbs.map lineV) ∧ Lines w' w.heap.size lbs (fun j => lineOf nm (ip j) (pt j)) := by
  obtain ⟨i0, hi, hz0, hz1, hz2⟩ := info_parts Tryd.info39
  have hgb : gb < w.heap.size := World.block_lt_of_cell? w _ hg
  go_enter Tryd.func18, Tryd.ntmps18
  go_wp2_with (at_make; refine wpList_make_own _ rfl _ _ 26 rfl w.heap.size 39 i0 _ 1 Tryd.underlying26 hi hz0 hz1 _ _ _ n rfl rfl ?hC ?b2 ?b3 ?b4 ?_)
  case hC => omega
  case b2 => rw [hz2]; omega
  case b3 => unfold maxLen; omega
  case b4 => omega
  intro w1 hown0 hgrow0
  have hb0 : Below w.heap.size w w1 := (Below.refl _ w).grown hgrow0 (Nat.le_refl _) (fun k hk => by cases hk)
  have hs0 : w.heap.size < w1.heap.size := (hown0.lt _ rfl).2
  have HO := hid hown0
  clear hgrow0 hown0
  go_wp2
  go_loopw [5, 7, 13] (fun v _ i wr => ∃ k : Nat, ∃ lbs : List Nat, k ≤ n ∧ i = .int .i64 k ∧ v = .slice (some ⟨w.heap.size, 0, none⟩) k n ∧ lbs.length = k ∧ Below w.heap.size w wr ∧ w.heap.size < wr.heap.size ∧
      Hid (wr.ownsRow w.heap.size 39 1 (.slice (some ⟨w.heap.size, 0, none⟩) k n) k (lbs.map lineV)) ∧ Lines wr w.heap.size lbs (fun j => lineOf nm (ip j) (pt j)))
    (fun _ _ i _ => n - (intOf i).toNat)
  case atStart => exact ⟨0, [], by omega, rfl, rfl, rfl, hb0, hs0, HO, fun j b h => by simp at h⟩
  case round =>
    obtain ⟨k, lbs, hk, rfl, rfl, hlen, hb, hs, HO, hL⟩ := hrel
    by_cases hkn : k < n
    · obtain ⟨b, off, e0, hc0, hc1⟩ := (hA.below hb) k hkn
      simp only [Option.some.injEq, Addr.mk.injEq] at e0
      obtain ⟨rfl, rfl, _⟩ := e0
      simp only [Nat.zero_add] at hc0 hc1
      have hgr : wr.cell? ⟨gb, 0, none⟩ = some (.string nm) := keep_cell hg hb hgb
      have q1 : (0 : Int) ≤ (k : Int) := by omega
      have q2 : (k : Int) < (n : Int) := by omega
      go_wp2
      obtain ⟨W1, hW1⟩ : ∃ W1, wr.alloc (.cells #[.string (ip k), .int .i64 (pt k)] 49) = W1 := ⟨_, rfl⟩
      rw [hW1]
      have hbW : Below wr.heap.size wr W1 := hW1 ▸ (Below.refl _ wr).alloc (Nat.le_refl _) _
      have HZ : Hid (W1.heap.size = wr.heap.size + 1) := hid (by rw [← hW1]; simp)
      have c0 : W1.cell? ⟨gb, 0, none⟩ = some (.string nm) := keep_cell hgr hbW (by show gb < _; omega)
      have c1 : W1.cell? ⟨wr.heap.size, 0, none⟩ = some (.string (ip k)) := by rw [← hW1]; simp
      have c2 : W1.cell? ⟨wr.heap.size, 1, none⟩ = some (.int .i64 (pt k)) := by rw [← hW1]; simp
      have hwz := HZ.out
      have hT1 : Tab W1 := (ht.below hb h0).below hbW (by omega)
      have g0 : gb < W1.drew.heap.size := by show gb < W1.heap.size; omega
      have g1 : wr.heap.size < W1.drew.heap.size := by show wr.heap.size < W1.heap.size; omega
      have g2 : gb ≠ w.heap.size := by omega
      have g3 : wr.heap.size ≠ w.heap.size := by omega
      clear hW1 hwz
      obtain ⟨p1, p2⟩ := hpt k
      go_region_held3 (fun w' => w'.cell? ⟨gb, 0, none⟩ = some (.string nm) ∧ w'.cell? ⟨wr.heap.size, 0, none⟩ = some (.string (ip k)) ∧ w'.cell? ⟨wr.heap.size, 1, none⟩ = some (.int .i64 (pt k)))
        (first | go_keep | exact ⟨keep_cell (W := W1.drew) c0 hb2 g0, keep_cell (W := W1.drew) c1 hb2 g1, keep_cell (W := W1.drew) c2 hb2 g1⟩ | exact ⟨keep_app c0 hb2 hgrow3 g0 g2, keep_app c1 hb2 hgrow3 g1 g3, keep_app c2 hb2 hgrow3 g1 g3⟩)
        (first | (go_at_call 19; refine (itoa_any (pt k) p1 p2 _ (by exact hT1)).mono ?_; rintro e w2 ⟨rfl, hb2⟩) | (refine step_append_fits _ (by rfl) _ _ _ (by rfl) w.heap.size 39 i0 1 Tryd.underlying26 hi hz1 w.heap.size k n (lbs.map lineV) (by rfl) (by exact own_at_append HO hbW hb2 HZ hs _ _) ⟨w2.heap.size + 1, 0, none⟩ 1 1 [lineV w2.heap.size] (by rfl) (by rfl) (by exact news_at w2 _ _ _) (by simp [lineV, Value.oneCell']) (by omega) ?_; intro w3 hown3 hgrow3))
      have hnx := round_next (f := fun j => lineOf nm (ip j) (pt j)) hb hs hbW hb2 HZ hgrow3 hL (by rw [hlen])
      obtain ⟨n1, n2, n3⟩ := hnx
      have HO3 : Hid (w3.ownsRow w.heap.size 39 1 (.slice (some ⟨w.heap.size, 0, none⟩) (k + 1) n) (k + 1) ((lbs ++ [w2.heap.size]).map lineV)) := hid (by rw [List.map_append]; exact hown3)
      clear hown3 hgrow3
      go_wp2
      go_roundw
      case rel => exact ⟨k + 1, lbs ++ [w2.heap.size], by omega, by go_num, rfl, by simp [hlen], n1, n2, HO3, n3⟩
      case measure => simp [intOf]; omega
    · have hke : k = n := by omega
      subst hke
      go_wp2
      go_ret
      exact ⟨rfl, hb, lbs, hlen, HO.out, hL⟩
end Go.Proofs.Qxb6608830aDoor
