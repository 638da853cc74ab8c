/-
  PLAIN LAWS on a format whose only '%' opens a plain '%d': what fmt's walk over it gives, and what fmt's text is.
-/
import Derived.Stop.FmtTextKit
import Derived.Lib.ItoaNum
import GoSem.Extern.FmtStop
namespace Go.Proofs.Qxb6613636aFmt
open Go.Extern Go.Extern.Stop

theorem walk_lits (n : Nat) (acc : List (Nat × UInt8 × Bool)) (k : Nat) : ∀ (pre r : List UInt8) (fuel : Nat), 37 ∉ pre → FmtDoors.walk n (pre.length + fuel) k (pre ++ r) acc = FmtDoors.walk n fuel k r acc
  | [], r, fuel, _ => by simp
  | c :: pre, r, fuel, h => by
    have hc : (c != 37) = true := by simp; rintro rfl; exact h List.mem_cons_self
    rw [show (c :: pre).length + fuel = (pre.length + fuel) + 1 by simp; omega]
    simp only [List.cons_append, FmtDoors.walk, hc, if_true]
    exact walk_lits n acc k pre r fuel (fun hm => h (List.mem_cons_of_mem _ hm))

theorem printed_d (f : ByteArray) (pre post : List UInt8) (hf : f.data.toList = pre ++ 37 :: 100 :: post) (h1 : 37 ∉ pre) (h2 : 37 ∉ post) : FmtStop.printed? f 1 = some [(0, 100, false)] := by
  have hsz : f.size = pre.length + (post.length + 2) := by
    have : f.size = f.data.toList.length := by simp
    rw [this, hf]; simp
  unfold FmtStop.printed?
  rw [hf, hsz, show pre.length + (post.length + 2) + 1 = pre.length + ((post.length + 1) + 2) by omega, walk_lits 1 [] 0 pre _ _ h1]
  have e : FmtDoors.walk 1 (post.length + 1 + 2) 0 (37 :: 100 :: post) [] = FmtDoors.walk 1 (post.length + 1 + 1) 1 post [(0, 100, false)] := rfl
  have e2 := walk_lits 1 [(0, 100, false)] 1 post [] 2 h2
  rw [List.append_nil] at e2
  rw [e, show post.length + 1 + 1 = post.length + 2 by omega, e2]
  rfl

theorem parse_lits : ∀ (pre r : List UInt8) (fuel : Nat), 37 ∉ pre → FmtText.parseFrom (pre.length + fuel) (pre ++ r) = (FmtText.parseFrom fuel r).map (pre.map (fun c => FmtText.Piece.lit [c]) ++ ·)
  | [], r, fuel, _ => by simp
  | c :: pre, r, fuel, h => by
    have hc : c ≠ 37 := by rintro rfl; exact h List.mem_cons_self
    rw [show (c :: pre).length + fuel = (pre.length + fuel) + 1 by simp; omega]
    have e : FmtText.parseFrom (pre.length + fuel + 1) (c :: (pre ++ r)) = (FmtText.parseFrom (pre.length + fuel) (pre ++ r)).map (.lit [c] :: ·) := by
      conv => lhs; unfold FmtText.parseFrom
      split
      · rename_i heq; simp at heq
      · rename_i heq; simp at heq
      · rename_i heq; simp at heq; exact absurd heq.1 hc
      · simp_all
    rw [List.cons_append, e, parse_lits pre r fuel (fun hm => h (List.mem_cons_of_mem _ hm))]
    cases FmtText.parseFrom fuel r <;> simp

theorem render_lits (wrap : Bool) (ops : List FmtText.Operand) (ps : List FmtText.Piece) : ∀ (pre : List UInt8), FmtText.render wrap (pre.map (fun c => FmtText.Piece.lit [c]) ++ ps) ops = (FmtText.render wrap ps ops).map (pre ++ ·)
  | [] => by simp
  | c :: pre => by
    rw [List.map_cons, List.cons_append]
    simp only [FmtText.render]
    rw [render_lits wrap ops ps pre]
    cases FmtText.render wrap ps ops <;> simp

/-- The shape of an int64 operand. -/
def shapeI : List UInt8 := [5, 5, 0, 0, 0, 0, 0, 0, 0, 105, 110, 116, 54, 52]
/-- What fmt.Sprintf is asked. -/
def reading (f : List UInt8) (n : Int) : List (List UInt8) := [f, shapeI, digits 8 (n % 18446744073709551616).toNat]

theorem text_d (pre post : List UInt8) (n : Int) (h1 : 37 ∉ pre) (h2 : 37 ∉ post) (hw : (Lit.int .i64 n).wf = true) :
    FmtText.text "fmt.Sprintf" (reading (pre ++ 37 :: 100 :: post) n) = some (pre ++ (Lib.itoa n ++ post)) := by
  have ho := FmtText.operands_cons (FmtText.operand_int_at (sh := shapeI) (name := [105, 110, 116, 54, 52]) (k := .i64) rfl rfl n hw) FmtText.operands_nil
  have hp : FmtText.parse (pre ++ 37 :: 100 :: post) = some (pre.map (fun c => FmtText.Piece.lit [c]) ++ (FmtText.Piece.verb {} 100 :: (post.map (fun c => FmtText.Piece.lit [c]) ++ []))) := by
    unfold FmtText.parse
    rw [show (pre ++ 37 :: 100 :: post).length + 1 = pre.length + ((post.length + 1) + 2) by simp; omega, parse_lits pre _ _ h1]
    have e : FmtText.parseFrom (post.length + 1 + 2) (37 :: 100 :: post) = (FmtText.parseFrom (post.length + 1 + 1) post).map (FmtText.Piece.verb {} 100 :: ·) := rfl
    have e2 := parse_lits post [] 2 h2
    rw [List.append_nil] at e2
    rw [e, show post.length + 1 + 1 = post.length + 2 by omega, e2]
    rfl
  rw [reading, FmtText.text_sprintf hp ho, render_lits]
  have e3 : FmtText.render false (FmtText.Piece.verb {} 100 :: (post.map (fun c => FmtText.Piece.lit [c]) ++ [])) [.int [105, 110, 116, 54, 52] IntKind.i64.signed (n % 18446744073709551616).toNat] = some (Lib.itoa n ++ post) := by
    simp only [FmtText.render]
    rw [FmtText.printArg_d false _ hw, render_lits]
    simp [FmtText.render]
  rw [e3]
  rfl
end Go.Proofs.Qxb6613636aFmt
