/-
  SEAT b6602369a. THE SORTER's MEMORY, PHASE BY PHASE.
-/
import Derived.Test.Qxb6602369aNodes
namespace Go.Proofs.Qxb6602369a
open Go.RowKit

def strS (n B : Nat) (rv : Value) : Nat → Value := fun j => if j = 0 then .slice (some ⟨B, 0, none⟩) n n else if j = 1 then rv else if j = 7 then .int .i64 0 else .slice none 0 0
def refCells : List (Nat × Nat) → List Value
  | [] => []
  | x :: R => .int .i64 ((x.1 : Nat) : Int) :: .int .i64 ((x.2 : Nat) : Int) :: refCells R
theorem refCells_append : ∀ (A B : List (Nat × Nat)), refCells (A ++ B) = refCells A ++ refCells B
  | [], B => rfl
  | x :: A, B => by simp [refCells, refCells_append A B]
theorem refCells_at : ∀ (R : List (Nat × Nat)) (i : Nat), i < R.length → (refCells R)[i * 2]? = some (.int .i64 (((R.getD i (0, 0)).1 : Nat) : Int)) ∧ (refCells R)[i * 2 + 1]? = some (.int .i64 (((R.getD i (0, 0)).2 : Nat) : Int))
  | x :: R, 0, _ => by simp [refCells]
  | x :: R, i + 1, h => by
    have := refCells_at R i (by simpa using h)
    rw [show (i + 1) * 2 = i * 2 + 1 + 1 by omega]
    simpa [refCells] using this

/-- While ref is numbered. -/
structure PhB (w wr : World) (n : Nat) (rv : Value) (R : List (Nat × Nat)) (F : Nat → Nat) : Prop where
  var : wr.rowIs (w.heap.size + 2) 61 1 (fun _ => .pointer (some ⟨w.heap.size + 1, 0, none⟩))
  str : wr.rowIs (w.heap.size + 1) 64 8 (strS n w.heap.size rv)
  fst : wr.rowIs w.heap.size 3 n (fun j => .int .i64 ((F j : Nat) : Int))
  ref : wr.ownsRow (w.heap.size + 3) 49 2 rv R.length (refCells R)
  below : Below w.heap.size w wr
  sz : w.heap.size + 3 ≤ wr.heap.size

theorem PhB.start (w : World) (n : Nat) : PhB w (((w.alloc (.cells (madeCells #[.int .i64 0] n) 3)).alloc (.cells #[.slice (some ⟨w.heap.size, 0, none⟩) n n, .slice none 0 0, .slice none 0 0, .slice none 0 0, .slice none 0 0, .slice none 0 0, .slice none 0 0, .int .i64 0] 64)).alloc (.cells #[.pointer (some ⟨w.heap.size + 1, 0, none⟩)] 61)) n (.slice none 0 0) [] (fun _ => 0) := by
  refine ⟨?_, ?_, ?_, World.ownsRow_nil _ _ _ _, (((Below.refl _ _).alloc (Nat.le_refl _) _).alloc (by simp) _).alloc (by simp; omega) _, by simp⟩
  · have := World.rowIs_alloc ((w.alloc (.cells (madeCells #[.int .i64 0] n) 3)).alloc (.cells #[.slice (some ⟨w.heap.size, 0, none⟩) n n, .slice none 0 0, .slice none 0 0, .slice none 0 0, .slice none 0 0, .slice none 0 0, .slice none 0 0, .int .i64 0] 64)) #[.pointer (some ⟨w.heap.size + 1, 0, none⟩)] 61 (fun _ => .pointer (some ⟨w.heap.size + 1, 0, none⟩)) (fun i hi => by
      obtain rfl : i = 0 := by simp at hi; omega
      rfl)
    simpa using this
  · refine World.rowIs.alloc ?_ _
    have := World.rowIs_alloc (w.alloc (.cells (madeCells #[.int .i64 0] n) 3)) #[.slice (some ⟨w.heap.size, 0, none⟩) n n, .slice none 0 0, .slice none 0 0, .slice none 0 0, .slice none 0 0, .slice none 0 0, .slice none 0 0, .int .i64 0] 64 (strS n w.heap.size (.slice none 0 0)) (fun i hi => by
      have hi' : i < 8 := by simpa using hi
      rcases (show i = 0 ∨ i = 1 ∨ i = 2 ∨ i = 3 ∨ i = 4 ∨ i = 5 ∨ i = 6 ∨ i = 7 by omega) with rfl | rfl | rfl | rfl | rfl | rfl | rfl | rfl <;> rfl)
    simpa using this
  · exact ((World.rowIs_made w _ _ 3).alloc _).alloc _

theorem PhB.alloc {w wr : World} {n : Nat} {rv : Value} {R : List (Nat × Nat)} {F : Nat → Nat} (h : PhB w wr n rv R F) (o : Obj) : PhB w (wr.alloc o) n rv R F :=
  ⟨h.var.alloc o, h.str.alloc o, h.fst.alloc o, h.ref.alloc o, h.below.alloc (by have := h.sz; omega) o, Nat.le_trans h.sz (by simp)⟩
theorem PhB.drew {w wr : World} {n : Nat} {rv : Value} {R : List (Nat × Nat)} {F : Nat → Nat} (h : PhB w wr n rv R F) : PhB w wr.drew n rv R F :=
  ⟨h.var, h.str, h.fst, h.ref, h.below.drew, h.sz⟩

theorem PhB.setF {w wr : World} {n : Nat} {rv : Value} {R : List (Nat × Nat)} {F : Nat → Nat} (h : PhB w wr n rv R F) (k x : Nat) : PhB w (wr.setCell ⟨w.heap.size, k, none⟩ (.int .i64 ((x : Nat) : Int))) n rv R (upd F k x) := by
  have hs := h.sz
  refine ⟨h.var.setOther (by simp) _, h.str.setOther (by simp) _, (h.fst.set k _).congr (fun j _ => ?_), ownsRow_setCell_other h.ref (fun e => ?_) _, h.below.setCell (Nat.le_refl _) _, by simpa using hs⟩
  · by_cases e : j = k
    · subst e; simp [upd]
    · simp [upd, e]
  · have := (h.ref.lt _ e).1
    simp at this
    omega

theorem PhB.push {w wr w2 : World} {n : Nat} {rv : Value} {R : List (Nat × Nat)} {F : Nat → Nat} (h : PhB w wr n rv R F) {k p g cap : Nat} {ob : Obj}
    (hown : w2.ownsRow (w.heap.size + 3) 49 2 (.slice (some ⟨g, 0, none⟩) (R.length + 1) cap) (R.length + 1) (refCells R ++ [.int .i64 k, .int .i64 p]))
    (hgrow : (wr.alloc ob).grownBy w2 rv.ownBlock) :
    PhB w (w2.setCell ⟨w.heap.size + 1, 1, none⟩ (.slice (some ⟨g, 0, none⟩) (R.length + 1) cap)) n (.slice (some ⟨g, 0, none⟩) (R.length + 1) cap) (R ++ [(k, p)]) F := by
  have hs := h.sz
  have blk : ∀ q, q < w.heap.size + 3 → w2.heap[q]? = wr.heap[q]? := fun q hq => by
    rw [hgrow.block q (by simp; omega) (fun e => by have := (h.ref.lt q e.symm).1; omega), Below.heap_alloc _ _ _ (by omega)]
  refine ⟨(h.var.of_block (blk _ (by omega))).setOther (by simp) _, ((h.str.of_block (blk _ (by omega))).set 1 _).congr (fun j _ => ?_), (h.fst.of_block (blk _ (by omega))).setOther (by simp) _, ?_, ?_, ?_⟩
  · by_cases e : j = 1
    · subst e; simp [strS]
    · simp [strS, e]
  · have := ownsRow_setCell_other hown (a := ⟨w.heap.size + 1, 1, none⟩) (fun e => by have := (hown.lt _ e).1; simp at this) (.slice (some ⟨g, 0, none⟩) (R.length + 1) cap)
    rw [refCells_append]
    simpa [refCells] using this
  · exact (((h.below.alloc (by omega) ob).grown hgrow (by simp; omega) (fun q hq => by have := (h.ref.lt q hq).1; omega))).setCell (by simp) _
  · have := hgrow.size
    simp at this ⊢
    omega

theorem PhB.form {w wr : World} {n : Nat} {rv : Value} {R : List (Nat × Nat)} {F : Nat → Nat} (h : PhB w wr n rv R F) : ∃ ra rc, rv = .slice ra R.length rc := by
  rcases h.ref.2 with ⟨h1, h2⟩ | ⟨g, cap, cur, h1, _⟩
  · exact ⟨none, 0, by rw [h1, h2]⟩
  · exact ⟨_, cap, h1⟩

/-- While the rows are made. -/
structure PhC (wB : World) (bp T : Nat) (S : Nat → Value) (L : List (Nat × Value)) (w' : World) : Prop where
  str : w'.rowIs bp 64 8 S
  row : ∀ i, i < L.length → w'.rowIs (wB.heap.size + i) (L.getD i (0, undef)).1 T (fun _ => (L.getD i (0, undef)).2)
  size : w'.heap.size = wB.heap.size + L.length
  old : ∀ k : Nat, k < wB.heap.size → k ≠ bp → w'.heap[k]? = wB.heap[k]?
  os : w'.os = wB.os
  tape : w'.tape = wB.tape
  output : w'.output = wB.output

theorem PhC.start {wB : World} {bp T : Nat} {S : Nat → Value} (h : wB.rowIs bp 64 8 S) : PhC wB bp T S [] wB := ⟨h, fun i hi => by simp at hi, rfl, fun _ _ _ => rfl, rfl, rfl, rfl⟩

theorem PhC.make {wB w' : World} {bp T : Nat} {S : Nat → Value} {L : List (Nat × Value)} (h : PhC wB bp T S L w') (hbp : bp < wB.heap.size) (e j : Nat) (z : Value) :
    PhC wB bp T (upd S j (.slice (some ⟨w'.heap.size, 0, none⟩) T T)) (L ++ [(e, z)]) ((w'.alloc (.cells (madeCells #[z] T) e)).drew.setCell ⟨bp, j, none⟩ (.slice (some ⟨w'.heap.size, 0, none⟩) T T)) := by
  have hs := h.size
  refine ⟨((h.str.alloc _).drew.set j _).congr (fun i _ => rfl), fun i hi => ?_, by simp [hs]; omega, fun k h1 h2 => ?_, h.os, h.tape, h.output⟩
  · by_cases e1 : i < L.length
    · have := h.row i e1
      have e2 : (L ++ [(e, z)]).getD i (0, undef) = L.getD i (0, undef) := by simp [List.getD, List.getElem?_append_left e1]
      rw [e2]
      exact ((this.alloc _).drew).setOther (by simp; omega) _
    · have hi' : i = L.length := by simp at hi; omega
      subst hi'
      have e2 : (L ++ [(e, z)]).getD L.length (0, undef) = (e, z) := by simp [List.getD]
      rw [e2, ← hs]
      exact ((World.rowIs_made w' z T e).drew).setOther (by simp; omega) _
  · rw [Below.heap_setCell _ _ _ _ h2]
    show (w'.alloc _).heap[k]? = _
    rw [Below.heap_alloc _ _ _ (by omega)]
    exact h.old k h1 h2
end Go.Proofs.Qxb6602369a
