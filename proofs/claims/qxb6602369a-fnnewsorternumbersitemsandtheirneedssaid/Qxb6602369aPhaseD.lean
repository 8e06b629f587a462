/-
  SEAT b6602369a. WHILE THE EDGES ARE ADDED.
-/
import Derived.Test.Qxb6602369aPhase
import Derived.Test.Qxb6602369aAdd
namespace Go.Proofs.Qxb6602369a
open Go.RowKit

/-- The sorter when its rows are made. -/
structure Bas (w x : World) (n T bN : Nat) (S : Nat → Value) (F : Nat → Nat) : Prop where
  below : Below w.heap.size w x
  var : x.rowIs (w.heap.size + 2) 61 1 (fun _ => .pointer (some ⟨w.heap.size + 1, 0, none⟩))
  str : x.rowIs (w.heap.size + 1) 64 8 S
  fst : x.rowIs w.heap.size 3 n (fun j => .int .i64 ((F j : Nat) : Int))
  hb : w.heap.size + 3 ≤ bN
  size : x.heap.size = bN + 5

structure PhD (x : World) (T bN : Nat) (E : List (Nat × Nat)) (wr : World) : Prop where
  kept : Kept (bN + 5) bN (bN + 1) x wr
  jag : ∃ U V, Jag wr (bN + 5) bN (bN + 1) T (nb E) (mb E) U V

theorem PhD.alloc {x wr : World} {T bN : Nat} {E : List (Nat × Nat)} (h : PhD x T bN E wr) (o : Obj) : PhD x T bN E (wr.alloc o) := by
  obtain ⟨U, V, hJ⟩ := h.jag
  exact ⟨h.kept.alloc hJ.sz o, U, V, hJ.alloc o⟩
theorem Jag.drewN {w : World} {base bN bM T : Nat} {N M : Nat → List Nat} {U V : Nat → Value} (h : Jag w base bN bM T N M U V) (k : Nat) : Jag (w.drewN k) base bN bM T N M U V :=
  ⟨h.needs, h.by_, h.ne, h.ltN, h.ltM, h.ownN, h.ownM, h.apNN, h.apMM, h.apNM, h.sz⟩
theorem PhD.drewN {x wr : World} {T bN : Nat} {E : List (Nat × Nat)} (h : PhD x T bN E wr) (k : Nat) : PhD x T bN E (wr.drewN k) := by
  obtain ⟨U, V, hJ⟩ := h.jag
  exact ⟨h.kept.drewN k, U, V, hJ.drewN k⟩

theorem Bas.blk {w x wr : World} {n T bN : Nat} {S : Nat → Value} {F : Nat → Nat} (h : Bas w x n T bN S F) (k : Kept (bN + 5) bN (bN + 1) x wr) {q : Nat} (hq : q < w.heap.size + 3) : wr.heap[q]? = x.heap[q]? :=
  have := h.hb
  k.low q (by omega) (by omega) (by omega)
theorem Bas.below' {w x wr : World} {n T bN : Nat} {S : Nat → Value} {F : Nat → Nat} (h : Bas w x n T bN S F) (k : Kept (bN + 5) bN (bN + 1) x wr) : Below w.heap.size w wr :=
  h.below.trans ⟨k.os, k.tape, k.output, k.size, fun q hq => h.blk k (by omega)⟩
theorem Bas.srt {w x wr : World} {n T bN : Nat} {S : Nat → Value} {F : Nat → Nat} (h : Bas w x n T bN S F) (k : Kept (bN + 5) bN (bN + 1) x wr) : Srt wr (w.heap.size + 2) (w.heap.size + 1) S :=
  ⟨(h.var.of_block (h.blk k (by omega))).cell (i := 0) (by omega), h.str.of_block (h.blk k (by omega))⟩
theorem Bas.fst' {w x wr : World} {n T bN : Nat} {S : Nat → Value} {F : Nat → Nat} (h : Bas w x n T bN S F) (k : Kept (bN + 5) bN (bN + 1) x wr) : wr.rowIs w.heap.size 3 n (fun j => .int .i64 ((F j : Nat) : Int)) :=
  h.fst.of_block (h.blk k (by omega))

theorem addD {w x wr : World} {n T bN : Nat} {S : Nat → Value} {F : Nat → Nat} (h : Bas w x n T bN S F) (hN : S 2 = .slice (some ⟨bN, 0, none⟩) T T) (hM : S 3 = .slice (some ⟨bN + 1, 0, none⟩) T T) {E : List (Nat × Nat)} (hD : PhD x T bN E wr) (a b : Nat) (ha : a < T) (hb : b < T) (hE : E.length ≤ 1048576) :
    Calls Try.prog 45 #[.int .i64 a, .int .i64 b, .pointer (some ⟨w.heap.size + 2, 0, none⟩)] wr fun e w' => e = .returned (.tuple #[]) ∧ PhD x T bN (E ++ [(a, b)]) w' ∧ Kept (bN + 5) bN (bN + 1) wr w' := by
  obtain ⟨U, V, hJ⟩ := hD.jag
  have := h.hb
  refine (add_any wr (bN + 5) bN (bN + 1) T (nb E) (mb E) U V (w.heap.size + 2) (w.heap.size + 1) S a b hJ (h.srt hD.kept) hN hM (by omega) (by omega) (by omega) (by omega) (by omega) (by omega) ha hb (Nat.le_trans (nb_length _ _) hE) (Nat.le_trans (mb_length _ _) hE)).mono ?_
  rintro e w' ⟨rfl, ⟨U', V', hJ'⟩, hk⟩
  rw [nb_push, mb_push] at hJ'
  exact ⟨rfl, ⟨hD.kept.trans hk, U', V', hJ'⟩, hk⟩

theorem itemD {w x wr : World} {n T bN : Nat} {S : Nat → Value} {F : Nat → Nat} (h : Bas w x n T bN S F) (hF : S 0 = .slice (some ⟨w.heap.size, 0, none⟩) n n) {E : List (Nat × Nat)} (hD : PhD x T bN E wr) (q p : Nat) (hq : q < n) (hb : F q + p ≤ 1048576) :
    Calls Try.prog 44 #[.agg #[.int .i64 q, .int .i64 p], .pointer (some ⟨w.heap.size + 2, 0, none⟩)] wr fun e w' => e = .returned (.int .i64 ((F q + p : Nat) : Int)) ∧ PhD x T bN E w' ∧ Kept (bN + 5) bN (bN + 1) wr w' := by
  obtain ⟨U, V, hJ⟩ := hD.jag
  refine (item_any wr (w.heap.size + 2) (w.heap.size + 1) S w.heap.size n F q p (h.srt hD.kept) hF (h.fst' hD.kept) hq hb).mono ?_
  rintro e w' ⟨rfl, k, rfl⟩
  exact ⟨rfl, (hD.alloc _).drewN k, ((Kept.refl _ _ _ _).alloc hJ.sz _).drewN k⟩

/-- What the making leaves. -/
theorem PhC.jag {wB w' : World} {bp T : Nat} {S : Nat → Value} (h : PhC wB bp T S [(28, .slice none 0 0), (28, .slice none 0 0), (3, .int .i64 0), (3, .int .i64 0), (4, .bool false)] w') : PhD w' T wB.heap.size [] w' := by
  have hs := h.size
  refine ⟨Kept.refl _ _ _ _, fun _ => .slice none 0 0, fun _ => .slice none 0 0, h.row 0 (by simp), h.row 1 (by simp), by omega, by omega, by omega, fun i _ => World.ownsRow_nil _ _ _ _, fun i _ => World.ownsRow_nil _ _ _ _, fun i j _ _ _ => .inl rfl, fun i j _ _ _ => .inl rfl, fun i j _ _ => .inl rfl, ?_⟩
  simp at hs
  omega

theorem Bas.of {w wB w' : World} {n T : Nat} {rv : Value} {R : List (Nat × Nat)} {F : Nat → Nat} {S : Nat → Value} {L : List (Nat × Value)} (h : PhB w wB n rv R F) (k : PhC wB (w.heap.size + 1) T S L w') (hL : L.length = 5) : Bas w w' n T wB.heap.size S F := by
  have hs := h.sz
  have ks := k.size
  refine ⟨h.below.trans ⟨k.os, k.tape, k.output, by omega, fun q hq => k.old q (by omega) (by omega)⟩, h.var.of_block (k.old _ (by omega) (by omega)), k.str, h.fst.of_block (k.old _ (by omega) (by omega)), hs, by omega⟩
end Go.Proofs.Qxb6602369a
