/-
  SEAT b6602369a. ROWS OF ROWS THAT GROW.
-/
import Derived.Test.Qxb6602369aRows
import Derived.WalkKit
import Derived.WalkSpells
import Derived.WalkLawsBesides
import Derived.BigQuiet
import Derived.WideShapes
import Derived.Deep.OwnRows
import Derived.Deep.AppendLies
namespace Go.Proofs.Qxb6602369a
open Go.RowKit

/-- A fact that no tactic looks into till it is opened. -/
def Hid (p : Prop) : Prop := p
theorem Hid.out {p : Prop} (h : Hid p) : p := h
theorem hid {p : Prop} (h : p) : Hid p := h

theorem cell_alloc {w : World} {p : Addr} {v : Value} (h : w.cell? p = some v) (o : Obj) : (w.alloc o).cell? p = some v := by
  rw [World.cell?_alloc_lt _ _ _ (World.block_lt_of_cell? w p h)]; exact h
theorem cell_set {w : World} {p q : Addr} {v : Value} (h : w.cell? p = some v) (hne : p.block ≠ q.block) (u : Value) : (w.setCell q u).cell? p = some v := by
  rw [World.cell?_of_block (w := w) (Below.heap_setCell _ _ _ _ hne)]; exact h
theorem frozen_alloc' {w : World} {p : Addr} (hlt : p.block < w.heap.size) (h : w.frozen? p = false) (o : Obj) : (w.alloc o).frozen? p = false := by
  rw [World.frozen?_of_block (w := w) (Below.heap_alloc _ _ _ hlt)]; exact h
theorem grown_frozen {w w' : World} {row : Option Nat} (hg : w.grownBy w' row) {p : Addr} (hlt : p.block < w.heap.size) (hne : some p.block ≠ row) (h : w.frozen? p = false) : w'.frozen? p = false := by
  rw [World.frozen?_of_block (w := w) (hg.block _ hlt hne)]; exact h

def nats (xs : List Nat) : List Value := xs.map (fun c => Value.int .i64 ((c : Nat) : Int))
def upd {α : Type} (f : Nat → α) (a : Nat) (v : α) : Nat → α := fun j => if j = a then v else f j
theorem upd_same {α : Type} (f : Nat → α) (a : Nat) (v : α) : upd f a v a = v := by simp [upd]
theorem upd_other {α : Type} (f : Nat → α) (a : Nat) (v : α) {j : Nat} (h : j ≠ a) : upd f a v j = f j := by simp [upd, h]

def Apart (u v : Value) : Prop := u.ownBlock = none ∨ u.ownBlock ≠ v.ownBlock
theorem Apart.symm {u v : Value} (h : Apart u v) : Apart v u := by
  rcases h with h | h
  · cases hv : v.ownBlock with
    | none => exact .inl hv
    | some k => exact .inr (by rw [hv, h]; simp)
  · exact .inr (fun e => h e.symm)

/-- Two rows of rows. -/
structure Jag (w : World) (base bN bM T : Nat) (N M : Nat → List Nat) (U V : Nat → Value) : Prop where
  needs : w.rowIs bN 28 T U
  by_ : w.rowIs bM 28 T V
  ne : bN ≠ bM
  ltN : bN < base
  ltM : bM < base
  ownN : ∀ i, i < T → w.ownsRow base 3 1 (U i) (N i).length (nats (N i))
  ownM : ∀ i, i < T → w.ownsRow base 3 1 (V i) (M i).length (nats (M i))
  apNN : ∀ i j, i < T → j < T → i ≠ j → Apart (U i) (U j)
  apMM : ∀ i j, i < T → j < T → i ≠ j → Apart (V i) (V j)
  apNM : ∀ i j, i < T → j < T → Apart (U i) (V j)
  sz : base ≤ w.heap.size

theorem Jag.swap {w : World} {base bN bM T : Nat} {N M : Nat → List Nat} {U V : Nat → Value} (h : Jag w base bN bM T N M U V) : Jag w base bM bN T M N V U :=
  ⟨h.by_, h.needs, h.ne.symm, h.ltM, h.ltN, h.ownM, h.ownN, h.apMM, h.apNN, fun i j hi hj => (h.apNM j i hj hi).symm, h.sz⟩
theorem Jag.drew {w : World} {base bN bM T : Nat} {N M : Nat → List Nat} {U V : Nat → Value} (h : Jag w base bN bM T N M U V) : Jag w.drew base bN bM T N M U V :=
  ⟨h.needs, h.by_, h.ne, h.ltN, h.ltM, h.ownN, h.ownM, h.apNN, h.apMM, h.apNM, h.sz⟩
theorem Jag.alloc {w : World} {base bN bM T : Nat} {N M : Nat → List Nat} {U V : Nat → Value} (h : Jag w base bN bM T N M U V) (o : Obj) : Jag (w.alloc o) base bN bM T N M U V :=
  ⟨h.needs.alloc o, h.by_.alloc o, h.ne, h.ltN, h.ltM, fun i hi => (h.ownN i hi).alloc o, fun i hi => (h.ownM i hi).alloc o, h.apNN, h.apMM, h.apNM, Nat.le_trans h.sz (by simp)⟩

/-- What the growth of the rows leaves alone. -/
structure Kept (base bN bM : Nat) (w w' : World) : Prop where
  os : w'.os = w.os
  tape : w'.tape = w.tape
  output : w'.output = w.output
  size : w.heap.size ≤ w'.heap.size
  low : ∀ k : Nat, k < base → k ≠ bN → k ≠ bM → w'.heap[k]? = w.heap[k]?
  other : ∀ (k : Nat) (c : Array Value) (t : TypeId) (f : Nat × Nat), w.heap[k]? = some (Obj.cells c t f) → t ≠ 3 → t ≠ 28 → w'.heap[k]? = some (Obj.cells c t f)

theorem Kept.refl (base bN bM : Nat) (w : World) : Kept base bN bM w w := ⟨rfl, rfl, rfl, Nat.le_refl _, fun _ _ _ _ => rfl, fun _ _ _ _ h _ _ => h⟩
theorem Kept.trans {base bN bM : Nat} {w w' w'' : World} (h : Kept base bN bM w w') (k : Kept base bN bM w' w'') : Kept base bN bM w w'' :=
  ⟨k.os.trans h.os, k.tape.trans h.tape, k.output.trans h.output, Nat.le_trans h.size k.size, fun i h1 h2 h3 => (k.low i h1 h2 h3).trans (h.low i h1 h2 h3), fun i c t f h0 h1 h2 => k.other i c t f (h.other i c t f h0 h1 h2) h1 h2⟩
theorem Kept.drew {base bN bM : Nat} {w w' : World} (h : Kept base bN bM w w') : Kept base bN bM w w'.drew := ⟨h.os, h.tape, h.output, h.size, h.low, h.other⟩
theorem Kept.drewN {base bN bM : Nat} {w w' : World} (h : Kept base bN bM w w') (n : Nat) : Kept base bN bM w (w'.drewN n) := ⟨h.os, h.tape, h.output, h.size, h.low, h.other⟩
theorem Kept.swap {base bN bM : Nat} {w w' : World} (h : Kept base bN bM w w') : Kept base bM bN w w' := ⟨h.os, h.tape, h.output, h.size, fun k h1 h2 h3 => h.low k h1 h3 h2, h.other⟩
theorem Kept.alloc {base bN bM : Nat} {w w' : World} (h : Kept base bN bM w w') (hB : base ≤ w'.heap.size) (o : Obj) : Kept base bN bM w (w'.alloc o) := by
  refine ⟨h.os, h.tape, h.output, Nat.le_trans h.size (by simp), fun k h1 h2 h3 => ?_, fun k c t f h0 h1 h2 => ?_⟩
  · rw [Below.heap_alloc _ _ _ (by omega)]; exact h.low k h1 h2 h3
  · have := h.other k c t f h0 h1 h2
    rw [Below.heap_alloc _ _ _ (Array.getElem?_eq_some_iff.1 this).1]; exact this

theorem own_type {w : World} {base e size n : Nat} {v : Value} {xs : List Value} (h : w.ownsRow base e size v n xs) {k : Nat} (hk : v.ownBlock = some k) : ∃ c, w.heap[k]? = some (Obj.cells c e (0, 0)) := by
  rcases h.2 with ⟨rfl, _⟩ | ⟨g, cap, cur, rfl, _, hg, _⟩
  · simp [Value.ownBlock] at hk
  · simp [Value.ownBlock] at hk
    subst hk
    exact ⟨cur, hg⟩

theorem Jag.push {w w2 : World} {base bN bM T : Nat} {N M : Nat → List Nat} {U V : Nat → Value} (h : Jag w base bN bM T N M U V) {a x g cap : Nat} {o : Obj} (ha : a < T)
    (hown : w2.ownsRow base 3 1 (.slice (some ⟨g, 0, none⟩) ((N a).length + 1) cap) ((N a).length + 1) (nats (N a) ++ [.int .i64 x]))
    (hgrow : (w.alloc o).grownBy w2 (U a).ownBlock) (hat : (U a).ownBlock = some g ∨ g = w.heap.size + 1) :
    Jag (w2.setCell ⟨bN, a, none⟩ (.slice (some ⟨g, 0, none⟩) ((N a).length + 1) cap)) base bN bM T (upd N a (N a ++ [x])) M (upd U a (.slice (some ⟨g, 0, none⟩) ((N a).length + 1) cap)) V ∧
    Kept base bN bM w (w2.setCell ⟨bN, a, none⟩ (.slice (some ⟨g, 0, none⟩) ((N a).length + 1) cap)) := by
  have hsz := h.sz
  have hltN := h.ltN
  have hltM := h.ltM
  have hgb : base ≤ g := (hown.lt g (by simp [Value.ownBlock])).1
  have hrow : ∀ k, (U a).ownBlock = some k → base ≤ k := fun k hk => ((h.ownN a ha).lt k hk).1
  have blk : ∀ k, k < w.heap.size → some k ≠ (U a).ownBlock → w2.heap[k]? = w.heap[k]? := fun k hk hne => by
    rw [hgrow.block k (by simp; omega) hne, Below.heap_alloc _ _ _ hk]
  have low : ∀ k, k < base → w2.heap[k]? = w.heap[k]? := fun k hk => blk k (by omega) (fun e => by have := hrow k e.symm; omega)
  have hne : ∀ v n xs, w2.ownsRow base 3 1 v n xs → v.ownBlock ≠ some bN := fun v n xs hv e => by have := (hv.lt bN e).1; omega
  have apX : ∀ v, Apart (U a) v → (∀ k, v.ownBlock = some k → k < w.heap.size) → Apart (.slice (some ⟨g, 0, none⟩) ((N a).length + 1) cap) v := by
    intro v hv hlt
    right
    intro e
    simp [Value.ownBlock] at e
    rcases hat with h1 | h1
    · rcases hv with h2 | h2
      · rw [h2] at h1; cases h1
      · exact h2 (by rw [h1]; exact e)
    · have := hlt g e.symm
      omega
  refine ⟨⟨?_, ?_, h.ne, h.ltN, h.ltM, ?_, ?_, ?_, h.apMM, ?_, ?_⟩, hgrow.os, hgrow.tape, hgrow.output, ?_, ?_, ?_⟩
  · exact (h.needs.of_block (low bN h.ltN)).set a _
  · exact (h.by_.of_block (low bM h.ltM)).setOther h.ne.symm _
  · intro i hi
    by_cases e : i = a
    · subst e
      rw [upd_same, upd_same]
      have := ownsRow_setCell_other hown (hne _ _ _ hown) (a := ⟨bN, i, none⟩) (.slice (some ⟨g, 0, none⟩) ((N i).length + 1) cap)
      simpa [nats] using this
    · rw [upd_other _ _ _ e, upd_other _ _ _ e]
      have hk := ((h.ownN i hi).alloc o).kept hgrow (h.apNN i a hi ha e)
      exact ownsRow_setCell_other hk (hne _ _ _ hk) _
  · intro i hi
    have hk := ((h.ownM i hi).alloc o).kept hgrow (h.apNM a i ha hi).symm
    exact ownsRow_setCell_other hk (hne _ _ _ hk) _
  · intro i j hi hj hij
    by_cases e : i = a
    · subst e
      rw [upd_same, upd_other _ _ _ hij.symm]
      exact apX _ (h.apNN i j hi hj hij) (fun k hk => ((h.ownN j hj).lt k hk).2)
    · rw [upd_other _ _ _ e]
      by_cases e2 : j = a
      · subst e2
        rw [upd_same]
        exact (apX _ (h.apNN j i hj hi (Ne.symm hij)) (fun k hk => ((h.ownN i hi).lt k hk).2)).symm
      · rw [upd_other _ _ _ e2]
        exact h.apNN i j hi hj hij
  · intro i j hi hj
    by_cases e : i = a
    · subst e
      rw [upd_same]
      exact apX _ (h.apNM i j hi hj) (fun k hk => ((h.ownM j hj).lt k hk).2)
    · rw [upd_other _ _ _ e]
      exact h.apNM i j hi hj
  · have := hgrow.size
    simp at this ⊢
    omega
  · have := hgrow.size
    simp at this ⊢
    omega
  · intro k h1 h2 h3
    rw [Below.heap_setCell _ _ _ _ h2]
    exact low k h1
  · intro k c t f h0 h1 h2
    have hk2 : k ≠ bN := by
      rintro rfl
      obtain ⟨c', hc', _⟩ := h.needs
      rw [hc'] at h0
      simp at h0
      exact h2 h0.2.1.symm
    rw [Below.heap_setCell _ _ _ _ hk2, blk k (Array.getElem?_eq_some_iff.1 h0).1 ?_]
    · exact h0
    · intro e
      obtain ⟨c', hc'⟩ := own_type (h.ownN a ha) e.symm
      rw [hc'] at h0
      simp at h0
      exact h1 h0.2.1.symm
end Go.Proofs.Qxb6602369a
