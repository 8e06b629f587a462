/-
  SEAT b6601938a. THE TRANSACTIONS IN THEIR ARRAYS OF 1024, in memory.
-/
import Derived.Test.Qxb6601938aMapInt
import Derived.Deep.AppendLies
namespace Go.Proofs.Qxb6601938a
open Go.RowKit Go.Maps

namespace Claims

/-- A pairedTxn as the law makes it: seven cells. -/
structure Tx where
  id : Int
  at_ : Int
  comp : Int
  inv : Int

def Tx.cells (x : Tx) : List Value := [.int .i64 x.id, .int .u8 0, .int .i64 0, .slice none 0 0, .int .i64 x.at_, .int .i64 x.comp, .int .i64 x.inv]
def tx0 : Tx := ⟨0, 0, 0, 0⟩

def chunk (b : Nat) : Value := .slice (some ⟨b, 0, none⟩) 1024 1024

/-- The transactions txs lie in the arrays Bs, which the slice value av leads to. -/
structure TxMem (w : World) (base : Nat) (av : Value) (Bs : List Nat) (txs : List Tx) : Prop where
  row : w.ownsRow base 62 1 av Bs.length (Bs.map chunk)
  nodup : Bs.Nodup
  lo : ∀ b ∈ Bs, base ≤ b
  blk : ∀ b ∈ Bs, ∃ C : Array Value, w.heap[b]? = some (.cells C 60 (0, 0)) ∧ C.size = 7168
  cover : txs.length ≤ Bs.length * 1024
  txs : ∀ u, u < txs.length → w.rangeAt (Bs.getD (u / 1024) 0) (u % 1024 * 7) (txs.getD u tx0).cells

variable {S : Nat → Prop} {w w' : World} {base : Nat} {av : Value} {Bs : List Nat} {txs : List Tx}

theorem getD_mem {l : List Nat} {i d : Nat} (h : i < l.length) : l.getD i d ∈ l := by
  simp only [List.getD, List.getElem?_eq_getElem h, Option.getD_some]
  exact List.getElem_mem h

theorem blkAt {Bs : List Nat} {u : Nat} (hu : u < Bs.length * 1024) : Bs.getD (u / 1024) 0 ∈ Bs := getD_mem (by omega)

theorem TxMem.lt (h : TxMem w base av Bs txs) {b : Nat} (hb : b ∈ Bs) : b < w.heap.size := by
  obtain ⟨C, hC, _⟩ := h.blk b hb
  exact (Array.getElem?_eq_some_iff.1 hC).1

/-- What is changed is none of it: below its base, or a map. -/
def Off (w : World) (base : Nat) (S : Nat → Prop) : Prop := ∀ b, S b → b < base ∨ ∃ es c, w.heap[b]? = some (.map es c)

theorem Off.cells {b : Nat} {C : Array Value} {t : TypeId} {fr : Nat × Nat} (h : Off w base S) (hb : base ≤ b) (hc : w.heap[b]? = some (.cells C t fr)) : ¬ S b := fun e => by
  rcases h b e with h1 | ⟨es, c, h1⟩
  · omega
  · rw [hc] at h1; cases h1

theorem TxMem.kept (h : TxMem w base av Bs txs) (hk : KeptBut S w w') (ho : Off w base S) : TxMem w' base av Bs txs := by
  refine ⟨hk.ownsRow h.row (fun g hg => ?_), h.nodup, h.lo, fun b hb => ?_, h.cover, fun u hu => ?_⟩
  · rcases h.row.2 with ⟨rfl, _⟩ | ⟨g', cap, cur, rfl, hb, hg', _⟩
    · cases hg
    · have : g' = g := by simpa [Value.ownBlock] using hg
      subst this
      exact ho.cells hb hg'
  · obtain ⟨C, hC, hs⟩ := h.blk b hb
    exact ⟨C, by rw [hk.block b (h.lt hb) (ho.cells (h.lo b hb) hC)]; exact hC, hs⟩
  · have hm := blkAt (Bs := Bs) (u := u) (by have := h.cover; omega)
    obtain ⟨C, hC, _⟩ := h.blk _ hm
    exact hk.range (h.txs u hu) (h.lt hm) (ho.cells (h.lo _ hm) hC)

theorem TxMem.alloc (h : TxMem w base av Bs txs) (o : Obj) : TxMem (w.alloc o) base av Bs txs :=
  h.kept (S := fun _ => False) ((KeptBut.refl _ _).alloc o) (fun _ e => e.elim)

theorem TxMem.start (w : World) (base : Nat) : TxMem w base (.slice none 0 0) [] [] :=
  ⟨World.ownsRow_nil _ _ _ _, List.nodup_nil, fun b hb => absurd hb (by simp), fun b hb => absurd hb (by simp), by simp, fun u hu => absurd hu (by simp)⟩

/-- The slice of arrays as a value; its elements. -/
theorem TxMem.form (h : TxMem w base av Bs txs) (hpos : 0 < Bs.length) : ∃ g cap, av = .slice (some ⟨g, 0, none⟩) Bs.length cap ∧ base ≤ g ∧ g < w.heap.size ∧ ∀ j, j < Bs.length → w.cell? ⟨g, j, none⟩ = some (chunk (Bs.getD j 0)) := by
  rcases h.row.2 with ⟨_, h0⟩ | ⟨g, cap, cur, hv, hb, hg, _, _, hcs, ht⟩
  · omega
  · refine ⟨g, cap, hv, hb, (Array.getElem?_eq_some_iff.1 hg).1, fun j hj => ?_⟩
    rw [cell_of_row w g j cur 62 (0, 0) hg]
    have e1 : (Bs.map chunk)[j]? = some (chunk (Bs.getD j 0)) := by simp [List.getD, hj]
    rw [← ht, List.getElem?_take] at e1
    split at e1
    · simpa using e1
    · cases e1

/-- Room for the transaction at place u. -/
theorem TxMem.there (h : TxMem w base av Bs txs) {u : Nat} (hu : u < Bs.length * 1024) : w.there (Bs.getD (u / 1024) 0) (u % 1024 * 7) 7 := by
  obtain ⟨C, hC, hs⟩ := h.blk _ (blkAt hu)
  intro j hj
  refine ⟨?_, ?_⟩
  · rw [cell_of_row w _ _ C 60 (0, 0) hC]
    have : u % 1024 * 7 + j < C.size := by omega
    simp [this]
  · unfold World.frozen?
    dsimp only
    rw [hC]
    rfl

/-- A block of cells that is written stays one, as large. -/
theorem heap_setCells {b : Nat} {t : TypeId} : ∀ (vs : List Value) (o : Nat) (w : World) (C : Array Value), w.heap[b]? = some (.cells C t (0, 0)) → ∃ C', (w.setCells b o vs).heap[b]? = some (.cells C' t (0, 0)) ∧ C'.size = C.size
  | [], _, _, C, h => ⟨C, h, rfl⟩
  | v :: r, o, w, C, h => by
    rw [World.setCells]
    obtain ⟨C', h1, h2⟩ := heap_setCells (b := b) (t := t) r (o + 1) (w.setCell ⟨b, o, none⟩ v) (C.setIfInBounds o v) (by simp [World.setCell, Array.getElem?_modify, h])
    exact ⟨C', h1, by simpa using h2⟩

/-- A transaction is laid anew at place u, or the next one at the first free place. -/
theorem TxMem.set (h : TxMem w base av Bs txs) {u : Nat} (hu : u < Bs.length * 1024) (x : Tx) {txs' : List Tx} (hlen : u < txs'.length) (hc : txs'.length ≤ Bs.length * 1024)
    (hx : txs'.getD u tx0 = x) (ho : ∀ v, v < txs'.length → v ≠ u → txs'.getD v tx0 = txs.getD v tx0 ∧ v < txs.length) :
    TxMem (w.setCells (Bs.getD (u / 1024) 0) (u % 1024 * 7) x.cells) base av Bs txs' := by
  have hm := blkAt hu
  obtain ⟨C, hC, hs⟩ := h.blk _ hm
  have hk : KeptBut (fun b => b = Bs.getD (u / 1024) 0) w (w.setCells (Bs.getD (u / 1024) 0) (u % 1024 * 7) x.cells) := KeptBut.setCells _ _ (KeptBut.refl _ _) (.inr rfl)
  have e7 : x.cells.length = 7 := rfl
  refine ⟨hk.ownsRow h.row (fun g hg e => ?_), h.nodup, h.lo, fun b hb => ?_, hc, fun v hv => ?_⟩
  · rcases h.row.2 with ⟨rfl, _⟩ | ⟨g', cap, cur, rfl, hb, hg', _⟩
    · cases hg
    · have : g' = g := by simpa [Value.ownBlock] using hg
      subst this
      rw [e, hC] at hg'
      cases hg'
  · obtain ⟨C', hC', hs'⟩ := h.blk b hb
    by_cases e : b = Bs.getD (u / 1024) 0
    · subst e
      obtain ⟨C2, h1, h2⟩ := heap_setCells x.cells (u % 1024 * 7) w C' hC'
      exact ⟨C2, h1, by omega⟩
    · exact ⟨C', by rw [hk.block b (h.lt hb) e]; exact hC', hs'⟩
  · by_cases e : v = u
    · subst e
      rw [hx]
      exact World.rangeAt_setCells_same _ _ _ _ (by rw [e7]; exact h.there hu)
    · obtain ⟨e1, hv1⟩ := ho v hv e
      rw [e1]
      refine World.rangeAt_setCells_apart (h.txs v hv1) _ _ _ ?_
      have e7' : (txs.getD v tx0).cells.length = 7 := rfl
      rw [e7, e7']
      by_cases eb : v / 1024 = u / 1024
      · right; omega
      · left
        intro heq
        have h1 : v / 1024 < Bs.length := by have := h.cover; omega
        have h2 : u / 1024 < Bs.length := by omega
        simp only [List.getD, List.getElem?_eq_getElem h1, List.getElem?_eq_getElem h2, Option.getD_some] at heq
        rcases Nat.lt_or_gt_of_ne eb with hlt | hgt
        · exact (List.pairwise_iff_getElem.1 h.nodup _ _ h1 h2 hlt) heq
        · exact (List.pairwise_iff_getElem.1 h.nodup _ _ h2 h1 hgt) heq.symm

/-- A new array behind the others. -/
theorem TxMem.push {w1 w2 : World} {g cap : Nat} {C : Array Value} {B : Nat} (h : TxMem w base av Bs txs) (hw : KeptBut (fun _ => False) w w1) (hB : w.heap.size ≤ B) (hC : w1.heap[B]? = some (.cells C 60 (0, 0))) (hCs : C.size = 7168) (hfull : txs.length = Bs.length * 1024)
    (hown : w2.ownsRow base 62 1 (.slice (some ⟨g, 0, none⟩) (Bs.length + 1) cap) (Bs.length + 1) (Bs.map chunk ++ [chunk B])) (hgrow : w1.grownBy w2 av.ownBlock) (hbase : base ≤ w.heap.size) :
    TxMem w2 base (.slice (some ⟨g, 0, none⟩) (Bs.length + 1) cap) (Bs ++ [B]) txs := by
  have hk : KeptBut (fun b => av.ownBlock = some b) w1 w2 := ⟨hgrow.os, hgrow.tape, hgrow.output, hgrow.size, fun k hk hs => hgrow.block k hk (fun e => hs e.symm)⟩
  have hav : ∀ b, av.ownBlock = some b → ∃ cur, w1.heap[b]? = some (.cells cur 62 (0, 0)) := by
    intro b hb
    rcases h.row.2 with ⟨rfl, _⟩ | ⟨g', cap', cur, rfl, _, hg', _⟩
    · cases hb
    · have : g' = b := by simpa [Value.ownBlock] using hb
      subst this
      exact ⟨cur, by rw [hw.block g' (Array.getElem?_eq_some_iff.1 hg').1 (fun e => e)]; exact hg'⟩
  have far : ∀ (b : Nat) (C : Array Value), w1.heap[b]? = some (Obj.cells C 60 (0, 0)) → w2.heap[b]? = some (Obj.cells C 60 (0, 0)) := by
    intro b C hb
    rw [hk.block b (Array.getElem?_eq_some_iff.1 hb).1 (fun e => ?_)]
    · exact hb
    · obtain ⟨cur, hcur⟩ := hav b e
      rw [hb] at hcur
      cases hcur
  have hnew : B ∉ Bs := fun e => by have := h.lt e; omega
  refine ⟨by simpa [chunk] using hown, ?_, ?_, ?_, ?_, ?_⟩
  · rw [List.nodup_append]
    exact ⟨h.nodup, by simp, fun a ha b hb => by simp at hb; subst hb; exact fun e => hnew (e ▸ ha)⟩
  · intro b hb
    simp only [List.mem_append, List.mem_singleton] at hb
    rcases hb with hb | rfl
    · exact h.lo b hb
    · omega
  · intro b hb
    simp only [List.mem_append, List.mem_singleton] at hb
    rcases hb with hb | rfl
    · obtain ⟨C', hC', hs'⟩ := h.blk b hb
      exact ⟨C', far b C' (by rw [hw.block b (h.lt hb) (fun e => e)]; exact hC'), hs'⟩
    · exact ⟨C, far b C hC, hCs⟩
  · simp; omega
  · intro u hu
    have e1 : (Bs ++ [B]).getD (u / 1024) 0 = Bs.getD (u / 1024) 0 := by
      simp only [List.getD]
      rw [List.getElem?_append_left (by omega)]
    rw [e1]
    have hm := blkAt (Bs := Bs) (u := u) (by omega)
    obtain ⟨C', hC', _⟩ := h.blk _ hm
    have hC1 : w1.heap[Bs.getD (u / 1024) 0]? = some (.cells C' 60 (0, 0)) := by rw [hw.block _ (h.lt hm) (fun e => e)]; exact hC'
    intro j v hv
    have := h.txs u hu j v hv
    have e2 : w2.cell? ⟨Bs.getD (u / 1024) 0, u % 1024 * 7 + j, none⟩ = w.cell? ⟨Bs.getD (u / 1024) 0, u % 1024 * 7 + j, none⟩ := World.cell?_of_block ((far _ C' hC1).trans hC'.symm)
    rw [e2]
    exact this

end Claims
end Go.Proofs.Qxb6601938a
