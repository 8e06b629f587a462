/-
  SEAT b6601938a. The state of FnClaimActsAsAnOwnershipMap's loop, and what each way of a round does to it.
-/
import Derived.Test.Qxb6601938aClaim
namespace Go.Proofs.Qxb6601938a
open Go.RowKit Go.Maps

namespace Claims

/-! ### Plain: lists -/
theorem getD_append_lt {α : Type} (l : List α) (x d : α) {u : Nat} (h : u < l.length) : (l ++ [x]).getD u d = l.getD u d := by
  simp only [List.getD]
  rw [List.getElem?_append_left h]
theorem getD_append_at {α : Type} (l : List α) (x d : α) : (l ++ [x]).getD l.length d = x := by
  simp [List.getD]
theorem getD_set_at {α : Type} (l : List α) (x d : α) {u : Nat} (h : u < l.length) : (l.set u x).getD u d = x := by
  simp [List.getD, h]
theorem getD_set_ne {α : Type} (l : List α) (x d : α) {u v : Nat} (h : v ≠ u) : (l.set u x).getD v d = l.getD v d := by
  simp only [List.getD]
  rw [List.getElem?_set_ne (fun e => h e.symm)]

/-! ### Plain: the owners -/
theorem fits_push {f : Int → Option Int} {txs : List Tx} (h : Fits f txs) {x i : Int} (hf : f x = none) : Fits (upd f x txs.length) (txs ++ [⟨x, i, 0, x⟩]) := by
  intro y hy u
  unfold upd
  by_cases e : y = x
  · rw [if_pos e]
    constructor
    · intro q
      have q' : (txs.length : Int) = u := by simpa using q
      exact ⟨txs.length, q', by simp, .inl (by rw [getD_append_at]; exact e.symm)⟩
    · rintro ⟨k, hk, hl, hd⟩
      by_cases ek : k = txs.length
      · subst ek; rw [hk]
      · have hlt : k < txs.length := by simp at hl; omega
        rw [getD_append_lt _ _ _ hlt] at hd
        have := (h y hy k).2 ⟨k, rfl, hlt, hd⟩
        rw [e, hf] at this
        cases this
  · rw [if_neg e, h y hy u]
    constructor
    · rintro ⟨k, hk, hl, hd⟩
      exact ⟨k, hk, by simp; omega, by rw [getD_append_lt _ _ _ hl]; exact hd⟩
    · rintro ⟨k, hk, hl, hd⟩
      by_cases ek : k = txs.length
      · subst ek
        rw [getD_append_at] at hd
        rcases hd with h1 | ⟨h1, _⟩
        · exact absurd h1.symm e
        · exact absurd h1 (Int.lt_irrefl 0)
      · have hlt : k < txs.length := by simp at hl; omega
        rw [getD_append_lt _ _ _ hlt] at hd
        exact ⟨k, hk, hlt, hd⟩

theorem fits_set {f : Int → Option Int} {txs : List Tx} (h : Fits f txs) {x i a : Int} {t : Nat} (ht : t < txs.length) (hf : f x = none) (hc : (txs.getD t tx0).comp ≤ 0) (hi : 0 < i) :
    Fits (upd f x t) (txs.set t ⟨x, a, i, (txs.getD t tx0).inv⟩) := by
  intro y hy u
  unfold upd
  by_cases e : y = x
  · rw [if_pos e]
    constructor
    · intro q
      have q' : (t : Int) = u := by simpa using q
      exact ⟨t, q', by simpa using ht, .inr (by rw [getD_set_at _ _ _ ht]; exact ⟨hi, e.symm⟩)⟩
    · rintro ⟨k, hk, hl, hd⟩
      have hl' : k < txs.length := by simpa using hl
      by_cases ek : k = t
      · subst ek; rw [hk]
      · rw [getD_set_ne _ _ _ ek] at hd
        have := (h y hy k).2 ⟨k, rfl, hl', hd⟩
        rw [e, hf] at this
        cases this
  · rw [if_neg e, h y hy u]
    constructor
    · rintro ⟨k, hk, hl, hd⟩
      refine ⟨k, hk, by simpa using hl, ?_⟩
      by_cases ek : k = t
      · subst ek
        rw [getD_set_at _ _ _ hl]
        rcases hd with h1 | ⟨h1, _⟩
        · exact .inl h1
        · omega
      · rw [getD_set_ne _ _ _ ek]; exact hd
    · rintro ⟨k, hk, hl, hd⟩
      have hl' : k < txs.length := by simpa using hl
      refine ⟨k, hk, hl', ?_⟩
      by_cases ek : k = t
      · subst ek
        rw [getD_set_at _ _ _ hl'] at hd
        rcases hd with h1 | ⟨_, h1⟩
        · exact .inl h1
        · exact absurd h1.symm e
      · rw [getD_set_ne _ _ _ ek] at hd; exact hd

/-- What holds of the plain state. -/
structure Facts (k : Nat) (txs : List Tx) (opn : List Bool) (f : Int → Option Int) (Bs : List Nat) : Prop where
  le : txs.length ≤ k
  rng : ∀ x, I64 x → ∀ u, f x = some u → ∃ j : Nat, (j : Int) = u ∧ j < txs.length
  wf : ∀ u, u < txs.length → I64 (txs.getD u tx0).inv ∧ I64 (txs.getD u tx0).id
  op : ∀ u, u < txs.length → opn.getD u false = true → (txs.getD u tx0).comp ≤ 0
  oplen : opn.length = txs.length
  tight : Bs.length * 1024 < txs.length + 1024

theorem Facts.next {k : Nat} {txs : List Tx} {opn : List Bool} {f : Int → Option Int} {Bs : List Nat} (h : Facts k txs opn f Bs) : Facts (k + 1) txs opn f Bs :=
  ⟨Nat.le_succ_of_le h.le, h.rng, h.wf, h.op, h.oplen, h.tight⟩

theorem Facts.push {k : Nat} {txs : List Tx} {opn : List Bool} {f : Int → Option Int} {Bs Bs' : List Nat} (h : Facts k txs opn f Bs) {x i : Int} (hx : I64 x) (ht : Bs'.length * 1024 < txs.length + 1 + 1024) :
    Facts (k + 1) (txs ++ [⟨x, i, 0, x⟩]) (opn ++ [true]) (upd f x txs.length) Bs' := by
  have hle := h.le
  refine ⟨by simp; omega, fun y hy u hu => ?_, fun u hu => ?_, fun u hu ho => ?_, by simp [h.oplen], by simpa using ht⟩
  · unfold upd at hu
    split at hu
    · exact ⟨txs.length, by simpa using hu, by simp⟩
    · obtain ⟨j, h1, h2⟩ := h.rng y hy u hu
      exact ⟨j, h1, by simp; omega⟩
  · by_cases e : u = txs.length
    · subst e
      rw [getD_append_at]
      exact ⟨hx, hx⟩
    · have hlt : u < txs.length := by simp at hu; omega
      rw [getD_append_lt _ _ _ hlt]
      exact h.wf u hlt
  · by_cases e : u = txs.length
    · subst e
      rw [getD_append_at]
      exact Int.le_refl _
    · have hlt : u < txs.length := by simp at hu; omega
      rw [getD_append_lt _ _ _ (by rw [h.oplen]; exact hlt)] at ho
      rw [getD_append_lt _ _ _ hlt]
      exact h.op u hlt ho

theorem Facts.put {k : Nat} {txs : List Tx} {opn : List Bool} {f g : Int → Option Int} {Bs : List Nat} (h : Facts k txs opn f Bs) {x a i : Int} (hx : I64 x) {t : Nat} (ht : t < txs.length) (hg : ∀ y, I64 y → ∀ u, g y = some u → f y = some u ∨ u = t) :
    Facts (k + 1) (txs.set t ⟨x, a, i, (txs.getD t tx0).inv⟩) (opn.set t false) g Bs := by
  have hle := h.le
  refine ⟨by simp; omega, fun y hy u hu => ?_, fun u hu => ?_, fun u hu ho => ?_, by simp [h.oplen], by simpa using h.tight⟩
  · rcases hg y hy u hu with h1 | h1
    · obtain ⟨j, h2, h3⟩ := h.rng y hy u h1
      exact ⟨j, h2, by simpa using h3⟩
    · exact ⟨t, h1.symm, by simpa using ht⟩
  · have hlt : u < txs.length := by simpa using hu
    by_cases e : u = t
    · subst e
      rw [getD_set_at _ _ _ hlt]
      exact ⟨(h.wf u hlt).1, hx⟩
    · rw [getD_set_ne _ _ _ e]
      exact h.wf u hlt
  · have hlt : u < txs.length := by simpa using hu
    by_cases e : u = t
    · subst e
      rw [getD_set_at _ _ _ (by rw [h.oplen]; exact hlt)] at ho
      cases ho
    · rw [getD_set_ne _ _ _ e] at ho
      rw [getD_set_ne _ _ _ e]
      exact h.op u hlt ho

/-! ### Memory -/
structure Mem (w : World) (len : Nat) (av : Value) (txs : List Tx) (opn : List Bool) (f : Int → Option Int) (Bs : List Nat) (n2 : Nat) (wr : World) : Prop where
  tx : TxMem wr (w.heap.size + 4) av Bs txs
  opn : wr.ownsRow (w.heap.size + 1) 4 1 (.slice (some ⟨w.heap.size + 1, 0, none⟩) txs.length len) txs.length (opn.map Value.bool)
  inv : wr.ownsRow (w.heap.size + 2) 2 1 (.slice (some ⟨w.heap.size + 2, 0, none⟩) txs.length len) txs.length (txs.map fun t => .int .i64 t.inv)
  own : MapInt wr (w.heap.size + 3) n2 f
  below : Below w.heap.size w wr
  size : w.heap.size + 4 ≤ wr.heap.size

variable {w wr w' : World} {len n2 : Nat} {av : Value} {txs : List Tx} {opn : List Bool} {f : Int → Option Int} {Bs : List Nat} {S : Nat → Prop}

/-- What a claim, a new block .. may change. -/
def Free (w wr : World) (S : Nat → Prop) : Prop := ∀ b, S b → b = w.heap.size ∨ (w.heap.size + 4 ≤ b ∧ ∃ es c, wr.heap[b]? = some (.map es c))

theorem Mem.kept (h : Mem w len av txs opn f Bs n2 wr) (hk : KeptBut S wr w') (hf : Free w wr S) : Mem w len av txs opn f Bs n2 w' := by
  have hs := h.size
  refine ⟨h.tx.kept hk (fun b e => ?_), hk.ownsRow h.opn (fun g hg e => ?_), hk.ownsRow h.inv (fun g hg e => ?_), h.own.kept hk (fun e => ?_), h.below.trans (hk.below (by omega) (fun b hb e => ?_)), by have := hk.size; omega⟩
  · rcases hf b e with h1 | ⟨_, h1⟩
    · left; omega
    · exact .inr h1
  · have : g = w.heap.size + 1 := by simpa [Value.ownBlock] using hg.symm
    rcases hf g e with h1 | ⟨h1, _⟩ <;> omega
  · have : g = w.heap.size + 2 := by simpa [Value.ownBlock] using hg.symm
    rcases hf g e with h1 | ⟨h1, _⟩ <;> omega
  · rcases hf _ e with h1 | ⟨h1, _⟩ <;> omega
  · rcases hf b e with h1 | ⟨h1, _⟩ <;> omega

theorem Mem.alloc (h : Mem w len av txs opn f Bs n2 wr) (o : Obj) : Mem w len av txs opn f Bs n2 (wr.alloc o) :=
  h.kept (S := fun _ => False) ((KeptBut.refl _ _).alloc o) (fun _ e => e.elim)
theorem Mem.drew (h : Mem w len av txs opn f Bs n2 wr) : Mem w len av txs opn f Bs n2 wr.drew :=
  h.kept (S := fun _ => False) ((KeptBut.refl _ _).drew) (fun _ e => e.elim)

/-- The owners' map is written. -/
theorem Mem.owner {g : Int → Option Int} {m2 : Nat} (h : Mem w len av txs opn f Bs n2 wr) (hm : MapInt w' (w.heap.size + 3) m2 g) (hk : KeptBut (fun b => b = w.heap.size + 3) wr w') : Mem w len av txs opn g Bs m2 w' := by
  have hs := h.size
  refine ⟨h.tx.kept hk (fun b e => .inl (by omega)), hk.ownsRow h.opn (fun g hg e => ?_), hk.ownsRow h.inv (fun g hg e => ?_), hm, h.below.trans (hk.below (by omega) (fun b hb e => by omega)), by have := hk.size; omega⟩
  · have : g = w.heap.size + 1 := by simpa [Value.ownBlock] using hg.symm
    omega
  · have : g = w.heap.size + 2 := by simpa [Value.ownBlock] using hg.symm
    omega

end Claims
end Go.Proofs.Qxb6601938a
