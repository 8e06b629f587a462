/-
  SEAT b6601938a. 'Rows.FnClaimActsAsAnOwnershipMapSaid': a round's states between the claim and its end.
-/
import Derived.Test.Qxb6601938aClaimEnd
namespace Go.Proofs.Qxb6601938a
open Go.RowKit Go.Maps

namespace Claims

/-- Behind the write into the law's own map. -/
structure Stored (w : World) (len k B0 : Nat) (av : Value) (txs : List Tx) (opn : List Bool) (f : Int → Option Int) (Bs : List Nat) (n2 : Nat) (idx t : Int) (cmp : Bool) (txn : Int) (w3 : World) : Prop where
  mem : Mem w len av txs opn (after f idx t) Bs n2 w3
  st : ∃ m' n' h' c', OState w3 w.heap.size m' n' (after f idx t) h' c' ∧ n' ≤ 65536 + (k + 1) ∧ (∀ M, m' = some M → w.heap.size + 4 ≤ M) ∧ (m' = none → f idx = none ∧ Fits f txs)
  lo : w.heap.size + 4 ≤ B0
  step : w3.heap[B0]? = some (.cells #[.int .i64 idx, .bool cmp, .int .i64 txn] 51 (0, 0))

variable {w w2 w3 w4 w' w'' : World} {len k B0 n2 : Nat} {av : Value} {txs : List Tx} {opn : List Bool} {f : Int → Option Int} {Bs : List Nat} {idx t : Int} {cmp : Bool} {txn : Int}

theorem after_none {f : Int → Option Int} {idx t : Int} (h : f idx = none) : after f idx t = upd f idx t := by
  unfold after; rw [if_neg (by rw [h]; simp)]
theorem after_some {f : Int → Option Int} {idx t u : Int} (h : f idx = some u) : after f idx t = f := by
  unfold after; rw [if_pos (by rw [h]; rfl)]

theorem Claimed.same (h : Claimed w len k B0 av txs opn f Bs n2 idx t cmp txn w2) {u : Int} (hf : f idx = some u) : Stored w len k B0 av txs opn f Bs n2 idx t cmp txn w2 :=
  ⟨by rw [after_some hf]; exact h.mem, h.st, h.lo, h.step⟩

theorem Claimed.stored (h : Claimed w len k B0 av txs opn f Bs n2 idx t cmp txn w2) (hf : f idx = none) (hM : MapInt w3 (w.heap.size + 3) (n2 + 1) (upd f idx t)) (hk : KeptBut (fun b => b = w.heap.size + 3) w2 w3) :
    Stored w len k B0 av txs opn f Bs (n2 + 1) idx t cmp txn w3 := by
  have hlo := h.lo
  refine ⟨by rw [after_none hf]; exact h.mem.owner hM hk, ?_, h.lo, ?_⟩
  · obtain ⟨m', n', h', c', h1, h2, h3, h4⟩ := h.st
    exact ⟨m', n', h', c', OState.kept h1 h3 hk (by omega) (fun b e hb => by omega), h2, h3, h4⟩
  · rw [hk.block B0 (Array.getElem?_eq_some_iff.1 h.step).1 (by omega)]
    exact h.step

theorem Stored.cells (h : Stored w len k B0 av txs opn f Bs n2 idx t cmp txn w2) : w2.cell? ⟨B0, 0, none⟩ = some (.int .i64 idx) ∧ w2.cell? ⟨B0, 1, none⟩ = some (.bool cmp) := by
  obtain ⟨h0, h1, _⟩ := block3 h.step
  exact ⟨h0, h1⟩

/-- Between the store of a new transaction and the round's end. -/
structure Half (w : World) (len k B0 : Nat) (av : Value) (txs : List Tx) (g : Int → Option Int) (Bs : List Nat) (n2 : Nat) (idx : Int) (c1 c2 : Nat) (os vs : List Value) (w' : World) : Prop where
  tx : TxMem w' (w.heap.size + 4) av Bs txs
  opn : w'.ownsRow (w.heap.size + 1) 4 1 (.slice (some ⟨w.heap.size + 1, 0, none⟩) c1 len) c1 os
  inv : w'.ownsRow (w.heap.size + 2) 2 1 (.slice (some ⟨w.heap.size + 2, 0, none⟩) c2 len) c2 vs
  own : MapInt w' (w.heap.size + 3) n2 g
  below : Below w.heap.size w w'
  size : w.heap.size + 4 ≤ w'.heap.size
  st : ∃ m' n' h' c', OState w' w.heap.size m' n' g h' c' ∧ n' ≤ 65536 + (k + 1) ∧ (∀ M, m' = some M → w.heap.size + 4 ≤ M) ∧ (m' = none → Fits g txs)
  lo : w.heap.size + 4 ≤ B0
  step : ∃ a b, w'.heap[B0]? = some (.cells #[.int .i64 idx, a, b] 51 (0, 0))

variable {g : Int → Option Int} {c1 c2 c1' c2' : Nat} {os vs os' vs' : List Value} {S : Nat → Prop}

theorem Half.next (h : Half w len k B0 av txs g Bs n2 idx c1 c2 os vs w') (hk : KeptBut S w' w'') (hS : ∀ b, S b → b = w.heap.size + 1 ∨ b = w.heap.size + 2)
    (ho : w''.ownsRow (w.heap.size + 1) 4 1 (.slice (some ⟨w.heap.size + 1, 0, none⟩) c1' len) c1' os') (hi : w''.ownsRow (w.heap.size + 2) 2 1 (.slice (some ⟨w.heap.size + 2, 0, none⟩) c2' len) c2' vs') :
    Half w len k B0 av txs g Bs n2 idx c1' c2' os' vs' w'' := by
  have hs := h.size
  have hlo := h.lo
  refine ⟨h.tx.kept hk (fun b e => .inl (by have := hS b e; omega)), ho, hi, h.own.kept hk (fun e => by have := hS _ e; omega), h.below.trans (hk.below (by omega) (fun b hb e => by have := hS b e; omega)), by have := hk.size; omega, ?_, h.lo, ?_⟩
  · obtain ⟨m', n', h', c', h1, h2, h3, h4⟩ := h.st
    exact ⟨m', n', h', c', OState.kept h1 h3 hk (fun e => by have := hS _ e; omega) (fun b e hb => by have := hS b e; omega), h2, h3, h4⟩
  · obtain ⟨a, b, h1⟩ := h.step
    exact ⟨a, b, by rw [hk.block B0 (Array.getElem?_eq_some_iff.1 h1).1 (fun e => by have := hS _ e; omega)]; exact h1⟩

theorem Half.alloc (h : Half w len k B0 av txs g Bs n2 idx c1 c2 os vs w') (o : Obj) : Half w len k B0 av txs g Bs n2 idx c1 c2 os vs (w'.alloc o) :=
  h.next (S := fun _ => False) ((KeptBut.refl _ _).alloc o) (fun _ e => e.elim) (h.opn.alloc o) (h.inv.alloc o)

theorem Half.cell (h : Half w len k B0 av txs g Bs n2 idx c1 c2 os vs w') : w'.cell? ⟨B0, 0, none⟩ = some (.int .i64 idx) := by
  obtain ⟨a, b, h1⟩ := h.step
  exact (block3 h1).1

theorem grown_kept {b : Nat} (hg : w'.grownBy w'' (some b)) : KeptBut (fun x => x = b) w' w'' := ⟨hg.os, hg.tape, hg.output, hg.size, fun j hj hs => hg.block j hj (fun e => hs (Option.some.inj e))⟩

theorem Half.opened (h : Half w len k B0 av txs g Bs n2 idx c1 c2 os vs w') (ho : w''.ownsRow (w.heap.size + 1) 4 1 (.slice (some ⟨w.heap.size + 1, 0, none⟩) c1' len) c1' os') (hg : w'.grownBy w'' (some (w.heap.size + 1))) :
    Half w len k B0 av txs g Bs n2 idx c1' c2 os' vs w'' :=
  h.next (grown_kept hg) (fun b e => .inl e) ho ((grown_kept hg).ownsRow h.inv (fun b hb e => by
    have : b = w.heap.size + 2 := by simpa [Value.ownBlock] using hb.symm
    omega))

theorem Half.noted (h : Half w len k B0 av txs g Bs n2 idx c1 c2 os vs w') (ho : w''.ownsRow (w.heap.size + 2) 2 1 (.slice (some ⟨w.heap.size + 2, 0, none⟩) c2' len) c2' vs') (hg : w'.grownBy w'' (some (w.heap.size + 2))) :
    Half w len k B0 av txs g Bs n2 idx c1 c2' os vs' w'' :=
  h.next (grown_kept hg) (fun b e => .inr e) ((grown_kept hg).ownsRow h.opn (fun b hb e => by
    have : b = w.heap.size + 1 := by simpa [Value.ownBlock] using hb.symm
    omega)) ho

/-- The store of a new transaction. -/
theorem Stored.put {B : Nat} (h : Stored w len k B0 av txs opn f Bs n2 idx (txs.length : Int) cmp txn w3) (hf : f idx = none) (hb : Below w3.heap.size w3 w4) (hroom : txs.length < Bs.length * 1024) (hB : Bs.getD (txs.length / 1024) 0 = B) :
    Half w len k B0 av (txs ++ [⟨idx, k, 0, idx⟩]) (upd f idx txs.length) Bs n2 idx txs.length txs.length (opn.map Value.bool) (txs.map fun t => .int .i64 t.inv)
      (w4.setCells B (txs.length % 1024 * 7) [.int .i64 idx, .int .u8 0, .int .i64 0, .slice none 0 0, .int .i64 k, .int .i64 0, .int .i64 idx]) := by
  subst hB
  have hk4 := kept_of_below hb
  have hM4 := h.mem.kept hk4 (fun _ e => e.elim)
  rw [after_none hf] at hM4
  have hm : Bs.getD (txs.length / 1024) 0 ∈ Bs := blkAt hroom
  have hlo := hM4.tx.lo _ hm
  have hB0 := h.lo
  have hsz := hM4.size
  have hstep4 : w4.heap[B0]? = some (.cells #[.int .i64 idx, .bool cmp, .int .i64 txn] 51 (0, 0)) := by
    rw [hk4.block B0 (Array.getElem?_eq_some_iff.1 h.step).1 (fun e => e)]; exact h.step
  have htx := hM4.tx.set (u := txs.length) hroom ⟨idx, k, 0, idx⟩ (txs' := txs ++ [⟨idx, k, 0, idx⟩]) (by simp) (by simp; omega) (getD_append_at _ _ _)
    (fun v hv hne => by
      have hlt : v < txs.length := by simp at hv; omega
      exact ⟨getD_append_lt _ _ _ hlt, hlt⟩)
  have hk : KeptBut (fun b => b = Bs.getD (txs.length / 1024) 0) w4 (w4.setCells (Bs.getD (txs.length / 1024) 0) (txs.length % 1024 * 7) (Tx.cells ⟨idx, k, 0, idx⟩)) := KeptBut.setCells _ _ (KeptBut.refl _ _) (.inr rfl)
  obtain ⟨C, hC, _⟩ := hM4.tx.blk _ hm
  refine ⟨htx, hk.ownsRow hM4.opn (fun g' hg e => ?_), hk.ownsRow hM4.inv (fun g' hg e => ?_), hM4.own.kept hk (by omega), hM4.below.trans (hk.below (by omega) (fun b hb e => by omega)), by have := hk.size; exact Nat.le_trans hsz this, ?_, hB0, ?_⟩
  · have : g' = w.heap.size + 1 := by simpa [Value.ownBlock] using hg.symm
    omega
  · have : g' = w.heap.size + 2 := by simpa [Value.ownBlock] using hg.symm
    omega
  · obtain ⟨m', n', h', c', h1, h2, h3, h4⟩ := h.st
    rw [after_none hf] at h1
    refine ⟨m', n', h', c', OState.kept (OState.kept h1 h3 hk4 (fun e => e) (fun _ e => e.elim)) h3 hk (by omega) ?_, h2, h3, fun e => fits_push (h4 e).2 hf⟩
    rintro b rfl _
    exact ⟨C, 60, (0, 0), hC⟩
  · refine ⟨.bool cmp, .int .i64 txn, ?_⟩
    have hne : B0 ≠ Bs.getD (txs.length / 1024) 0 := fun e => by rw [← e, hstep4] at hC; cases hC
    exact (hk.block B0 (Array.getElem?_eq_some_iff.1 hstep4).1 hne).trans hstep4

/-- The end of an invocation's round. -/
theorem Half.rel {x : Tx} (h : Half w len k B0 av (txs ++ [x]) g Bs n2 idx (txs.length + 1) (txs.length + 1) ((opn.map Value.bool) ++ [.bool true]) ((txs.map fun t => Value.int .i64 t.inv) ++ [.int .i64 x.inv]) w') (hn2 : n2 ≤ k + 1)
    (hF : Facts (k + 1) (txs ++ [x]) (opn ++ [true]) g Bs) :
    Rel w len (k + 1) av (.int .i64 ((txs.length : Int) + 1)) (.slice (some ⟨w.heap.size + 1, 0, none⟩) (txs.length + 1) len) (.slice (some ⟨w.heap.size + 2, 0, none⟩) (txs.length + 1) len) w' := by
  obtain ⟨m', n', h', c', h1, h2, h3, h4⟩ := h.st
  refine ⟨txs ++ [x], opn ++ [true], g, m', n', h', c', Bs, n2, by simp, by simp, by simp, h1, h2, h3, h4, ⟨h.tx, ?_, ?_, h.own, h.below, h.size⟩, hn2, hF⟩
  · have := h.opn
    simpa using this
  · have := h.inv
    simpa using this

/-- A new array of transactions. -/
theorem Stored.chunk {w1 w2' : World} {g' cap : Nat} {C : Array Value} (h : Stored w len k B0 av txs opn f Bs n2 idx t cmp txn w3) (hb : Below w3.heap.size w3 w1) (hC : w1.heap[w3.heap.size]? = some (.cells C 60 (0, 0))) (hCs : C.size = 7168) (hfull : txs.length = Bs.length * 1024)
    (hown : w2'.ownsRow (w.heap.size + 4) 62 1 (.slice (some ⟨g', 0, none⟩) (Bs.length + 1) cap) (Bs.length + 1) (Bs.map Claims.chunk ++ [Claims.chunk w3.heap.size])) (hgrow : w1.grownBy w2' av.ownBlock) :
    Stored w len k B0 (.slice (some ⟨g', 0, none⟩) (Bs.length + 1) cap) txs opn f (Bs ++ [w3.heap.size]) n2 idx t cmp txn w2' := by
  have hk1 := kept_of_below hb
  have hM1 := h.mem.kept hk1 (fun _ e => e.elim)
  have hB0 := h.lo
  have hsz := hM1.size
  have hk : KeptBut (fun b => av.ownBlock = some b) w1 w2' := ⟨hgrow.os, hgrow.tape, hgrow.output, hgrow.size, fun j hj hs => hgrow.block j hj (fun e => hs e.symm)⟩
  have hav : ∀ b, av.ownBlock = some b → w.heap.size + 4 ≤ b ∧ ∃ cur, w1.heap[b]? = some (.cells cur 62 (0, 0)) := by
    intro b hb'
    rcases hM1.tx.row.2 with ⟨rfl, _⟩ | ⟨g1, cap1, cur, rfl, hlo, hg1, _⟩
    · cases hb'
    · have : g1 = b := by simpa [Value.ownBlock] using hb'
      subst this
      exact ⟨hlo, cur, hg1⟩
  have hstep1 : w1.heap[B0]? = some (.cells #[.int .i64 idx, .bool cmp, .int .i64 txn] 51 (0, 0)) := by
    rw [hk1.block B0 (Array.getElem?_eq_some_iff.1 h.step).1 (fun e => e)]; exact h.step
  refine ⟨⟨h.mem.tx.push hk1 (Nat.le_refl _) hC hCs hfull hown hgrow h.mem.size, hk.ownsRow hM1.opn (fun g1 hg e => ?_), hk.ownsRow hM1.inv (fun g1 hg e => ?_), hM1.own.kept hk (fun e => by have := (hav _ e).1; omega), hM1.below.trans (hk.below (by omega) (fun b hb e => by have := (hav _ e).1; omega)), by have := hk.size; omega⟩, ?_, hB0, ?_⟩
  · have : g1 = w.heap.size + 1 := by simpa [Value.ownBlock] using hg.symm
    have := (hav _ e).1
    omega
  · have : g1 = w.heap.size + 2 := by simpa [Value.ownBlock] using hg.symm
    have := (hav _ e).1
    omega
  · obtain ⟨m', n', h', c', h1, h2, h3, h4⟩ := h.st
    refine ⟨m', n', h', c', OState.kept (OState.kept h1 h3 hk1 (fun e => e) (fun _ e => e.elim)) h3 hk (fun e => by have := (hav _ e).1; omega) ?_, h2, h3, h4⟩
    intro b e _
    obtain ⟨_, cur, h5⟩ := hav b e
    exact ⟨cur, 62, (0, 0), h5⟩
  · rw [hk.block B0 (Array.getElem?_eq_some_iff.1 hstep1).1 (fun e => by
      obtain ⟨_, cur, h5⟩ := hav B0 e
      rw [hstep1] at h5
      cases h5)]
    exact hstep1

theorem info60 : (Try.prog.info? 60).map (fun i => (i.zero, i.size, i.bytes)) = some (some (.agg #[.int .i64 0, .int .u8 0, .int .i64 0, .slice none 0 0, .int .i64 0, .int .i64 0, .int .i64 0]), 7, 72) := by kernel_rfl
theorem info62 : (Try.prog.info? 62).map (fun i => (i.zero, i.size, i.bytes)) = some (some (.slice none 0 0), 1, 24) := by kernel_rfl

theorem make1024 : ∃ C : Array Value, C.size = 7168 ∧ ∀ W, (Instr.makeSlice 62 (.int .i64 1024) (.int .i64 1024)).run Try.prog W = .ok (.slice (some ⟨W.heap.size, 0, none⟩) 1024 1024) (W.alloc (.cells C 60)) :=
  ⟨_, size_madeCells _ _, fun W => run_make_wide (P := Try.prog) 62 60 _ 7 72 Try.underlying62 info60 1024 (by omega) (by omega) W⟩

theorem cell_one_at {w : World} {n : Nat} (h : w.heap.size = n) (x : Value) (t : TypeId) : ∀ j u, [x][j]? = some u → (w.alloc (.cells #[x] t)).cell? ((⟨n, 0, none⟩ : Addr).add j) = some u := by
  subst h
  exact cell_one_new w x t

theorem Stored.chunk2 {w2' : World} {g' cap : Nat} {C : Array Value} (h : Stored w len k B0 av txs opn f Bs n2 idx t cmp txn w3) (hCs : C.size = 7168) (hfull : txs.length = Bs.length * 1024)
    (hown : w2'.ownsRow (w.heap.size + 4) 62 1 (.slice (some ⟨g', 0, none⟩) (Bs.length + 1) cap) (Bs.length + 1) (Bs.map Claims.chunk ++ [.slice (some ⟨w3.heap.size, 0, none⟩) 1024 1024]))
    (hgrow : ((w3.alloc (.cells C 60)).alloc (.cells #[.slice (some ⟨w3.heap.size, 0, none⟩) 1024 1024] 62)).grownBy w2' av.ownBlock) :
    ∃ Bs2 : List Nat, Bs2.length = Bs.length + 1 ∧ Hid (Stored w len k B0 (.slice (some ⟨g', 0, none⟩) (Bs.length + 1) cap) txs opn f Bs2 n2 idx t cmp txn w2') := by
  refine ⟨Bs ++ [w3.heap.size], by simp, h.chunk (((Below.refl _ _).alloc (Nat.le_refl _) _).alloc (by simp) _) ?_ hCs hfull hown hgrow⟩
  rw [Below.heap_alloc _ _ _ (by simp)]
  exact heap_alloc_new w3 _

end Claims
end Go.Proofs.Qxb6601938a
