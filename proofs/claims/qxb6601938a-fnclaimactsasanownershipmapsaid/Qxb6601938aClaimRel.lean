/-
  SEAT b6601938a. 'Rows.FnClaimActsAsAnOwnershipMapSaid'.
-/
import Derived.Test.Qxb6601938aClaimInv
namespace Go.Proofs.Qxb6601938a
open Go.RowKit Go.Maps

namespace Claims

structure Step3 where
  idx : Int
  cmp : Bool
  txn : Int
def Step3.cells (x : Step3) : List Value := [.int .i64 x.idx, .bool x.cmp, .int .i64 x.txn]
def step0 : Step3 := ⟨0, false, 0⟩

structure StepsIn (w : World) (a : Option Addr) (b off : Nat) (xs : List Step3) : Prop where
  addr : 0 < xs.length → a = some ⟨b, off, none⟩
  lt : 0 < xs.length → b < w.heap.size
  steps : ∀ i, i < xs.length → w.rangeAt b (off + i * 3) (xs.getD i step0).cells
  wf : ∀ i, i < xs.length → I64 (xs.getD i step0).idx ∧ I64 (xs.getD i step0).txn

theorem StepsIn.below {w w' : World} {a : Option Addr} {b off : Nat} {xs : List Step3} (h : StepsIn w a b off xs) (hb : Below w.heap.size w w') : StepsIn w' a b off xs :=
  ⟨h.addr, fun h0 => Nat.lt_of_lt_of_le (h.lt h0) hb.size, fun i hi => range_below (h.steps i hi) hb (h.lt (by omega)), h.wf⟩

/-- The loop's relation, at step k. -/
def Rel (w : World) (len k : Nat) (av cnt op iv : Value) (wr : World) : Prop :=
  ∃ (txs : List Tx) (opn : List Bool) (f : Int → Option Int) (m : Option Nat) (n : Nat) (h : Int) (c : Bool) (Bs : List Nat) (n2 : Nat),
    cnt = .int .i64 txs.length ∧ op = .slice (some ⟨w.heap.size + 1, 0, none⟩) txs.length len ∧ iv = .slice (some ⟨w.heap.size + 2, 0, none⟩) txs.length len ∧
    OState wr w.heap.size m n f h c ∧ n ≤ 65536 + k ∧ (∀ M, m = some M → w.heap.size + 4 ≤ M) ∧ (m = none → Fits f txs) ∧ Mem w len av txs opn f Bs n2 wr ∧ n2 ≤ k ∧ Facts k txs opn f Bs

theorem info4 : (Try.prog.info? 4).map (fun i => (i.zero, i.size, i.bytes)) = some (some (.bool false), 1, 1) := by kernel_rfl
theorem info2 : (Try.prog.info? 2).map (fun i => (i.zero, i.size, i.bytes)) = some (some (.int .i64 0), 1, 8) := by kernel_rfl


theorem Rel.start (w : World) (len : Nat) (hl : len ≤ maxLen) : Rel w len 0 (.slice none 0 0) (.int .i64 0) (.slice (some ⟨w.heap.size + 1, 0, none⟩) 0 len) (.slice (some ⟨w.heap.size + 1 + 1, 0, none⟩) 0 len)
    ((((w.alloc (.cells #[.int .i64 0, .bool false, .map none] 46)).alloc (.cells (madeCells #[.bool false] len) 4)).alloc (.cells (madeCells #[.int .i64 0] len) 2)).alloc (.map #[] 0)) := by
  refine ⟨[], [], fun _ => none, none, 0, 0, false, [], 0, rfl, rfl, rfl, ⟨?_, fun _ _ _ => rfl, fun e => (by cases e)⟩, by omega, fun M e => (by cases e), fun _ => ?_, ?_, by omega, ?_⟩
  · rw [Below.heap_alloc _ _ _ (by simp; omega), Below.heap_alloc _ _ _ (by simp; omega), Below.heap_alloc _ _ _ (by simp)]
    exact heap_alloc_new w _
  · intro x hx u
    constructor
    · intro e; cases e
    · rintro ⟨k, _, h, _⟩; simp at h
  · refine ⟨TxMem.start _ _, ?_, ?_, ?_, ?_, by simp⟩
    · have := ((World.ownsRow_made (base := w.heap.size + 1) (e := 4) (size := 1) (w.alloc (.cells #[.int .i64 0, .bool false, .map none] 46)) (madeCells #[.bool false] len) len (by simp) hl (by simp [size_madeCells])).alloc (.cells (madeCells #[.int .i64 0] len) 2)).alloc (.map #[] 0)
      simpa using this
    · have := (World.ownsRow_made (base := w.heap.size + 2) (e := 2) (size := 1) ((w.alloc (.cells #[.int .i64 0, .bool false, .map none] 46)).alloc (.cells (madeCells #[.bool false] len) 4)) (madeCells #[.int .i64 0] len) len (by simp) hl (by simp [size_madeCells])).alloc (.map #[] 0)
      simpa using this
    · have := MapInt.made (((w.alloc (.cells #[.int .i64 0, .bool false, .map none] 46)).alloc (.cells (madeCells #[.bool false] len) 4)).alloc (.cells (madeCells #[.int .i64 0] len) 2))
      simpa using this
    · exact ((((Below.refl _ _).alloc (Nat.le_refl _) _).alloc (by simp) _).alloc (by simp; omega) _).alloc (by simp; omega) _
  · exact ⟨Nat.le_refl _, fun x _ u e => (by cases e), fun u hu => absurd hu (by simp), fun u hu => absurd hu (by simp), rfl, by simp⟩

/-- What stands behind the claim of a round: the step's own block at B0. -/
structure Claimed (w : World) (len k B0 : Nat) (av : Value) (txs : List Tx) (opn : List Bool) (f : Int → Option Int) (Bs : List Nat) (n2 : Nat) (idx t : Int) (cmp : Bool) (txn : Int) (w2 : World) : Prop where
  mem : Mem w len av txs opn f Bs n2 w2
  st : ∃ m' n' h' c', OState w2 w.heap.size m' n' (after f idx t) h' c' ∧ n' ≤ 65536 + (k + 1) ∧ (∀ M, m' = some M → w.heap.size + 4 ≤ M) ∧ (m' = none → f idx = none ∧ Fits f txs)
  lo : w.heap.size + 4 ≤ B0
  step : w2.heap[B0]? = some (.cells #[.int .i64 idx, .bool cmp, .int .i64 txn] 51 (0, 0))

theorem claim_round {w wr : World} {len k : Nat} {av : Value} {txs : List Tx} {opn : List Bool} {f : Int → Option Int} {m : Option Nat} {n : Nat} {h : Int} {c : Bool} {Bs : List Nat} {n2 : Nat} {idx : Int} {t : Nat} {cmp : Bool} {txn : Int}
    (hO : OState wr w.heap.size m n f h c) (hnb : n ≤ 65536 + k) (hmlo : ∀ M, m = some M → w.heap.size + 4 ≤ M) (hfit : m = none → Fits f txs) (hM : Mem w len av txs opn f Bs n2 wr) (hF : Facts k txs opn f Bs) (hk : k < 32768) (hx : I64 idx) (ht : t ≤ txs.length) :
    Calls Try.prog 25 #[.pointer (some ⟨w.heap.size, 0, none⟩), .int .i64 idx, .int .i64 t, .pointer (some ⟨wr.heap.size + 1, 0, none⟩)]
      ((wr.alloc (.cells #[.int .i64 idx, .bool cmp, .int .i64 txn] 51)).alloc (.cells #[av, .int .i64 txs.length] 76)).drew
      fun e w2 => e = .returned (.tuple #[.int .i64 (other f idx), .bool (taken f idx t)]) ∧ Claimed w len k wr.heap.size av txs opn f Bs n2 idx t cmp txn w2 := by
  have hle := hF.le
  have hsz := hM.size
  have hNlt : w.heap.size < wr.heap.size := by omega
  generalize hW : ((wr.alloc (.cells #[.int .i64 idx, .bool cmp, .int .i64 txn] 51)).alloc (.cells #[av, .int .i64 txs.length] 76)).drew = W
  have hK : KeptBut (fun _ => False) wr W := by rw [← hW]; exact (((KeptBut.refl _ _).alloc _).alloc _).drew
  have hWs : W.heap.size = wr.heap.size + 2 := by rw [← hW]; show ((wr.heap.push _).push _).size = _; simp
  have hB0 : W.heap[wr.heap.size]? = some (.cells #[.int .i64 idx, .bool cmp, .int .i64 txn] 51 (0, 0)) := by
    rw [← hW]
    show ((wr.alloc _).alloc _).heap[wr.heap.size]? = _
    rw [Below.heap_alloc _ _ _ (by simp)]
    exact heap_alloc_new wr _
  have hT : W.heap[wr.heap.size + 1]? = some (.cells #[av, .int .i64 txs.length] 76 (0, 0)) := by
    rw [← hW]
    have := heap_alloc_new (wr.alloc (.cells #[.int .i64 idx, .bool cmp, .int .i64 txn] 51)) (.cells #[av, .int .i64 txs.length] 76)
    have e1 : (wr.alloc (.cells #[.int .i64 idx, .bool cmp, .int .i64 txn] 51)).heap.size = wr.heap.size + 1 := by simp
    rw [e1] at this
    exact this
  have hM' := hM.kept hK (fun _ e => e.elim)
  have hO' : OState W w.heap.size m n f h c := by
    refine ⟨by rw [hK.block _ hNlt (fun e => e)]; exact hO.blk, ?_⟩
    have := hO.facts
    cases m with
    | none => exact this
    | some M => exact MapInt.kept this hK (fun e => e)
  refine (zzclaim_any w.heap.size (wr.heap.size + 1) m n (w.heap.size + 4) av Bs txs f h c idx t W hO' hx (WalkArith.wf_i64 (by omega)) (by unfold maxLen; omega) hfit hF.wf (by omega) hM'.tx (by omega) (by omega) ?_ ?_).mono ?_
  · rw [cell_of_row W _ 0 _ 76 (0, 0) hT]; rfl
  · rw [cell_of_row W _ 1 _ 76 (0, 0) hT]; rfl
  · rintro e w2 ⟨he, hA⟩
    refine ⟨he, ?_⟩
    have hfree : Free w W (fun b => b = w.heap.size ∨ m = some b) := by
      intro b hb
      rcases hb with h1 | h1
      · exact .inl h1
      · refine .inr ⟨hmlo b h1, ?_⟩
        subst h1
        exact MapInt.isMap hO'.facts
    refine ⟨hM'.kept hA.kept hfree, ?_, by omega, ?_⟩
    · obtain ⟨m', n', h', c', h1, h2, h3, h4⟩ := hA.st
      refine ⟨m', n', h', c', h1, by omega, ?_, fun e => ⟨h4 e, ?_⟩⟩
      · intro M e
        rcases h3 with h5 | ⟨_, M', h5, h6⟩
        · exact hmlo M (by rw [← h5]; exact e)
        · rw [h5] at e
          cases e
          omega
      · rcases h3 with h5 | ⟨_, M', h5, _⟩
        · exact hfit (by rw [← h5]; exact e)
        · rw [h5] at e; cases e
    · rw [hA.kept.block wr.heap.size (by omega) ?_]
      · exact hB0
      · intro e
        rcases e with h1 | h1
        · omega
        · subst h1
          obtain ⟨es, q, h2⟩ := MapInt.isMap hO'.facts
          rw [hB0] at h2
          cases h2

/-- The step's cells behind the claim. -/
theorem Claimed.cells {w : World} {len k B0 : Nat} {av : Value} {txs : List Tx} {opn : List Bool} {f : Int → Option Int} {Bs : List Nat} {n2 : Nat} {idx t : Int} {cmp : Bool} {txn : Int} {w2 : World} (h : Claimed w len k B0 av txs opn f Bs n2 idx t cmp txn w2) :
    w2.cell? ⟨B0, 0, none⟩ = some (.int .i64 idx) ∧ w2.cell? ⟨B0, 1, none⟩ = some (.bool cmp) := by
  obtain ⟨h0, h1, _⟩ := block3 h.step
  exact ⟨h0, h1⟩

theorem Mem.form {w wr : World} {len n2 : Nat} {av : Value} {txs : List Tx} {opn : List Bool} {f : Int → Option Int} {Bs : List Nat} (h : Mem w len av txs opn f Bs n2 wr) : ∃ a l c, av = .slice a l c := by
  rcases h.tx.row.2 with ⟨rfl, _⟩ | ⟨g, cap, cur, rfl, _⟩
  · exact ⟨_, _, _, rfl⟩
  · exact ⟨_, _, _, rfl⟩

/-- A refused claim, or a step that is passed over: the state stands. -/
theorem Claimed.refused {w w2 : World} {len k B0 : Nat} {av : Value} {txs : List Tx} {opn : List Bool} {f : Int → Option Int} {Bs : List Nat} {n2 : Nat} {idx t : Int} {cmp : Bool} {txn : Int} (h : Claimed w len k B0 av txs opn f Bs n2 idx t cmp txn w2)
    (hF : Facts k txs opn f Bs) (hn2 : n2 ≤ k) {u : Int} (hf : f idx = some u) :
    Rel w len (k + 1) av (.int .i64 txs.length) (.slice (some ⟨w.heap.size + 1, 0, none⟩) txs.length len) (.slice (some ⟨w.heap.size + 2, 0, none⟩) txs.length len) w2 := by
  obtain ⟨m', n', h', c', h1, h2, h3, h4⟩ := h.st
  have e : after f idx t = f := by unfold after; rw [if_pos (by rw [hf]; rfl)]
  rw [e] at h1
  exact ⟨txs, opn, f, m', n', h', c', Bs, n2, rfl, rfl, rfl, h1, h2, h3, fun q => (h4 q).2, h.mem, by omega, hF.next⟩

theorem Rel.passed {w wr : World} {len k : Nat} {av : Value} {txs : List Tx} {opn : List Bool} {f : Int → Option Int} {m : Option Nat} {n : Nat} {h : Int} {c : Bool} {Bs : List Nat} {n2 : Nat} (o : Obj)
    (hO : OState wr w.heap.size m n f h c) (hnb : n ≤ 65536 + k) (hmlo : ∀ M, m = some M → w.heap.size + 4 ≤ M) (hfit : m = none → Fits f txs) (hM : Mem w len av txs opn f Bs n2 wr) (hF : Facts k txs opn f Bs) (hn2 : n2 ≤ k) :
    Rel w len (k + 1) av (.int .i64 txs.length) (.slice (some ⟨w.heap.size + 1, 0, none⟩) txs.length len) (.slice (some ⟨w.heap.size + 2, 0, none⟩) txs.length len) (wr.alloc o) := by
  have hsz := hM.size
  refine ⟨txs, opn, f, m, n, h, c, Bs, n2, rfl, rfl, rfl, ⟨?_, ?_⟩, by omega, hmlo, hfit, hM.alloc o, by omega, hF.next⟩
  · rw [Below.heap_alloc _ _ _ (by omega)]
    exact hO.blk
  · have := hO.facts
    cases m with
    | none => exact this
    | some M => exact MapInt.kept this ((KeptBut.refl (fun _ => False) _).alloc o) (fun e => e)

theorem OState.kept {w wr w' : World} {m : Option Nat} {n : Nat} {f : Int → Option Int} {h : Int} {c : Bool} {S : Nat → Prop} (hO : OState wr w.heap.size m n f h c) (hmlo : ∀ M, m = some M → w.heap.size + 4 ≤ M) (hk : KeptBut S wr w') (hN : ¬ S w.heap.size)
    (hS : ∀ b, S b → w.heap.size + 4 ≤ b → ∃ (C : Array Value) (t : TypeId) (fr : Nat × Nat), wr.heap[b]? = some (.cells C t fr)) : OState w' w.heap.size m n f h c := by
  refine ⟨by rw [hk.block _ (Array.getElem?_eq_some_iff.1 hO.blk).1 hN]; exact hO.blk, ?_⟩
  have hf := hO.facts
  cases m with
  | none => exact hf
  | some M =>
    refine MapInt.kept hf hk (fun e => ?_)
    obtain ⟨C, t, fr, h1⟩ := hS M e (hmlo M rfl)
    obtain ⟨es, q, h2⟩ := MapInt.isMap hf
    rw [h1] at h2
    cases h2

theorem map_set_inv (txs : List Tx) {q : Nat} (hq : q < txs.length) (x : Tx) (hx : x.inv = (txs.getD q tx0).inv) : (txs.set q x).map (fun t => Value.int .i64 t.inv) = txs.map (fun t => Value.int .i64 t.inv) := by
  apply List.ext_getElem?
  intro i
  simp only [List.getElem?_map]
  by_cases e : i = q
  · subst e
    simp [hq, hx, List.getD]
  · rw [List.getElem?_set_ne (fun h => e h.symm)]

/-- The transaction at place q is completed, and no longer open. -/
theorem Mem.complete {w w3 : World} {len n2 : Nat} {av : Value} {txs : List Tx} {opn : List Bool} {g : Int → Option Int} {Bs : List Nat} (h : Mem w len av txs opn g Bs n2 w3) {q : Nat} (hq : q < txs.length) (hol : opn.length = txs.length) (x : Tx) (hx : x.inv = (txs.getD q tx0).inv) :
    Mem w len av (txs.set q x) (opn.set q false) g Bs n2 ((w3.setCells (Bs.getD (q / 1024) 0) (q % 1024 * 7) x.cells).setCell ⟨w.heap.size + 1, q, none⟩ (.bool false)) := by
  have hcv := h.tx.cover
  have hm : Bs.getD (q / 1024) 0 ∈ Bs := blkAt (by omega)
  have hlo := h.tx.lo _ hm
  have htx := h.tx.set (u := q) (by omega) x (txs' := txs.set q x) (by simpa using hq) (by simpa using hcv) (getD_set_at _ _ _ hq) (fun v hv hne => ⟨getD_set_ne _ _ _ hne, by simpa using hv⟩)
  generalize hB : Bs.getD (q / 1024) 0 = B at *
  have hk : KeptBut (fun b => b = B) w3 (w3.setCells B (q % 1024 * 7) x.cells) := KeptBut.setCells _ _ (KeptBut.refl _ _) (.inr rfl)
  have hopn := hk.ownsRow h.opn (fun g' hg e => by
    have : g' = w.heap.size + 1 := by simpa [Value.ownBlock] using hg.symm
    omega)
  have hinv := hk.ownsRow h.inv (fun g' hg e => by
    have : g' = w.heap.size + 2 := by simpa [Value.ownBlock] using hg.symm
    omega)
  have hk2 : KeptBut (fun b => b = w.heap.size + 1) (w3.setCells B (q % 1024 * 7) x.cells) ((w3.setCells B (q % 1024 * 7) x.cells).setCell ⟨w.heap.size + 1, q, none⟩ (.bool false)) := (KeptBut.refl (fun b => b = w.heap.size + 1) _).setCell (.inr rfl) _
  have hsz := h.size
  refine ⟨htx.kept hk2 (fun b e => .inl (by omega)), ?_, ?_, (h.own.kept hk (by omega)).kept hk2 (by omega), ?_, ?_⟩
  · have := (hopn.stored q (.bool false)).1
    have e1 : (opn.map Value.bool).set q (.bool false) = (opn.set q false).map Value.bool := by rw [List.map_set]
    rw [e1] at this
    simpa using this
  · have := hk2.ownsRow hinv (fun g' hg e => by
      have : g' = w.heap.size + 2 := by simpa [Value.ownBlock] using hg.symm
      omega)
    rw [map_set_inv txs hq x hx]
    simpa using this
  · refine h.below.trans ?_
    exact ((hk.widen (S' := fun b => b = B ∨ b = w.heap.size + 1) (fun b _ e => .inl e)).trans hk2 (fun b _ e => .inr e)).below (by omega) (fun b hb e => by omega)
  · rw [show ((w3.setCells B (q % 1024 * 7) x.cells).setCell ⟨w.heap.size + 1, q, none⟩ (.bool false)).heap.size = w3.heap.size by rw [← size_setCells B x.cells (q % 1024 * 7) w3]; simp [World.setCell]]
    exact hsz

theorem TxMem.cellAt {w : World} {base g n cap : Nat} {Bs : List Nat} {txs : List Tx} (h : TxMem w base (.slice (some ⟨g, 0, none⟩) n cap) Bs txs) {j : Nat} (hj : j < Bs.length) : w.cell? ⟨g, j, none⟩ = some (chunk (Bs.getD j 0)) := by
  obtain ⟨g', cap', e, _, _, hc⟩ := h.form (by omega)
  simp only [Value.slice.injEq, Option.some.injEq, Addr.mk.injEq, and_true] at e
  rw [e.1]
  exact hc j hj

/-- Room for seven cells, as a walk wants it behind two new blocks. -/
theorem room7 {w : World} {B o : Nat} (ht : w.there B o 7) :
    ∃ u0 u1 u2 u3 u4 u5 u6 : Value, ∀ o1 o2 : Obj,
      ((w.alloc o1).alloc o2).cell? ⟨B, o, none⟩ = some u0 ∧ ((w.alloc o1).alloc o2).cell? ⟨B, o + 1, none⟩ = some u1 ∧ ((w.alloc o1).alloc o2).cell? ⟨B, o + 2, none⟩ = some u2 ∧ ((w.alloc o1).alloc o2).cell? ⟨B, o + 3, none⟩ = some u3 ∧
      ((w.alloc o1).alloc o2).cell? ⟨B, o + 4, none⟩ = some u4 ∧ ((w.alloc o1).alloc o2).cell? ⟨B, o + 5, none⟩ = some u5 ∧ ((w.alloc o1).alloc o2).cell? ⟨B, o + 6, none⟩ = some u6 ∧
      ((w.alloc o1).alloc o2).frozen? ⟨B, o, none⟩ = false ∧ ((w.alloc o1).alloc o2).frozen? ⟨B, o + 1, none⟩ = false ∧ ((w.alloc o1).alloc o2).frozen? ⟨B, o + 2, none⟩ = false ∧ ((w.alloc o1).alloc o2).frozen? ⟨B, o + 3, none⟩ = false ∧
      ((w.alloc o1).alloc o2).frozen? ⟨B, o + 4, none⟩ = false ∧ ((w.alloc o1).alloc o2).frozen? ⟨B, o + 5, none⟩ = false ∧ ((w.alloc o1).alloc o2).frozen? ⟨B, o + 6, none⟩ = false := by
  have key : ∀ j, j < 7 → ∃ u, ∀ o1 o2 : Obj, ((w.alloc o1).alloc o2).cell? ⟨B, o + j, none⟩ = some u ∧ ((w.alloc o1).alloc o2).frozen? ⟨B, o + j, none⟩ = false := by
    intro j hj
    obtain ⟨h1, h2⟩ := ht j hj
    obtain ⟨u, hu⟩ := Option.isSome_iff_exists.1 h1
    have hlt := World.block_lt_of_cell? w _ hu
    refine ⟨u, fun o1 o2 => ⟨?_, ((World.there_alloc (World.there_alloc ht o1) o2) j hj).2⟩⟩
    rw [World.cell?_alloc_lt _ _ _ (by have : B < w.heap.size := hlt; simp; omega), World.cell?_alloc_lt _ _ _ hlt]
    exact hu
  obtain ⟨u0, k0⟩ := key 0 (by omega)
  obtain ⟨u1, k1⟩ := key 1 (by omega)
  obtain ⟨u2, k2⟩ := key 2 (by omega)
  obtain ⟨u3, k3⟩ := key 3 (by omega)
  obtain ⟨u4, k4⟩ := key 4 (by omega)
  obtain ⟨u5, k5⟩ := key 5 (by omega)
  obtain ⟨u6, k6⟩ := key 6 (by omega)
  exact ⟨u0, u1, u2, u3, u4, u5, u6, fun o1 o2 => ⟨(k0 o1 o2).1, (k1 o1 o2).1, (k2 o1 o2).1, (k3 o1 o2).1, (k4 o1 o2).1, (k5 o1 o2).1, (k6 o1 o2).1, (k0 o1 o2).2, (k1 o1 o2).2, (k2 o1 o2).2, (k3 o1 o2).2, (k4 o1 o2).2, (k5 o1 o2).2, (k6 o1 o2).2⟩⟩

/-- What a completion reads. -/
theorem Mem.reads {w w3 : World} {len n2 g l cap : Nat} {txs : List Tx} {opn : List Bool} {f : Int → Option Int} {Bs : List Nat} (h : Mem w len (.slice (some ⟨g, 0, none⟩) l cap) txs opn f Bs n2 w3) {q : Nat} (hq : q < txs.length) :
    w3.cell? ⟨g, q / 1024, none⟩ = some (.slice (some ⟨Bs.getD (q / 1024) 0, 0, none⟩) 1024 1024) ∧ w3.cell? ⟨w.heap.size + 2, q, none⟩ = some (.int .i64 (txs.getD q tx0).inv) := by
  have hcv := h.tx.cover
  refine ⟨h.tx.cellAt (by omega), ?_⟩
  rw [h.inv.cellAt q (by omega)]
  simp [List.getD, hq]

/-- Two cells of old memory behind two new blocks. -/
theorem cell2 {w : World} {a : Addr} {v : Value} (h : w.cell? a = some v) (o1 o2 : Obj) : ((w.alloc o1).alloc o2).cell? a = some v := by
  have hlt := World.block_lt_of_cell? w _ h
  rw [World.cell?_alloc_lt _ _ _ (by simp; omega), World.cell?_alloc_lt _ _ _ hlt]
  exact h

/-- The arrays' blocks are none of the others. -/
theorem Mem.apart {w w3 : World} {len n2 g l cap B0 : Nat} {txs : List Tx} {opn : List Bool} {f : Int → Option Int} {Bs : List Nat} {X : Array Value} (h : Mem w len (.slice (some ⟨g, 0, none⟩) l cap) txs opn f Bs n2 w3) {B : Nat} (hB : B ∈ Bs) (hX : w3.heap[B0]? = some (.cells X 51 (0, 0))) :
    B ≠ B0 ∧ B ≠ g ∧ B ≠ w.heap.size + 2 ∧ B ≠ w.heap.size + 1 ∧ B < w3.heap.size ∧ w.heap.size + 4 ≤ B := by
  obtain ⟨C, hC, _⟩ := h.tx.blk B hB
  have hlo := h.tx.lo B hB
  refine ⟨fun e => ?_, fun e => ?_, by omega, by omega, h.tx.lt hB, hlo⟩
  · rw [e, hX] at hC; cases hC
  · rcases h.tx.row.2 with ⟨e1, _⟩ | ⟨g', cap', cur, e1, _, hg', _⟩
    · cases e1
    · simp only [Value.slice.injEq, Option.some.injEq, Addr.mk.injEq, and_true] at e1
      rw [← e1.1, ← e, hC] at hg'
      cases hg'

end Claims
end Go.Proofs.Qxb6601938a
