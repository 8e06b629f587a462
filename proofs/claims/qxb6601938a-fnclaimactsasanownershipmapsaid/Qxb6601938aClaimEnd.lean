/-
  SEAT b6601938a. 'Rows.FnClaimActsAsAnOwnershipMapSaid': how a round's relation stands behind its stores.
-/
import Derived.Test.Qxb6601938aClaimRel
namespace Go.Proofs.Qxb6601938a
open Go.RowKit Go.Maps

namespace Claims

theorem size60 : (Try.prog.info? 60).map (·.size) = some 7 := by kernel_rfl

theorem keepS {w : World} {a : Addr} {v : Value} {B o : Nat} (h : w.cell? a = some v) (hne : B ≠ a.block) (vs : List Value) : (w.setCells B o vs).cell? a = some v := by
  rw [World.cell?_setCells_out B vs o w a (fun e _ => absurd e.symm hne)]; exact h

theorem makeTxn_below (a b c d : Int) (w : World) :
    Calls Try.prog 27 #[.agg #[.int .i64 a, .int .u8 0, .int .i64 0, .slice none 0 0, .int .i64 b, .int .i64 c], .int .i64 d] w fun e w' =>
      e = .returned (.agg #[.int .i64 a, .int .u8 0, .int .i64 0, .slice none 0 0, .int .i64 b, .int .i64 c, .int .i64 d]) ∧ Below w.heap.size w w' := by
  refine (makeTxn_any a b c d w).mono ?_
  rintro e w' ⟨he, C1, C2, rfl⟩
  exact ⟨he, ((Below.refl _ _).alloc (Nat.le_refl _) _).alloc (by simp) _⟩

theorem below_cell {w w' : World} (hb : Below w.heap.size w w') {a : Addr} {v : Value} (h : w.cell? a = some v) : w'.cell? a = some v := by
  rw [hb.cell (World.block_lt_of_cell? w _ h)]; exact h

theorem kept_of_below {w w' : World} (hb : Below w.heap.size w w') : KeptBut (fun _ => False) w w' :=
  (of_below hb).widen (fun b h1 h2 => by omega)

theorem after_cases {f : Int → Option Int} {x t : Int} : ∀ y u, after f x t y = some u → f y = some u ∨ u = t := by
  intro y u h
  unfold after upd at h
  split at h
  · exact .inl h
  · dsimp only at h
    split at h
    · right; simpa using h.symm
    · exact .inl h

/-- A completion's end. -/
theorem Rel.completed {w W w4 : World} {len k n2 : Nat} {av : Value} {txs : List Tx} {opn : List Bool} {f : Int → Option Int} {Bs : List Nat} {m' : Option Nat} {n' : Nat} {h' : Int} {c' : Bool} {idx iv : Int} {q B : Nat}
    (hM : Mem w len av txs opn (after f idx q) Bs n2 W) (hO : OState W w.heap.size m' n' (after f idx q) h' c') (hn' : n' ≤ 65536 + (k + 1)) (hmlo : ∀ M, m' = some M → w.heap.size + 4 ≤ M) (hfit : m' = none → f idx = none ∧ Fits f txs)
    (hF : Facts k txs opn f Bs) (hq : q < txs.length) (hop : opn.getD q false = true) (hn2 : n2 ≤ k + 1) (hi : I64 idx) (hb : Below W.heap.size W w4) (hB : Bs.getD (q / 1024) 0 = B) (hiv : (txs.getD q tx0).inv = iv) :
    Rel w len (k + 1) av (.int .i64 txs.length) (.slice (some ⟨w.heap.size + 1, 0, none⟩) txs.length len) (.slice (some ⟨w.heap.size + 2, 0, none⟩) txs.length len)
      ((w4.setCells B (q % 1024 * 7) [.int .i64 idx, .int .u8 0, .int .i64 0, .slice none 0 0, .int .i64 0, .int .i64 k, .int .i64 iv]).setCell ⟨w.heap.size + 1, q, none⟩ (.bool false)) := by
  subst hB hiv
  have hcv := hM.tx.cover
  have hle := hF.le
  have hk4 := kept_of_below hb
  have hM4 := hM.kept hk4 (fun _ e => e.elim)
  have hO4 := OState.kept hO hmlo hk4 (fun e => e) (fun _ e => e.elim)
  have hm : Bs.getD (q / 1024) 0 ∈ Bs := blkAt (by omega)
  have hlo := hM4.tx.lo _ hm
  have hend := hM4.complete hq hF.oplen ⟨idx, 0, k, (txs.getD q tx0).inv⟩ rfl
  have hk5 : KeptBut (fun b => b = Bs.getD (q / 1024) 0 ∨ b = w.heap.size + 1) w4 ((w4.setCells (Bs.getD (q / 1024) 0) (q % 1024 * 7) [.int .i64 idx, .int .u8 0, .int .i64 0, .slice none 0 0, .int .i64 0, .int .i64 k, .int .i64 (txs.getD q tx0).inv]).setCell ⟨w.heap.size + 1, q, none⟩ (.bool false)) :=
    KeptBut.setCell (KeptBut.setCells _ _ (KeptBut.refl _ _) (.inr (.inl rfl))) (.inr (.inr rfl)) _
  refine ⟨txs.set q ⟨idx, 0, k, (txs.getD q tx0).inv⟩, opn.set q false, after f idx q, m', n', h', c', Bs, n2, by simp, by simp, by simp, ?_, hn', hmlo, ?_, hend, hn2, ?_⟩
  · refine OState.kept hO4 hmlo hk5 (fun e => by rcases e with e | e <;> omega) ?_
    rintro b (rfl | rfl) hb4
    · obtain ⟨C, hC, _⟩ := hM4.tx.blk _ hm
      exact ⟨C, 60, (0, 0), hC⟩
    · omega
  · intro e
    obtain ⟨h1, h2⟩ := hfit e
    have e2 : after f idx q = upd f idx q := by unfold after; rw [if_neg (by rw [h1]; simp)]
    rw [e2]
    exact fits_set h2 hq h1 (hF.op q hq hop) (by omega)
  · exact hF.put hi hq (fun y _ u hu => after_cases y u hu)

/-- The mark at place q, behind a callee and a store into another block. -/
theorem Mem.mark {w W w4 : World} {len n2 B o : Nat} {av : Value} {txs : List Tx} {opn : List Bool} {f : Int → Option Int} {Bs : List Nat} (hM : Mem w len av txs opn f Bs n2 W) {q : Nat} (hq : q < txs.length) (hol : opn.length = txs.length) (hb : Below W.heap.size W w4) (hB : B ≠ w.heap.size + 1) (vs : List Value) :
    (w4.setCells B o vs).cell? ⟨w.heap.size + 1, q, none⟩ = some (.bool (opn.getD q false)) ∧ (w4.setCells B o vs).frozen? ⟨w.heap.size + 1, q, none⟩ = false := by
  have h4 := hM.kept (kept_of_below hb) (fun _ e => e.elim)
  have h1 := h4.opn.cellAt q (by omega)
  have h2 := h4.opn.frozenAt q
  refine ⟨keepS (by rw [h1]; simp [List.getD, hol, hq]) hB vs, ?_⟩
  have hk : KeptBut (fun b => b = B) w4 (w4.setCells B o vs) := KeptBut.setCells _ _ (KeptBut.refl _ _) (.inr rfl)
  rw [hk.frozen (by have := h4.size; show w.heap.size + 1 < _; omega) (fun e => hB e.symm)]
  exact h2

end Claims
end Go.Proofs.Qxb6601938a
