/-
  SEAT b6601938a. A map[int64]int that the call makes, told by a plain function; and 'all blocks but these are as they were'.
-/
import Derived.Test.Qxb6601938aMem
import Derived.Maps.OwnSet
namespace Go.Proofs.Qxb6601938a
open Go.RowKit Go.Maps

namespace Claims

theorem hid {p : Prop} (h : p) : Hid p := h

/-! ### All blocks but those of S are as they were -/
structure KeptBut (S : Nat → Prop) (w w' : World) : Prop where
  os : w'.os = w.os
  tape : w'.tape = w.tape
  output : w'.output = w.output
  size : w.heap.size ≤ w'.heap.size
  block : ∀ k, k < w.heap.size → ¬ S k → w'.heap[k]? = w.heap[k]?

variable {S S' : Nat → Prop} {w w' w'' : World}

theorem KeptBut.refl (S : Nat → Prop) (w : World) : KeptBut S w w := ⟨rfl, rfl, rfl, Nat.le_refl _, fun _ _ _ => rfl⟩

theorem KeptBut.trans (h : KeptBut S w w') (k : KeptBut S' w' w'') (hS : ∀ b, b < w.heap.size → S' b → S b) : KeptBut S w w'' :=
  ⟨k.os.trans h.os, k.tape.trans h.tape, k.output.trans h.output, Nat.le_trans h.size k.size, fun b hb hs => (k.block b (Nat.lt_of_lt_of_le hb h.size) (fun e => hs (hS b hb e))).trans (h.block b hb hs)⟩

theorem KeptBut.widen (h : KeptBut S w w') (hS : ∀ b, b < w.heap.size → S b → S' b) : KeptBut S' w w' :=
  ⟨h.os, h.tape, h.output, h.size, fun b hb hs => h.block b hb (fun e => hs (hS b hb e))⟩

theorem KeptBut.drew (h : KeptBut S w w') : KeptBut S w w'.drew := ⟨h.os, h.tape, h.output, h.size, h.block⟩
theorem KeptBut.drewN (h : KeptBut S w w') (n : Nat) : KeptBut S w (w'.drewN n) := ⟨h.os, h.tape, h.output, h.size, h.block⟩

theorem KeptBut.alloc (h : KeptBut S w w') (o : Obj) : KeptBut S w (w'.alloc o) :=
  h.trans (S' := fun _ => False) ⟨rfl, rfl, rfl, by simp, fun k hk _ => Below.heap_alloc _ _ _ hk⟩ (fun _ _ e => e.elim)

theorem KeptBut.setCell (h : KeptBut S w w') {p : Addr} (hp : w.heap.size ≤ p.block ∨ S p.block) (u : Value) : KeptBut S w (w'.setCell p u) :=
  h.trans (S' := fun b => b = p.block) ⟨rfl, rfl, rfl, by simp [World.setCell], fun k _ hk => Below.heap_setCell _ _ _ _ hk⟩ (fun b hb e => by
    subst e
    rcases hp with hp | hp
    · omega
    · exact hp)

theorem KeptBut.setCells {b : Nat} : ∀ (vs : List Value) (o : Nat) {w' : World}, KeptBut S w w' → (w.heap.size ≤ b ∨ S b) → KeptBut S w (w'.setCells b o vs)
  | [], _, _, h, _ => h
  | v :: r, o, w', h, hb => by
    rw [World.setCells]
    exact KeptBut.setCells r (o + 1) (h.setCell (p := ⟨b, o, none⟩) hb v) hb

theorem KeptBut.grown {row : Option Nat} (h : KeptBut S w w') (hg : w'.grownBy w'' row) (hr : ∀ k, row = some k → w.heap.size ≤ k ∨ S k) : KeptBut S w w'' :=
  h.trans (S' := fun b => row = some b) ⟨hg.os, hg.tape, hg.output, hg.size, fun k hk hs => hg.block k hk (fun e => hs e.symm)⟩ (fun b hb e => by
    rcases hr b e with h1 | h1
    · omega
    · exact h1)

theorem KeptBut.cell (h : KeptBut S w w') {p : Addr} (hp : p.block < w.heap.size) (hs : ¬ S p.block) : w'.cell? p = w.cell? p := World.cell?_of_block (w := w) (h.block p.block hp hs)
theorem KeptBut.frozen (h : KeptBut S w w') {p : Addr} (hp : p.block < w.heap.size) (hs : ¬ S p.block) : w'.frozen? p = w.frozen? p := World.frozen?_of_block (w := w) (h.block p.block hp hs)
theorem KeptBut.range (h : KeptBut S w w') {b o : Nat} {cs : List Value} (hr : w.rangeAt b o cs) (hb : b < w.heap.size) (hs : ¬ S b) : w'.rangeAt b o cs := by
  intro j v hv
  rw [h.cell (p := ⟨b, _, none⟩) hb hs]
  exact hr j v hv
theorem KeptBut.below {B : Nat} (h : KeptBut S w w') (hB : B ≤ w.heap.size) (hS : ∀ b, b < B → ¬ S b) : Below B w w' :=
  ⟨h.os, h.tape, h.output, h.size, fun k hk => h.block k (by omega) (hS k hk)⟩
theorem KeptBut.ownsRow (h : KeptBut S w w') {base : Nat} {e : TypeId} {size n : Nat} {v : Value} {xs : List Value} (ho : w.ownsRow base e size v n xs) (hs : ∀ g, v.ownBlock = some g → ¬ S g) : w'.ownsRow base e size v n xs := by
  refine ⟨ho.1, ?_⟩
  rcases ho.2 with h0 | ⟨g, cap, cur, rfl, hb, hg, rest⟩
  · exact .inl h0
  · refine .inr ⟨g, cap, cur, rfl, hb, ?_, rest⟩
    rw [h.block g (Array.getElem?_eq_some_iff.1 hg).1 (hs g rfl)]
    exact hg
theorem of_below {B : Nat} (h : Below B w w') : KeptBut (fun b => B ≤ b) w w' := ⟨h.os, h.tape, h.output, h.size, fun k _ hs => h.block k (by omega)⟩

/-! ### The map -/
theorem keyed2 : Keyed Try.prog 2 := int_keyed Try.underlying2
theorem zero3 (w : World) : (zeroValue 3).run Try.prog w = .ok (.int .i64 0) w := by kernel_rfl

def I64 (x : Int) : Prop := (Lit.int .i64 x).wf = true

def upd (f : Int → Option Int) (x v : Int) : Int → Option Int := fun y => if y = x then some v else f y

/-- Block b is a map of at most n entries that holds just what f says. -/
def MapInt (w : World) (b n : Nat) (f : Int → Option Int) : Prop :=
  ∃ D : DataW Unit, w.ownsMap Try.prog 2 (plainElem Try.prog 3) b n D ∧ ∀ x, I64 x → Maps.has D (.int .i64 x) = (f x).isSome ∧ D.atKey (.int .i64 x) (.lit (.int .i64 0)) = .lit (.int .i64 ((f x).getD 0))

theorem MapInt.made (w : World) : MapInt (w.alloc (.map #[] 0)) w.heap.size 0 (fun _ => none) :=
  ⟨.map [], World.ownsMap_made w _ _ _, fun _ _ => ⟨rfl, rfl⟩⟩

theorem MapInt.congr {b n : Nat} {f g : Int → Option Int} (h : MapInt w b n f) (e : ∀ x, I64 x → f x = g x) : MapInt w b n g := by
  obtain ⟨D, h1, h2⟩ := h
  exact ⟨D, h1, fun x hx => by rw [← e x hx]; exact h2 x hx⟩

theorem MapInt.lt {b n : Nat} {f : Int → Option Int} (h : MapInt w b n f) : b < w.heap.size := by
  obtain ⟨D, h1, _⟩ := h
  exact h1.lt

theorem MapInt.isMap {b n : Nat} {f : Int → Option Int} (h : MapInt w b n f) : ∃ es c, w.heap[b]? = some (.map es c) := by
  obtain ⟨D, ⟨es, c, hb, _⟩, _⟩ := h
  exact ⟨es, c, hb⟩

theorem MapInt.of_block {b n : Nat} {f : Int → Option Int} (h : MapInt w b n f) (e : w'.heap[b]? = w.heap[b]?) : MapInt w' b n f := by
  obtain ⟨D, ⟨es, c, hb, r⟩, h2⟩ := h
  exact ⟨D, ⟨es, c, e.trans hb, r⟩, h2⟩

theorem MapInt.kept {b n : Nat} {f : Int → Option Int} (h : MapInt w b n f) (hk : KeptBut S w w') (hs : ¬ S b) : MapInt w' b n f := h.of_block (hk.block b h.lt hs)

/-- 'v, ok := m[x]'. -/
theorem MapInt.look {b n : Nat} {f : Int → Option Int} (h : MapInt w b n f) {x : Int} (hx : I64 x) :
    (Instr.lookup 44 (.map (some b)) (.int .i64 x) true).run Try.prog w = .ok (.tuple #[.int .i64 ((f x).getD 0), .bool (f x).isSome]) w := by
  obtain ⟨D, h1, h2⟩ := h
  obtain ⟨v, ps, hrun, hv⟩ := h1.look_ok keyed2 Try.underlying44 (zero3 w) (plainElem_int Try.underlying3 (by decide)) (keyOf_int_mk Try.underlying2 hx)
  rw [(h2 x hx).2] at hv
  obtain ⟨c, rfl, hc, _⟩ := plainElem_int_inv Try.underlying3 hv
  simp only [Prod.mk.injEq, DataW.lit.injEq, Lit.int.injEq, true_and] at hc
  rw [hrun, (h2 x hx).1, ← hc.1]

/-- 'm[x] = v'. -/
theorem MapInt.store {b n : Nat} {f : Int → Option Int} (h : MapInt w b n f) (hn : n < maxLen) {x v : Int} (hx : I64 x) (hv : I64 v) :
    ∃ w', (Instr.mapUpdate 44 (.map (some b)) (.int .i64 x) (.int .i64 v)).run Try.prog w = .ok () w' ∧ MapInt w' b (n + 1) (upd f x v) ∧ KeptBut (fun k => k = b) w w' := by
  obtain ⟨D, h1, h2⟩ := h
  obtain ⟨w', hrun, h3, h4⟩ := h1.store keyed2 Try.underlying44 hn (keyOf_int_mk Try.underlying2 hx) (plainElem_int Try.underlying3 hv)
  have hg := h4.grown
  refine ⟨w', hrun, ⟨_, h3, fun y hy => ?_⟩, ⟨hg.os, hg.tape, hg.output, hg.size, fun k hk hs => hg.block k hk (fun e => hs (Option.some.inj e))⟩⟩
  by_cases e : y = x
  · subst e
    have hk : WideAt.IsKeyLit (Lit.int .i64 y) := trivial
    rw [Maps.has_put_same h1.isMap hk, Maps.atKey_put_same h1.isMap hk]
    simp [upd]
  · have hne : Lit.int .i64 y ≠ Lit.int .i64 x := fun q => e (by simpa using q)
    rw [Maps.has_put_other hne, Maps.atKey_put_other hne]
    simp only [upd, if_neg e]
    exact h2 y hy

/-- The laws at the operation, for the walk. -/
theorem wpList_look {ops : Array Oper} {rest : List Oper} {o : Oper} {a : Act} {Q : Exit → Act → World → Prop} (hg : o.guard = none) (m x : Operand) (hop : o.op = Op.lookup 44 m x true)
    (b n : Nat) (f : Int → Option Int) (y : Int) (hm : a.eval m = .map (some b)) (hx : a.eval x = .int .i64 y) (hy : I64 y) (hown : MapInt w b n f)
    (hK : wpList Try.prog ops Q rest (a.put o.dst (.tuple #[.int .i64 ((f y).getD 0), .bool (f y).isSome])) w) : wpList Try.prog ops Q (o :: rest) a w := by
  refine wpList_plain hg fun K' hK' => ?_
  have hrun := hown.look hy
  unfold Oper.wp
  simp [execOp, hop, hm, hx, hrun, Result.andThen]
  exact hK' _ _ hK

theorem wpList_upd {ops : Array Oper} {rest : List Oper} {o : Oper} {a : Act} {Q : Exit → Act → World → Prop} (hg : o.guard = none) (m x v : Operand) (hop : o.op = Op.mapUpdate 44 m x v)
    (b n : Nat) (f : Int → Option Int) (y z : Int) (hm : a.eval m = .map (some b)) (hx : a.eval x = .int .i64 y) (hv : a.eval v = .int .i64 z) (hy : I64 y) (hz : I64 z) (hn : n < maxLen) (hown : MapInt w b n f)
    (hK : ∀ w', MapInt w' b (n + 1) (upd f y z) → KeptBut (fun k => k = b) w w' → wpList Try.prog ops Q rest (a.put o.dst undef) w') : wpList Try.prog ops Q (o :: rest) a w := by
  refine wpList_plain hg fun K' hK' => ?_
  obtain ⟨w', hrun, r1, r2⟩ := hown.store hn hy hz
  unfold Oper.wp
  simp [execOp, hop, hm, hx, hv, hrun, Result.andThen]
  exact hK' _ _ (hK w' r1 r2)

theorem run_makeMap_hint (h : Int) (w : World) : (Instr.makeMap 44 (some (.int .i64 h))).run Try.prog w = .ok (.map (some w.heap.size)) (w.alloc (.map #[] 0)) := by
  simp [Instr.makeMap, run_underlying Try.underlying44, asInt, asIntOf, Result.andThen]

end Claims
end Go.Proofs.Qxb6601938a
