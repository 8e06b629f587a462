/-
  SEAT b6602369a. NODES IN MEMORY.
-/
import Derived.Test.Qxb6602369aPlain
namespace Go.Proofs.Qxb6602369a
open Go.RowKit

structure RefsAt (w : World) (a : Option Addr) (b o : Nat) (rs : List (Int × Int)) : Prop where
  addr : 0 < rs.length → a = some ⟨b, o, none⟩
  lt : 0 < rs.length → b < w.heap.size
  node : ∀ i, i < rs.length → w.cell? ⟨b, o + i * 2, none⟩ = some (.int .i64 (rs.getD i (0, 0)).1)
  part : ∀ i, i < rs.length → w.cell? ⟨b, o + i * 2 + 1, none⟩ = some (.int .i64 (rs.getD i (0, 0)).2)

def RefsV (w : World) (v : Value) (rs : List (Int × Int)) : Prop := ∃ a b o c, v = .slice a rs.length c ∧ RefsAt w a b o rs

structure PartsAt (w : World) (a : Option Addr) (b o : Nat) (ps : List (List (Int × Int))) : Prop where
  addr : 0 < ps.length → a = some ⟨b, o, none⟩
  lt : 0 < ps.length → b < w.heap.size
  cell : ∀ j, j < ps.length → ∃ v, w.cell? ⟨b, o + j, none⟩ = some v ∧ RefsV w v (ps.getD j [])

def PartsV (w : World) (v : Value) (ps : List (List (Int × Int))) : Prop := ∃ a b o c, v = .slice a ps.length c ∧ PartsAt w a b o ps

/-- One node's three cells. -/
def NodeAt (w : World) (b o : Nat) (x : Nd) : Prop := ∃ u v, w.cell? ⟨b, o, none⟩ = some u ∧ RefsV w u x.needs ∧ w.cell? ⟨b, o + 1, none⟩ = some v ∧ PartsV w v x.parts ∧ w.cell? ⟨b, o + 2, none⟩ = some (.bool x.lead)

structure NodesAt (w : World) (a : Option Addr) (b o : Nat) (nds : List Nd) : Prop where
  addr : 0 < nds.length → a = some ⟨b, o, none⟩
  lt : 0 < nds.length → b < w.heap.size
  node : ∀ i, i < nds.length → NodeAt w b (o + i * 3) (nod nds i)

theorem below_cell {w w' : World} (h : Below w.heap.size w w') {p : Addr} {v : Value} (hc : w.cell? p = some v) : w'.cell? p = some v := by
  rw [h.cell (World.block_lt_of_cell? w p hc)]; exact hc
theorem RefsAt.below {w w' : World} {a : Option Addr} {b o : Nat} {rs : List (Int × Int)} (h : RefsAt w a b o rs) (hb : Below w.heap.size w w') : RefsAt w' a b o rs :=
  ⟨h.addr, fun h0 => Nat.lt_of_lt_of_le (h.lt h0) hb.size, fun i hi => below_cell hb (h.node i hi), fun i hi => below_cell hb (h.part i hi)⟩
theorem RefsV.below {w w' : World} {v : Value} {rs : List (Int × Int)} (h : RefsV w v rs) (hb : Below w.heap.size w w') : RefsV w' v rs := by
  obtain ⟨a, b, o, c, h1, h2⟩ := h
  exact ⟨a, b, o, c, h1, h2.below hb⟩
theorem PartsAt.below {w w' : World} {a : Option Addr} {b o : Nat} {ps : List (List (Int × Int))} (h : PartsAt w a b o ps) (hb : Below w.heap.size w w') : PartsAt w' a b o ps :=
  ⟨h.addr, fun h0 => Nat.lt_of_lt_of_le (h.lt h0) hb.size, fun j hj => by
    obtain ⟨v, h1, h2⟩ := h.cell j hj
    exact ⟨v, below_cell hb h1, h2.below hb⟩⟩
theorem PartsV.below {w w' : World} {v : Value} {ps : List (List (Int × Int))} (h : PartsV w v ps) (hb : Below w.heap.size w w') : PartsV w' v ps := by
  obtain ⟨a, b, o, c, h1, h2⟩ := h
  exact ⟨a, b, o, c, h1, h2.below hb⟩
theorem NodeAt.below {w w' : World} {b o : Nat} {x : Nd} (h : NodeAt w b o x) (hb : Below w.heap.size w w') : NodeAt w' b o x := by
  obtain ⟨u, v, h1, h2, h3, h4, h5⟩ := h
  exact ⟨u, v, below_cell hb h1, h2.below hb, below_cell hb h3, h4.below hb, below_cell hb h5⟩
theorem NodesAt.below {w w' : World} {a : Option Addr} {b o : Nat} {nds : List Nd} (h : NodesAt w a b o nds) (hb : Below w.heap.size w w') : NodesAt w' a b o nds :=
  ⟨h.addr, fun h0 => Nat.lt_of_lt_of_le (h.lt h0) hb.size, fun i hi => (h.node i hi).below hb⟩
theorem RefsAt.nil (w : World) (a : Option Addr) : RefsAt w a 0 0 [] := ⟨fun h => by simp at h, fun h => by simp at h, fun i hi => by simp at hi, fun i hi => by simp at hi⟩
end Go.Proofs.Qxb6602369a
