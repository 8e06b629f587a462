/-
  SEAT b6601938a. SMALL FACTS ON MEMORY, over any program: ranges of cells ('rangeAt', 'there'), 'Below' over stores of many cells, 'make' of wide elements.
-/
import Derived.Test.Qxb6601938aRows
import Derived.WalkKit
import Derived.WalkSpells
import Derived.WalkLawsBesides
import Derived.Deep.MidRow
namespace Go.Proofs.Qxb6601938a
open Go.RowKit

theorem below_setCells {B b : Nat} {a : World} (hb : B ≤ b) : ∀ (vs : List Value) (o : Nat) (w : World), Below B a w → Below B a (w.setCells b o vs)
  | [], _, _, h => h
  | v :: r, o, w, h => by
    rw [World.setCells]
    exact below_setCells hb r (o + 1) _ (h.setCell (p := ⟨b, o, none⟩) hb v)

theorem size_setCells (b : Nat) : ∀ (vs : List Value) (o : Nat) (w : World), (w.setCells b o vs).heap.size = w.heap.size
  | [], _, _ => rfl
  | v :: r, o, w => by
    rw [World.setCells, size_setCells b r (o + 1)]
    simp [World.setCell]

theorem range_below {w w' : World} {B b o : Nat} {cs : List Value} (h : w.rangeAt b o cs) (hb : Below B w w') (hlt : b < B) : w'.rangeAt b o cs := by
  intro j v hv
  rw [hb.cell (p := ⟨b, _, none⟩) hlt]
  exact h j v hv

theorem there_below {w w' : World} {B b o n : Nat} (h : w.there b o n) (hb : Below B w w') (hlt : b < B) : w'.there b o n := by
  intro j hj
  rw [hb.cell (p := ⟨b, _, none⟩) hlt, hb.frozen (p := ⟨b, _, none⟩) hlt]
  exact h j hj

theorem there_sub {w : World} {b o n : Nat} (h : w.there b o n) (o' m : Nat) (h1 : o ≤ o') (h2 : o' + m ≤ o + n) : w.there b o' m := by
  intro j hj
  have := h (o' - o + j) (by omega)
  rw [show o + (o' - o + j) = o' + j by omega] at this
  exact this

/-- A block that is made now: all its cells are there. -/
theorem there_new (w : World) (C : Array Value) (t : TypeId) : (w.alloc (.cells C t)).there w.heap.size 0 C.size := by
  intro j hj
  have hb : (w.alloc (.cells C t)).heap[w.heap.size]? = some (.cells C t (0, 0)) := by
    show (w.heap.push _)[w.heap.size]? = _
    simp
  refine ⟨?_, ?_⟩
  · unfold World.cell?
    dsimp only
    rw [hb]
    simp [hj]
  · unfold World.frozen?
    dsimp only
    rw [hb]
    rfl

/-- 'make([]T, n)', T of 'size' cells. -/
theorem run_make_wide {P : Program} (t e : TypeId) (z : Value) (size bytes : Nat) (ht : P.underlying t = some (.slice e)) (hinfo : (P.info? e).map (fun i => (i.zero, i.size, i.bytes)) = some (some z, size, bytes))
    (n : Nat) (hbytes : bytes * n ≤ 281474976710656) (h63 : n ≤ 9223372036854775807) (w : World) :
    (Instr.makeSlice t (.int .i64 (n : Int)) (.int .i64 (n : Int))).run P w = .ok (.slice (some ⟨w.heap.size, 0, none⟩) n n) (w.alloc (.cells (madeCells z.cells (n * size)) e)) := by
  obtain ⟨i, hi, hzz⟩ := Option.map_eq_some_iff.1 hinfo
  simp only [Prod.mk.injEq] at hzz
  obtain ⟨hz, hs, hb⟩ := hzz
  have hb' : (i.bytes : Int) * (n : Int) ≤ 281474976710656 := by
    have h : ((i.bytes * n : Nat) : Int) ≤ 281474976710656 := by rw [hb]; omega
    rwa [Int.natCast_mul] at h
  have hr := run_make (P := P) w t e i z ht hi hz .i64 .i64 n n (by omega) (Int.le_refl _) hb' (by omega)
  simp only [Int.toNat_natCast, hs] at hr
  exact hr

/-- A store of a struct, its cells given as a list. -/
theorem wpList_store_cs {P : Program} {ops : Array Oper} {rest : List Oper} {op : Oper} {a : Act} {w : World} {Q : Exit → Act → World → Prop} (hgd : op.guard = none) (ty : TypeId) (x y : Operand) (ho : op.op = .store ty x y)
    (b o : Nat) (cs : List Value) (hx : a.eval x = .pointer (some ⟨b, o, none⟩)) (hy : a.eval y = .agg cs.toArray)
    (hi : (P.info? ty).map (·.size) = some cs.length) (h1 : cs.all (·.oneCell') = true) (ht : w.there b o cs.length)
    (h : wpList P ops Q rest (a.put op.dst undef) (w.setCells b o cs)) : wpList P ops Q (op :: rest) a w :=
  wpList_store_mid hgd ty x y ho b o cs.toArray hx hy (by simpa using ht) (by simpa using hi) (all_oneCell_toArray (by simpa using h1)) (by simpa using h)

theorem run_storeAt_cs {P : Program} (w : World) (b o : Nat) (ty : TypeId) (cs : List Value) (hi : (P.info? ty).map (·.size) = some cs.length) (h1 : cs.all (·.oneCell') = true) (ht : w.there b o cs.length) :
    (Instr.storeAt ty (.pointer (some ⟨b, o, none⟩)) (.agg cs.toArray)).run P w = .ok () (w.setCells b o cs) := by
  have := run_storeAt_mid (P := P) w b o ty cs.toArray (by simpa using ht) (by simpa using hi) (all_oneCell_toArray (by simpa using h1))
  simpa using this

theorem ret_u8 {a b : Int} (h : a = b) : Ending.returned (.int .u8 a) = .returned (.int .u8 b) := by rw [h]
theorem ret_i64 {a b : Int} (h : a = b) : Ending.returned (.int .i64 a) = .returned (.int .i64 b) := by rw [h]
theorem int_i64 {a b : Int} (h : a = b) : Value.int .i64 a = .int .i64 b := by rw [h]
theorem ret_bool {a b : Bool} (h : a = b) : Ending.returned (.bool a) = .returned (.bool b) := by rw [h]
end Go.Proofs.Qxb6601938a
