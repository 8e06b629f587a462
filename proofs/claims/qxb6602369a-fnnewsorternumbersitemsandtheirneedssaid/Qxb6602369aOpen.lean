/-
  SEAT b6602369a. FROM A READING OF A []Node ARGUMENT TO ITS NODES.
-/
import Derived.Test.Qxb6602369aGuards
import Derived.ProofKit
import Derived.Deep.Slices
import Derived.Deep.SlicePairs
namespace Go.Proofs.Qxb6602369a
open Go.ChangeShapes Go.WideShapes Go.ChangeAt Go.RowKit Go.Deep

namespace Open
theorem cells40 : Try.prog.cellsOf 40 = 3 := by kernel_rfl
theorem cells37 : Try.prog.cellsOf 37 = 1 := by kernel_rfl
theorem cells38 : Try.prog.cellsOf 38 = 1 := by kernel_rfl
theorem cells4 : Try.prog.cellsOf 4 = 1 := by kernel_rfl
theorem cells51 : Try.prog.cellsOf 51 = 2 := by kernel_rfl
theorem cells3 : Try.prog.cellsOf 3 = 1 := by kernel_rfl

section
variable {H : Type} {enc : TypeId × Value → H} {w : World} {base : Nat} {held : Bool}

theorem refs_of_trod {fuel : Nat} {cs : List Value} {x : DataW H × List MemPlace} (h : DataW.trod enc Try.prog w base (fun _ => true) held fuel 37 cs = some x) :
    ∃ (v : Value) (rs : List (Int × Int)), cs = [v] ∧ rs.length ≤ maxLen ∧ RefsV w v rs := by
  rcases open_slice_pairs Try.underlying37 Try.underlying51 cells51 rfl rfl cells3 cells3 h with ⟨rfl, _⟩ | ⟨ad, l, c, m, n, V0, V1, D0, D1, P0, P1, rfl, _, hl, hm, hmm, _, hcell⟩
  · exact ⟨_, [], rfl, by simp, none, 0, 0, 0, rfl, RefsAt.nil w none⟩
  · simp only [if_true] at hmm
    subst hmm
    by_cases h0 : l = 0
    · subst h0
      exact ⟨_, [], rfl, by simp, some ad, 0, 0, m, rfl, RefsAt.nil w _⟩
    · have hv : ∀ i, i < l → ∃ r : Int × Int, w.cell? (ad.add (i * 2)) = some (.int .i64 r.1) ∧ w.cell? (ad.add (i * 2 + 1)) = some (.int .i64 r.2) := fun i hi => by
        obtain ⟨h1, h2, h3, h4⟩ := hcell i (by omega)
        obtain ⟨x0, e0, _⟩ := DataW.trod_int Try.underlying3 h3
        obtain ⟨x1, e1, _⟩ := DataW.trod_int Try.underlying3 h4
        simp at e0 e1
        exact ⟨(x0, x1), by rw [h1, e0], by rw [h2, e1]⟩
      obtain ⟨G, hG⟩ := choose_lt (α := Int × Int) (p := fun i r => w.cell? (ad.add (i * 2)) = some (.int .i64 r.1) ∧ w.cell? (ad.add (i * 2 + 1)) = some (.int .i64 r.2)) hv
      obtain ⟨b, off, spot⟩ := ad
      have hc0 := (hG 0 (by omega)).1
      have hspot : spot = none := by simpa [Addr.add] using World.cell?_spot hc0
      subst hspot
      have hlt : b < w.heap.size := by
        have := World.block_lt_of_cell? w _ hc0
        simpa [Addr.add] using this
      refine ⟨_, (List.range l).map G, rfl, by simp; omega, some ⟨b, off, none⟩, b, off, m, by simp, fun _ => rfl, fun _ => hlt, fun i hi => ?_, fun i hi => ?_⟩
      · have hi' : i < l := by simpa using hi
        have := (hG i hi').1
        rw [add_plain] at this
        rw [this]
        simp [List.getD, hi']
      · have hi' : i < l := by simpa using hi
        have := (hG i hi').2
        rw [add_plain, ← Nat.add_assoc] at this
        rw [this]
        simp [List.getD, hi']

theorem parts_of_trod {fuel : Nat} {cs : List Value} {x : DataW H × List MemPlace} (h : DataW.trod enc Try.prog w base (fun _ => true) held fuel 38 cs = some x) :
    ∃ (v : Value) (ps : List (List (Int × Int))), cs = [v] ∧ ps.length ≤ maxLen ∧ (∀ i, i < ps.length → (ps.getD i []).length ≤ maxLen) ∧ PartsV w v ps := by
  rcases open_slice1 Try.underlying38 cells37 h with ⟨rfl, _⟩ | ⟨ad, l, c, m, n, V, D, Pl, rfl, _, hl, hm, hmm, _, hcell⟩
  · exact ⟨_, [], rfl, by simp, fun i hi => by simp at hi, none, 0, 0, 0, rfl, ⟨fun h => by simp at h, fun h => by simp at h, fun i hi => by simp at hi⟩⟩
  · simp only [if_true] at hmm
    subst hmm
    by_cases h0 : l = 0
    · subst h0
      exact ⟨_, [], rfl, by simp, fun i hi => by simp at hi, some ad, 0, 0, m, rfl, ⟨fun h => by simp at h, fun h => by simp at h, fun i hi => by simp at hi⟩⟩
    · have hv : ∀ i, i < l → ∃ rs : List (Int × Int), ∃ v, w.cell? (ad.add i) = some v ∧ rs.length ≤ maxLen ∧ RefsV w v rs := fun i hi => by
        obtain ⟨h1, h2⟩ := hcell i (by omega)
        obtain ⟨v, rs, e0, h3, h4⟩ := refs_of_trod h2
        simp at e0
        exact ⟨rs, v, by rw [h1, e0], h3, h4⟩
      obtain ⟨G, hG⟩ := choose_lt (α := List (Int × Int)) (p := fun i rs => ∃ v, w.cell? (ad.add i) = some v ∧ rs.length ≤ maxLen ∧ RefsV w v rs) hv
      obtain ⟨b, off, spot⟩ := ad
      have hc0 := (hcell 0 (by omega)).1
      have hspot : spot = none := by simpa [Addr.add] using World.cell?_spot hc0
      subst hspot
      have hlt : b < w.heap.size := by
        have := World.block_lt_of_cell? w _ hc0
        simpa [Addr.add] using this
      have eG : ∀ i, i < l → ((List.range l).map G).getD i [] = G i := fun i hi => by simp [List.getD, hi]
      refine ⟨_, (List.range l).map G, rfl, by simp; omega, fun i hi => ?_, some ⟨b, off, none⟩, b, off, m, by simp, fun _ => rfl, fun _ => hlt, fun i hi => ?_⟩
      · have hi' : i < l := by simpa using hi
        rw [eG i hi']
        obtain ⟨v, _, h3, _⟩ := hG i hi'
        exact h3
      · have hi' : i < l := by simpa using hi
        rw [eG i hi']
        obtain ⟨v, h1, _, h4⟩ := hG i hi'
        rw [add_plain] at h1
        exact ⟨v, h1, h4⟩

theorem one_at {cs : List Value} {i : Nat} {v : Value} (h : (cs.drop i).take 1 = [v]) : cs[i]? = some v := by
  have := congrArg (fun l => l[0]?) h
  simpa using this

/-- The lengths of a node. -/
def LenOk (x : Nd) : Prop := x.needs.length ≤ maxLen ∧ x.parts.length ≤ maxLen ∧ ∀ i, i < x.parts.length → (x.parts.getD i []).length ≤ maxLen

theorem node_of_trod {fuel : Nat} {cs : List Value} {x : DataW H × List MemPlace} (h : DataW.trod enc Try.prog w base (fun _ => true) held fuel 40 cs = some x) :
    ∃ (y : Nd) (u v : Value), cs = [u, v, .bool y.lead] ∧ RefsV w u y.needs ∧ PartsV w v y.parts ∧ LenOk y := by
  obtain ⟨xs, n, _, _, hl, hxl, hf⟩ := DataW.trod_struct Try.underlying40 h
  rw [cells40] at hl
  have hx : ∀ i, i < 3 → ∃ y, xs[i]? = some y := fun i hi => by
    have hxl' : xs.length = 3 := hxl
    exact ⟨_, List.getElem?_eq_getElem (by omega)⟩
  have f0 : DataW.trod enc Try.prog w base (fun _ => true) held n 37 ((cs.drop 0).take (Try.prog.cellsOf 37)) = xs[0]? := hf 0 _ rfl
  have f1 : DataW.trod enc Try.prog w base (fun _ => true) held n 38 ((cs.drop 1).take (Try.prog.cellsOf 38)) = xs[1]? := hf 1 _ rfl
  have f2 : DataW.trod enc Try.prog w base (fun _ => true) held n 4 ((cs.drop 2).take (Try.prog.cellsOf 4)) = xs[2]? := hf 2 _ rfl
  obtain ⟨y0, e0⟩ := hx 0 (by decide)
  obtain ⟨y1, e1⟩ := hx 1 (by decide)
  obtain ⟨y2, e2⟩ := hx 2 (by decide)
  rw [e0] at f0; rw [e1] at f1; rw [e2] at f2
  obtain ⟨u, rs, g0, l0, hu⟩ := refs_of_trod f0
  obtain ⟨v, ps, g1, l1, l2, hv⟩ := parts_of_trod f1
  obtain ⟨β, g2, _⟩ := DataW.trod_bool Try.underlying4 f2
  simp only [cells37, cells38, cells4] at g0 g1 g2
  refine ⟨⟨rs, ps, β⟩, u, v, ?_, hu, hv, l0, l1, l2⟩
  apply List.ext_getElem?
  intro i
  match i with
  | 0 => exact one_at g0
  | 1 => exact one_at g1
  | 2 => exact one_at g2
  | i + 3 =>
    rw [List.getElem?_eq_none (by omega), List.getElem?_eq_none (by show 3 ≤ i + 3; omega)]

theorem nodes_open {a : Option Addr} {len cap : Nat} {d : DataW H} {p : List MemPlace} (h : DataW.Trod enc Try.prog w base (fun _ => true) held 29 (.slice a len cap) d p) :
    ∃ (nds : List Nd) (b o : Nat), nds.length = len ∧ Lens nds ∧ NodesAt w a b o nds := by
  obtain ⟨fuel, hf⟩ := h
  rcases open_slice Try.underlying29 hf with ⟨hcs, _⟩ | ⟨ad, l, c, m, n, D, Pl, hcs, hb, hl, hm, hmm, _, hx⟩
  · simp [Value.cells] at hcs
    obtain ⟨rfl, rfl, rfl⟩ := hcs
    exact ⟨[], 0, 0, rfl, ⟨by simp, fun k hk => by simp at hk⟩, ⟨fun h => by simp at h, fun h => by simp at h, fun i hi => by simp at hi⟩⟩
  · simp [Value.cells] at hcs
    obtain ⟨rfl, rfl, rfl⟩ := hcs
    simp only [if_true] at hmm
    subst hmm
    rw [cells40] at hx
    by_cases h0 : len = 0
    · subst h0
      exact ⟨[], 0, 0, rfl, ⟨by simp, fun k hk => by simp at hk⟩, ⟨fun h => by simp at h, fun h => by simp at h, fun i hi => by simp at hi⟩⟩
    · have hx' : ∀ i, i < len → ∃ y : Nd, LenOk y ∧ ∃ u v, w.cell? (ad.add (i * 3)) = some u ∧ RefsV w u y.needs ∧ w.cell? (ad.add (i * 3 + 1)) = some v ∧ PartsV w v y.parts ∧ w.cell? (ad.add (i * 3 + 2)) = some (.bool y.lead) := by
        intro i hi
        obtain ⟨cs, h1, h2⟩ := hx i (by omega)
        obtain ⟨y, u, v, rfl, hu, hv, hlen⟩ := node_of_trod h2
        have hc := (World.cells?_some h1).2.2
        have c0 := hc 0 (by decide)
        have c1 := hc 1 (by decide)
        have c2 := hc 2 (by decide)
        rw [Go.Deep.add_add] at c0 c1 c2
        exact ⟨y, hlen, u, v, by simpa using c0, hu, by simpa using c1, hv, by simpa using c2⟩
      have : Inhabited Nd := ⟨nd0⟩
      obtain ⟨G, hG⟩ := choose_lt (α := Nd) (p := fun i y => LenOk y ∧ ∃ u v, w.cell? (ad.add (i * 3)) = some u ∧ RefsV w u y.needs ∧ w.cell? (ad.add (i * 3 + 1)) = some v ∧ PartsV w v y.parts ∧ w.cell? (ad.add (i * 3 + 2)) = some (.bool y.lead)) hx'
      have eG : ∀ i, i < len → nod ((List.range len).map G) i = G i := fun i hi => by simp [nod, List.getD, hi]
      obtain ⟨b, off, spot⟩ := ad
      obtain ⟨_, u0, v0, hc0, _⟩ := hG 0 (by omega)
      have hspot : spot = none := by simpa [Addr.add] using World.cell?_spot hc0
      subst hspot
      have hlt : b < w.heap.size := by
        have := World.block_lt_of_cell? w _ hc0
        simpa [Addr.add] using this
      refine ⟨(List.range len).map G, b, off, by simp, ⟨by simp; omega, fun k hk => ?_⟩, fun _ => rfl, fun _ => hlt, fun i hi => ?_⟩
      · have hk' : k < len := by simpa using hk
        have h1 := (hG k hk').1
        unfold pl
        rw [eG k hk']
        exact h1
      · have hi' : i < len := by simpa using hi
        rw [eG i hi']
        obtain ⟨_, u, v, g0, g1, g2, g3, g4⟩ := hG i hi'
        rw [add_plain] at g0 g2 g4
        exact ⟨u, v, g0, g1, by rw [Nat.add_assoc]; exact g2, g3, by rw [Nat.add_assoc]; exact g4⟩
end
end Open
end Go.Proofs.Qxb6602369a
