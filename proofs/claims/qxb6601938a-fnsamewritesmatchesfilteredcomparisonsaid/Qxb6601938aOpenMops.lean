/-
  SEAT b6601938a. FROM A READING OF A []Mop ARGUMENT TO ITS MICRO-OPERATIONS.
-/
import Derived.Test.Qxb6601938aMops
import Derived.ProofKit
import Derived.Deep.Slices
namespace Go.Proofs.Qxb6601938a
open Go.ChangeShapes Go.WideShapes Go.ChangeAt Go.RowKit Go.Deep

namespace OpenMops
theorem cells68 : Try.prog.cellsOf 68 = 5 := by kernel_rfl
theorem cells2 : Try.prog.cellsOf 2 = 1 := by kernel_rfl
theorem cells4 : Try.prog.cellsOf 4 = 1 := by kernel_rfl
theorem cells5 : Try.prog.cellsOf 5 = 1 := by kernel_rfl
theorem cells49 : Try.prog.cellsOf 49 = 1 := by kernel_rfl

section
variable {H : Type} {enc : TypeId × Value → H} {w : World} {base : Nat} {held : Bool}

theorem one_at {cs : List Value} {i : Nat} {v : Value} (h : (cs.drop i).take 1 = [v]) : cs[i]? = some v := by
  have := congrArg (fun l => l[0]?) h
  simpa using this

/-- A slice of int64 that is read: its form, and its cells. -/
theorem list_of_trod {fuel : Nat} {cs : List Value} {x : DataW H × List MemPlace} (h : DataW.trod enc Try.prog w base (fun _ => true) held fuel 49 cs = some x) :
    ∃ (la : Option Addr) (ll lc b o : Nat), cs = [.slice la ll lc] ∧ ll ≤ maxLen ∧ (0 < ll → la = some ⟨b, o, none⟩) ∧ (0 < ll → b < w.heap.size) ∧ ∀ j, j < ll → ∃ v : Int, w.cell? ⟨b, o + j, none⟩ = some (.int .i64 v) := by
  rcases open_ints Try.underlying49 Try.underlying2 cells2 h with ⟨rfl, _⟩ | ⟨a, l, c, zs, rfl, _, hl, hm, hz, _, hcell, _⟩
  · exact ⟨none, 0, 0, 0, 0, rfl, by unfold maxLen; omega, fun h => by omega, fun h => by omega, fun j hj => by omega⟩
  · simp only [if_true] at hz
    by_cases h0 : l = 0
    · subst h0
      exact ⟨some a, 0, c, 0, 0, rfl, by unfold maxLen; omega, fun h => by omega, fun h => by omega, fun j hj => by omega⟩
    · obtain ⟨b, off, spot⟩ := a
      have hc0 := hcell 0 (by omega)
      have hspot : spot = none := by simpa [Addr.add] using World.cell?_spot hc0
      subst hspot
      refine ⟨_, l, c, b, off, rfl, by omega, fun _ => rfl, fun _ => ?_, fun j hj => ?_⟩
      · have := World.block_lt_of_cell? w _ hc0
        simpa [Addr.add] using this
      · have := hcell j (by omega)
        rw [add_plain] at this
        exact ⟨_, this⟩

theorem mop_of_trod {fuel : Nat} {cs : List Value} {x : DataW H × List MemPlace} (h : DataW.trod enc Try.prog w base (fun _ => true) held fuel 68 cs = some x) : ∃ (y : Mop5) (b o : Nat), cs = y.cells ∧ ListIn w y b o := by
  obtain ⟨xs, n, _, _, hl, hxl, hf⟩ := DataW.trod_struct Try.underlying68 h
  rw [cells68] at hl
  have hx : ∀ i, i < 5 → ∃ y, xs[i]? = some y := fun i hi => by
    have hxl' : xs.length = 5 := hxl
    exact ⟨_, List.getElem?_eq_getElem (by omega)⟩
  have f0 : DataW.trod enc Try.prog w base (fun _ => true) held n 5 ((cs.drop 0).take (Try.prog.cellsOf 5)) = xs[0]? := hf 0 _ rfl
  have f1 : DataW.trod enc Try.prog w base (fun _ => true) held n 4 ((cs.drop 1).take (Try.prog.cellsOf 4)) = xs[1]? := hf 1 _ rfl
  have f2 : DataW.trod enc Try.prog w base (fun _ => true) held n 2 ((cs.drop 2).take (Try.prog.cellsOf 2)) = xs[2]? := hf 2 _ rfl
  have f3 : DataW.trod enc Try.prog w base (fun _ => true) held n 2 ((cs.drop 3).take (Try.prog.cellsOf 2)) = xs[3]? := hf 3 _ rfl
  have f4 : DataW.trod enc Try.prog w base (fun _ => true) held n 49 ((cs.drop 4).take (Try.prog.cellsOf 49)) = xs[4]? := hf 4 _ rfl
  obtain ⟨y0, e0⟩ := hx 0 (by decide)
  obtain ⟨y1, e1⟩ := hx 1 (by decide)
  obtain ⟨y2, e2⟩ := hx 2 (by decide)
  obtain ⟨y3, e3⟩ := hx 3 (by decide)
  obtain ⟨y4, e4⟩ := hx 4 (by decide)
  rw [e0] at f0; rw [e1] at f1; rw [e2] at f2; rw [e3] at f3; rw [e4] at f4
  obtain ⟨n0, g0, _, _⟩ := DataW.trod_int Try.underlying5 f0
  obtain ⟨n1, g1, _⟩ := DataW.trod_bool Try.underlying4 f1
  obtain ⟨n2, g2, _, _⟩ := DataW.trod_int Try.underlying2 f2
  obtain ⟨n3, g3, _, _⟩ := DataW.trod_int Try.underlying2 f3
  obtain ⟨la, ll, lc, b, o, g4, k1, k2, k3, k4⟩ := list_of_trod f4
  simp only [cells2, cells4, cells5, cells49] at g0 g1 g2 g3 g4
  refine ⟨⟨n0, n1, n2, n3, la, ll, lc⟩, b, o, ?_, ⟨k1, k2, k3, k4⟩⟩
  apply List.ext_getElem?
  intro i
  match i with
  | 0 => exact one_at g0
  | 1 => exact one_at g1
  | 2 => exact one_at g2
  | 3 => exact one_at g3
  | 4 => exact one_at g4
  | i + 5 =>
    rw [List.getElem?_eq_none (by omega), List.getElem?_eq_none (by show 5 ≤ i + 5; omega)]

theorem mops_open {a : Option Addr} {len cap : Nat} {d : DataW H} {p : List MemPlace} (h : DataW.Trod enc Try.prog w base (fun _ => true) held 34 (.slice a len cap) d p) :
    ∃ (xs : List Mop5) (b o : Nat), xs.length = len ∧ len ≤ maxLen ∧ MopsIn w a b o xs ∧ Lists w xs := by
  obtain ⟨fuel, hf⟩ := h
  rcases open_slice Try.underlying34 hf with ⟨hcs, _⟩ | ⟨ad, l, c, m, n, D, Pl, hcs, hb, hl, hm, hmm, _, hx⟩
  · simp [Value.cells] at hcs
    obtain ⟨rfl, rfl, rfl⟩ := hcs
    exact ⟨[], 0, 0, rfl, by unfold maxLen; omega, ⟨fun h => by simp at h, fun h => by simp at h, fun i hi => by simp at hi⟩, fun i hi => by simp at hi⟩
  · simp [Value.cells] at hcs
    obtain ⟨rfl, rfl, rfl⟩ := hcs
    simp only [if_true] at hmm
    subst hmm
    rw [cells68] at hx
    have hx' : ∀ i, i < len → ∃ y : Mop5, (∀ j, j < 5 → w.cell? (ad.add (i * 5 + j)) = y.cells[j]?) ∧ ∃ b o, ListIn w y b o := by
      intro i hi
      obtain ⟨cs, h1, h2⟩ := hx i (by omega)
      obtain ⟨y, b, o, rfl, hL⟩ := mop_of_trod h2
      refine ⟨y, fun j hj => ?_, b, o, hL⟩
      have := (World.cells?_some h1).2.2 j hj
      rwa [Go.Deep.add_add] at this
    have hG : ∃ G : Nat → Mop5, ∀ i, i < len → (∀ j, j < 5 → w.cell? (ad.add (i * 5 + j)) = (G i).cells[j]?) ∧ ∃ b o, ListIn w (G i) b o :=
      ⟨fun i => if hi : i < len then Classical.choose (hx' i hi) else mop0, fun i hi => by
        simp only [dif_pos hi]
        exact Classical.choose_spec (hx' i hi)⟩
    obtain ⟨G, hG⟩ := hG
    have e1 : ∀ i, i < len → ((List.range len).map G).getD i mop0 = G i := fun i hi => by simp [List.getD, hi]
    have hLs : Lists w ((List.range len).map G) := by
      intro i hi
      have hi' : i < len := by simpa using hi
      rw [e1 i hi']
      exact (hG i hi').2
    by_cases h0 : len = 0
    · subst h0
      exact ⟨[], 0, 0, rfl, by unfold maxLen; omega, ⟨fun h => by simp at h, fun h => by simp at h, fun i hi => by simp at hi⟩, fun i hi => by simp at hi⟩
    · obtain ⟨b, off, spot⟩ := ad
      have hc0 : w.cell? ((⟨b, off, spot⟩ : Addr).add (0 * 5 + 0)) = some (.int .u8 (G 0).kind) := (hG 0 (by omega)).1 0 (by omega)
      have hspot : spot = none := by simpa [Addr.add] using World.cell?_spot hc0
      subst hspot
      refine ⟨(List.range len).map G, b, off, by simp, by omega, ⟨fun _ => rfl, fun _ => ?_, ?_⟩, hLs⟩
      · have := World.block_lt_of_cell? w _ hc0
        simpa [Addr.add] using this
      · intro i hi j v hv
        have hi' : i < len := by simpa using hi
        rw [e1 i hi'] at hv
        have hj : j < 5 := (List.getElem?_eq_some_iff.1 hv).1
        have := (hG i hi').1 j hj
        rw [add_plain] at this
        rw [Nat.add_assoc, this]
        exact hv
end
end OpenMops
end Go.Proofs.Qxb6601938a
