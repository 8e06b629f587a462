/-
  SEAT b6601938a. FROM A READING OF A []Step ARGUMENT TO ITS STEPS.
-/
import Derived.Test.Qxb6601938aClaimRel
import Derived.ProofKit
import Derived.Deep.Slices
namespace Go.Proofs.Qxb6601938a
open Go.ChangeShapes Go.WideShapes Go.ChangeAt Go.RowKit Go.Deep

namespace Claims
theorem cells51 : Try.prog.cellsOf 51 = 3 := by kernel_rfl
theorem cells2 : Try.prog.cellsOf 2 = 1 := by kernel_rfl
theorem cells3 : Try.prog.cellsOf 3 = 1 := by kernel_rfl
theorem cells4 : Try.prog.cellsOf 4 = 1 := by kernel_rfl

section
variable {H : Type} {enc : TypeId × Value → H} {w : World} {base : Nat} {held : Bool}

theorem one_at {cs : List Value} {i : Nat} {v : Value} (h : (cs.drop i).take 1 = [v]) : cs[i]? = some v := by
  have := congrArg (fun l => l[0]?) h
  simpa using this

theorem step_of_trod {fuel : Nat} {cs : List Value} {x : DataW H × List MemPlace} (h : DataW.trod enc Try.prog w base (fun _ => true) held fuel 51 cs = some x) : ∃ y : Step3, cs = y.cells ∧ I64 y.idx ∧ I64 y.txn := by
  obtain ⟨xs, n, _, _, hl, hxl, hf⟩ := DataW.trod_struct Try.underlying51 h
  rw [cells51] at hl
  have hx : ∀ i, i < 3 → ∃ y, xs[i]? = some y := fun i hi => by
    have hxl' : xs.length = 3 := hxl
    exact ⟨_, List.getElem?_eq_getElem (by omega)⟩
  have f0 : DataW.trod enc Try.prog w base (fun _ => true) held n 2 ((cs.drop 0).take (Try.prog.cellsOf 2)) = xs[0]? := hf 0 _ rfl
  have f1 : DataW.trod enc Try.prog w base (fun _ => true) held n 4 ((cs.drop 1).take (Try.prog.cellsOf 4)) = xs[1]? := hf 1 _ rfl
  have f2 : DataW.trod enc Try.prog w base (fun _ => true) held n 3 ((cs.drop 2).take (Try.prog.cellsOf 3)) = xs[2]? := hf 2 _ rfl
  obtain ⟨y0, e0⟩ := hx 0 (by decide)
  obtain ⟨y1, e1⟩ := hx 1 (by decide)
  obtain ⟨y2, e2⟩ := hx 2 (by decide)
  rw [e0] at f0; rw [e1] at f1; rw [e2] at f2
  obtain ⟨n0, g0, _, w0⟩ := DataW.trod_int Try.underlying2 f0
  obtain ⟨n1, g1, _⟩ := DataW.trod_bool Try.underlying4 f1
  obtain ⟨n2, g2, _, w2⟩ := DataW.trod_int Try.underlying3 f2
  simp only [cells2, cells4, cells3] at g0 g1 g2
  refine ⟨⟨n0, n1, n2⟩, ?_, w0, w2⟩
  apply List.ext_getElem?
  intro i
  match i with
  | 0 => exact one_at g0
  | 1 => exact one_at g1
  | 2 => exact one_at g2
  | i + 3 =>
    rw [List.getElem?_eq_none (by omega), List.getElem?_eq_none (by show 3 ≤ i + 3; omega)]

theorem steps_open {a : Option Addr} {len cap : Nat} {d : DataW H} {p : List MemPlace} (h : DataW.Trod enc Try.prog w base (fun _ => true) held 41 (.slice a len cap) d p) :
    ∃ (xs : List Step3) (b o : Nat), xs.length = len ∧ len ≤ maxLen ∧ StepsIn w a b o xs := by
  obtain ⟨fuel, hf⟩ := h
  rcases open_slice Try.underlying41 hf with ⟨hcs, _⟩ | ⟨ad, l, c, m, n, D, Pl, hcs, hb, hl, hm, hmm, _, hx⟩
  · simp [Value.cells] at hcs
    obtain ⟨rfl, rfl, rfl⟩ := hcs
    exact ⟨[], 0, 0, rfl, by unfold maxLen; omega, ⟨fun h => by simp at h, fun h => by simp at h, fun i hi => by simp at hi, fun i hi => by simp at hi⟩⟩
  · simp [Value.cells] at hcs
    obtain ⟨rfl, rfl, rfl⟩ := hcs
    simp only [if_true] at hmm
    subst hmm
    rw [cells51] at hx
    have hx' : ∀ i, i < len → ∃ y : Step3, (∀ j, j < 3 → w.cell? (ad.add (i * 3 + j)) = y.cells[j]?) ∧ I64 y.idx ∧ I64 y.txn := by
      intro i hi
      obtain ⟨cs, h1, h2⟩ := hx i (by omega)
      obtain ⟨y, rfl, hL⟩ := step_of_trod h2
      refine ⟨y, fun j hj => ?_, hL⟩
      have := (World.cells?_some h1).2.2 j hj
      rwa [Go.Deep.add_add] at this
    have hG : ∃ G : Nat → Step3, ∀ i, i < len → (∀ j, j < 3 → w.cell? (ad.add (i * 3 + j)) = (G i).cells[j]?) ∧ I64 (G i).idx ∧ I64 (G i).txn :=
      ⟨fun i => if hi : i < len then Classical.choose (hx' i hi) else step0, fun i hi => by
        simp only [dif_pos hi]
        exact Classical.choose_spec (hx' i hi)⟩
    obtain ⟨G, hG⟩ := hG
    have e1 : ∀ i, i < len → ((List.range len).map G).getD i step0 = G i := fun i hi => by simp [List.getD, hi]
    by_cases h0 : len = 0
    · subst h0
      exact ⟨[], 0, 0, rfl, by unfold maxLen; omega, ⟨fun h => by simp at h, fun h => by simp at h, fun i hi => by simp at hi, fun i hi => by simp at hi⟩⟩
    · obtain ⟨b, off, spot⟩ := ad
      have hc0 : w.cell? ((⟨b, off, spot⟩ : Addr).add (0 * 3 + 0)) = some (.int .i64 (G 0).idx) := (hG 0 (by omega)).1 0 (by omega)
      have hspot : spot = none := by simpa [Addr.add] using World.cell?_spot hc0
      subst hspot
      refine ⟨(List.range len).map G, b, off, by simp, by omega, ⟨fun _ => rfl, fun _ => ?_, ?_, ?_⟩⟩
      · have := World.block_lt_of_cell? w _ hc0
        simpa [Addr.add] using this
      · intro i hi j v hv
        have hi' : i < len := by simpa using hi
        rw [e1 i hi'] at hv
        have hj : j < 3 := (List.getElem?_eq_some_iff.1 hv).1
        have := (hG i hi').1 j hj
        rw [add_plain] at this
        rw [Nat.add_assoc, this]
        exact hv
      · intro i hi
        have hi' : i < len := by simpa using hi
        rw [e1 i hi']
        exact (hG i hi').2
end
end Claims
end Go.Proofs.Qxb6601938a
