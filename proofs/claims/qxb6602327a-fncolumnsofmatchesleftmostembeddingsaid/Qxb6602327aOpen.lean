/-
  SEAT b6602327a. FROM A READING OF A []string OR []bool ARGUMENT TO ITS CELLS.
-/
import Derived.Test.Qxb6602327aClone
import Derived.ProofKit
import Derived.Deep.Slices
import Derived.SliceStrings
namespace Go.Proofs.Qxb6602327a
open Go.ChangeShapes Go.WideShapes Go.ChangeAt Go.RowKit Go.Deep

namespace Open
theorem cells9 : Try.prog.cellsOf 9 = 1 := by kernel_rfl
theorem cells4 : Try.prog.cellsOf 4 = 1 := by kernel_rfl

section
variable {H : Type} {enc : TypeId × Value → H} {w : World} {base : Nat} {held : Bool}

theorem strs_open {a : Option Addr} {len cap : Nat} {d : DataW H} {p : List MemPlace} (h : DataW.Trod enc Try.prog w base (fun _ => true) held 22 (.slice a len cap) d p) :
    ∃ (xs : List ByteArray) (b o : Nat), xs.length = len ∧ xs.length ≤ maxLen ∧ StrsIn w a b o xs := by
  obtain ⟨fuel, hf⟩ := h
  rcases open_strings Try.underlying22 Try.underlying9 cells9 hf with ⟨hcs, _⟩ | ⟨ad, l, c, ss, hcs, _, hl, hm, hz, _, hcell, _⟩
  · simp [Value.cells] at hcs
    obtain ⟨rfl, rfl, rfl⟩ := hcs
    exact ⟨[], 0, 0, rfl, by simp, ⟨fun h => by simp at h, fun h => by simp at h, fun i hi => by simp at hi⟩⟩
  · simp [Value.cells] at hcs
    obtain ⟨rfl, rfl, rfl⟩ := hcs
    simp only [if_true] at hz
    by_cases h0 : len = 0
    · subst h0
      exact ⟨[], 0, 0, rfl, by simp, ⟨fun h => by simp at h, fun h => by simp at h, fun i hi => by simp at hi⟩⟩
    · obtain ⟨b, off, spot⟩ := ad
      have hc0 := hcell 0 (by omega)
      have hspot : spot = none := by simpa [Addr.add] using World.cell?_spot hc0
      subst hspot
      have hlen : (ss.take len).length = len := by simp; omega
      refine ⟨ss.take len, b, off, hlen, by omega, fun _ => rfl, fun _ => ?_, fun j hj => ?_⟩
      · have := World.block_lt_of_cell? w _ hc0
        simpa [Addr.add] using this
      · have hj' : j < len := by omega
        have := hcell j (by omega)
        rw [add_plain] at this
        rw [this]
        simp [List.getD, hj', str0]

theorem bools_open {a : Option Addr} {len cap : Nat} {d : DataW H} {p : List MemPlace} (h : DataW.Trod enc Try.prog w base (fun _ => true) held 29 (.slice a len cap) d p) :
    ∃ (xs : List Bool) (b o : Nat), xs.length = len ∧ xs.length ≤ maxLen ∧ BoolsIn w a b o xs := by
  obtain ⟨fuel, hf⟩ := h
  rcases open_slice1 Try.underlying29 cells4 hf with ⟨hcs, _⟩ | ⟨ad, l, c, m, n, V, D, Pl, hcs, _, hl, hm, hz, _, hcell⟩
  · simp [Value.cells] at hcs
    obtain ⟨rfl, rfl, rfl⟩ := hcs
    exact ⟨[], 0, 0, rfl, by simp, ⟨fun h => by simp at h, fun h => by simp at h, fun i hi => by simp at hi⟩⟩
  · simp [Value.cells] at hcs
    obtain ⟨rfl, rfl, rfl⟩ := hcs
    simp only [if_true] at hz
    by_cases h0 : len = 0
    · subst h0
      exact ⟨[], 0, 0, rfl, by simp, ⟨fun h => by simp at h, fun h => by simp at h, fun i hi => by simp at hi⟩⟩
    · obtain ⟨b, off, spot⟩ := ad
      have hc0 := (hcell 0 (by omega)).1
      have hspot : spot = none := by simpa [Addr.add] using World.cell?_spot hc0
      subst hspot
      have hv : ∀ i, i < len → ∃ β : Bool, w.cell? ⟨b, off + i, none⟩ = some (.bool β) := fun i hi => by
        obtain ⟨h1, h2⟩ := hcell i (by omega)
        obtain ⟨β, hβ, _⟩ := DataW.trod_bool Try.underlying4 h2
        rw [add_plain] at h1
        simp at hβ
        exact ⟨β, by rw [h1, hβ]⟩
      obtain ⟨G, hG⟩ := choose_lt (α := Bool) (p := fun i β => w.cell? ⟨b, off + i, none⟩ = some (.bool β)) hv
      refine ⟨(List.range len).map G, b, off, by simp, by simp; omega, fun _ => rfl, fun _ => ?_, fun j hj => ?_⟩
      · have := World.block_lt_of_cell? w _ hc0
        simpa [Addr.add] using this
      · have hj' : j < len := by simpa using hj
        rw [hG j hj']
        simp [List.getD, hj']
end
end Open
end Go.Proofs.Qxb6602327a
