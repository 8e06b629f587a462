/-
  SEAT b6601938a. FROM A READING OF A []Arc ARGUMENT TO ITS ARCS.
-/
import Derived.Test.Qxb6601938aArc
import Derived.ProofKit
import Derived.Deep.Slices
namespace Go.Proofs.Qxb6601938a
open Go.ChangeShapes Go.WideShapes Go.ChangeAt Go.RowKit Go.Deep

theorem Try.own : ownKnob Try.prog.godebug = none := by kernel_rfl
theorem Try.laidOut : laidOutB Try.prog = true := by kernel_rfl
theorem Try.cells31 : Try.prog.cellsOf 31 = 9 := by kernel_rfl
theorem Try.cells2 : Try.prog.cellsOf 2 = 1 := by kernel_rfl
theorem Try.cells3 : Try.prog.cellsOf 3 = 1 := by kernel_rfl
theorem Try.cells4 : Try.prog.cellsOf 4 = 1 := by kernel_rfl
theorem Try.cells5 : Try.prog.cellsOf 5 = 1 := by kernel_rfl

section
variable {H : Type} {enc : TypeId × Value → H} {w : World} {base : Nat} {spare : Nat → Bool} {held : Bool}

theorem one_at {cs : List Value} {i : Nat} {v : Value} (h : (cs.drop i).take 1 = [v]) : cs[i]? = some v := by
  have := congrArg (fun l => l[0]?) h
  simpa using this

theorem arc_of_trod {fuel : Nat} {cs : List Value} {x : DataW H × List MemPlace} (h : DataW.trod enc Try.prog w base spare held fuel 31 cs = some x) : ∃ y : Arc9, cs = y.cells := by
  obtain ⟨xs, n, _, _, hl, hxl, hf⟩ := DataW.trod_struct Try.underlying31 h
  rw [Try.cells31] at hl
  have hx : ∀ i, i < 9 → ∃ y, xs[i]? = some y := fun i hi => by
    have hxl' : xs.length = 9 := hxl
    exact ⟨_, List.getElem?_eq_getElem (by omega)⟩
  have f0 : DataW.trod enc Try.prog w base spare held n 3 ((cs.drop 0).take (Try.prog.cellsOf 3)) = xs[0]? := hf 0 _ rfl
  have f1 : DataW.trod enc Try.prog w base spare held n 3 ((cs.drop 1).take (Try.prog.cellsOf 3)) = xs[1]? := hf 1 _ rfl
  have f2 : DataW.trod enc Try.prog w base spare held n 2 ((cs.drop 2).take (Try.prog.cellsOf 2)) = xs[2]? := hf 2 _ rfl
  have f3 : DataW.trod enc Try.prog w base spare held n 2 ((cs.drop 3).take (Try.prog.cellsOf 2)) = xs[3]? := hf 3 _ rfl
  have f4 : DataW.trod enc Try.prog w base spare held n 2 ((cs.drop 4).take (Try.prog.cellsOf 2)) = xs[4]? := hf 4 _ rfl
  have f5 : DataW.trod enc Try.prog w base spare held n 5 ((cs.drop 5).take (Try.prog.cellsOf 5)) = xs[5]? := hf 5 _ rfl
  have f6 : DataW.trod enc Try.prog w base spare held n 4 ((cs.drop 6).take (Try.prog.cellsOf 4)) = xs[6]? := hf 6 _ rfl
  have f7 : DataW.trod enc Try.prog w base spare held n 4 ((cs.drop 7).take (Try.prog.cellsOf 4)) = xs[7]? := hf 7 _ rfl
  have f8 : DataW.trod enc Try.prog w base spare held n 3 ((cs.drop 8).take (Try.prog.cellsOf 3)) = xs[8]? := hf 8 _ rfl
  obtain ⟨y0, e0⟩ := hx 0 (by decide)
  obtain ⟨y1, e1⟩ := hx 1 (by decide)
  obtain ⟨y2, e2⟩ := hx 2 (by decide)
  obtain ⟨y3, e3⟩ := hx 3 (by decide)
  obtain ⟨y4, e4⟩ := hx 4 (by decide)
  obtain ⟨y5, e5⟩ := hx 5 (by decide)
  obtain ⟨y6, e6⟩ := hx 6 (by decide)
  obtain ⟨y7, e7⟩ := hx 7 (by decide)
  obtain ⟨y8, e8⟩ := hx 8 (by decide)
  rw [e0] at f0; rw [e1] at f1; rw [e2] at f2; rw [e3] at f3; rw [e4] at f4; rw [e5] at f5; rw [e6] at f6; rw [e7] at f7; rw [e8] at f8
  obtain ⟨n0, g0, _, _⟩ := DataW.trod_int Try.underlying3 f0
  obtain ⟨n1, g1, _, _⟩ := DataW.trod_int Try.underlying3 f1
  obtain ⟨n2, g2, _, _⟩ := DataW.trod_int Try.underlying2 f2
  obtain ⟨n3, g3, _, _⟩ := DataW.trod_int Try.underlying2 f3
  obtain ⟨n4, g4, _, _⟩ := DataW.trod_int Try.underlying2 f4
  obtain ⟨n5, g5, _, _⟩ := DataW.trod_int Try.underlying5 f5
  obtain ⟨n6, g6, _⟩ := DataW.trod_bool Try.underlying4 f6
  obtain ⟨n7, g7, _⟩ := DataW.trod_bool Try.underlying4 f7
  obtain ⟨n8, g8, _, _⟩ := DataW.trod_int Try.underlying3 f8
  simp only [Try.cells2, Try.cells3, Try.cells4, Try.cells5] at g0 g1 g2 g3 g4 g5 g6 g7 g8
  refine ⟨⟨n0, n1, n2, n3, n4, n5, n6, n7, n8⟩, ?_⟩
  apply List.ext_getElem?
  intro i
  match i with
  | 0 => exact one_at g0
  | 1 => exact one_at g1
  | 2 => exact one_at g2
  | 3 => exact one_at g3
  | 4 => exact one_at g4
  | 5 => exact one_at g5
  | 6 => exact one_at g6
  | 7 => exact one_at g7
  | 8 => exact one_at g8
  | i + 9 =>
    rw [List.getElem?_eq_none (by omega), List.getElem?_eq_none (by show 9 ≤ i + 9; omega)]

theorem arcs_open {a : Option Addr} {len cap : Nat} {d : DataW H} {p : List MemPlace} (h : DataW.Trod enc Try.prog w base (fun _ => true) held 22 (.slice a len cap) d p) :
    ∃ xs : List Arc9, xs.length = len ∧ len ≤ maxLen ∧ ArcsIn w a xs := by
  obtain ⟨fuel, hf⟩ := h
  rcases open_slice Try.underlying22 hf with ⟨hcs, _⟩ | ⟨ad, l, c, m, n, D, Pl, hcs, hb, hl, hm, hmm, _, hx⟩
  · simp [Value.cells] at hcs
    obtain ⟨rfl, rfl, rfl⟩ := hcs
    exact ⟨[], rfl, by unfold maxLen; omega, .inl rfl⟩
  · simp [Value.cells] at hcs
    obtain ⟨rfl, rfl, rfl⟩ := hcs
    simp only [if_true] at hmm
    subst hmm
    rw [Try.cells31] at hx
    have hx' : ∀ i, i < len → ∃ y : Arc9, ∀ j, j < 9 → w.cell? (ad.add (i * 9 + j)) = y.cells[j]? := by
      intro i hi
      obtain ⟨cs, h1, h2⟩ := hx i (by omega)
      obtain ⟨y, rfl⟩ := arc_of_trod h2
      refine ⟨y, fun j hj => ?_⟩
      have := (World.cells?_some h1).2.2 j hj
      rwa [Go.Deep.add_add] at this
    have hG : ∃ G : Nat → Arc9, ∀ i, i < len → ∀ j, j < 9 → w.cell? (ad.add (i * 9 + j)) = (G i).cells[j]? :=
      ⟨fun i => if hi : i < len then Classical.choose (hx' i hi) else arc0, fun i hi => by
        simp only [dif_pos hi]
        exact Classical.choose_spec (hx' i hi)⟩
    obtain ⟨G, hG⟩ := hG
    refine ⟨(List.range len).map G, by simp, by omega, ?_⟩
    by_cases h0 : len = 0
    · subst h0; exact .inl rfl
    · right
      obtain ⟨b, off, spot⟩ := ad
      have hc0 : w.cell? ((⟨b, off, spot⟩ : Addr).add (0 * 9 + 0)) = some (.int .i64 (G 0).c0) := hG 0 (by omega) 0 (by omega)
      have hspot : spot = none := by simpa [Addr.add] using World.cell?_spot hc0
      subst hspot
      refine ⟨b, off, rfl, ?_, ?_⟩
      · have := World.block_lt_of_cell? w _ hc0
        simpa [Addr.add] using this
      · intro i hi j v hv
        have hi' : i < len := by simpa using hi
        have e1 : ((List.range len).map G).getD i arc0 = G i := by simp [List.getD, hi']
        rw [e1] at hv
        have hj : j < 9 := (List.getElem?_eq_some_iff.1 hv).1
        have := hG i hi' j hj
        rw [add_plain] at this
        rw [Nat.add_assoc, this]
        exact hv
end
end Go.Proofs.Qxb6601938a
