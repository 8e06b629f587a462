/-
  SEAT b6602327a. THE COPIES OF THE ARGUMENTS.
-/
import Derived.Test.Qxb6602327aGuards
import Derived.Deep.OwnRows
import Derived.Lib.SliceRun
namespace Go.Proofs.Qxb6602327a
open Go.RowKit

theorem info9 : (Try.prog.info? 9).map (fun i => (i.zero, i.size, i.bytes)) = some (some (.string ByteArray.empty), 1, 16) := by kernel_rfl
theorem info4 : (Try.prog.info? 4).map (fun i => (i.zero, i.size, i.bytes)) = some (some (.bool false), 1, 1) := by kernel_rfl
theorem info3 : (Try.prog.info? 3).map (fun i => (i.zero, i.size, i.bytes)) = some (some (.int .i64 0), 1, 8) := by kernel_rfl

structure BoolsIn (w : World) (a : Option Addr) (b off : Nat) (xs : List Bool) : Prop where
  addr : 0 < xs.length → a = some ⟨b, off, none⟩
  lt : 0 < xs.length → b < w.heap.size
  cell : ∀ i, i < xs.length → w.cell? ⟨b, off + i, none⟩ = some (.bool (xs.getD i false))

theorem BoolsIn.below {w w' : World} {B : Nat} {a : Option Addr} {b off : Nat} {xs : List Bool} (h : BoolsIn w a b off xs) (hB : Below B w w') (hlt : 0 < xs.length → b < B) : BoolsIn w' a b off xs :=
  ⟨h.addr, fun h0 => Nat.lt_of_lt_of_le (h.lt h0) hB.size, fun i hi => by rw [hB.cell (p := ⟨b, off + i, none⟩) (hlt (by omega))]; exact h.cell i hi⟩

/-- A copy of a slice of strings. -/
def Cloned (w : World) (xs : List ByteArray) (e : Ending) (w' : World) : Prop :=
  ∃ a b c, e = .returned (.slice a xs.length c) ∧ StrsIn w' a b 0 xs ∧ xs.length ≤ c ∧ w.heap.size ≤ b ∧ Below w.heap.size w w'
def ClonedB (w : World) (xs : List Bool) (e : Ending) (w' : World) : Prop :=
  ∃ a b c, e = .returned (.slice a xs.length c) ∧ BoolsIn w' a b 0 xs ∧ xs.length ≤ c ∧ w.heap.size ≤ b ∧ Below w.heap.size w w'

theorem clone8_any (xs : List ByteArray) (a1 : Option Addr) (b1 o1 c1 : Nat) (w : World) (hn : xs.length ≤ 65536) (h1 : StrsIn w a1 b1 o1 xs) :
    Calls Try.prog 8 #[.slice a1 xs.length c1] w (Cloned w xs) := by
  have H1 := hid h1
  cases a1 with
  | none =>
    have h0 : xs.length = 0 := by
      rcases Nat.eq_zero_or_pos xs.length with q | q
      · exact q
      · cases h1.addr q
    obtain rfl : xs = [] := List.length_eq_zero_iff.1 h0
    clear h1 H1 h0 hn
    have hnil := fun W => Lib.run_eql_slice_nil (P := Try.prog) W 22 9 none 0 c1 0 0 Try.underlying22
    go_enter Try.func8, Try.ntmps8
    go_wp2
    go_ret
    exact ⟨none, w.heap.size, 0, rfl, ⟨fun h => by simp at h, fun h => by simp at h, fun i hi => by simp at hi⟩, by simp, Nat.le_refl _, Below.refl _ _⟩
  | some ad =>
    clear h1
    have hmk := run_make_row' (P := Try.prog) 22 9 _ 16 Try.underlying22 info9 rfl .i64 .i64 xs.length (by omega) (by omega)
    have hnil := fun W => Lib.run_eql_slice_nil (P := Try.prog) W 22 9 (some ad) xs.length c1 0 0 Try.underlying22
    go_enter Try.func8, Try.ntmps8
    go_wp2
    go_loopw [4] (fun i wr => ∃ k : Nat, k ≤ xs.length ∧ i = .int .i64 k ∧ Below w.heap.size w wr ∧ wr.rowIs w.heap.size 9 xs.length (fun j => .string (if j < k then xs.getD j str0 else ByteArray.empty))) (fun i _ => xs.length - (intOf i).toNat)
    case atStart => exact ⟨0, Nat.zero_le _, rfl, (Below.refl _ _).alloc (Nat.le_refl _) _, (World.rowIs_made w _ _ 9).congr (fun j hj => by simp)⟩
    case round =>
      obtain ⟨k, hk, rfl, hb, hr⟩ := hrel
      have HB := hid hb
      have HR := hid hr
      clear hb hr
      by_cases hlt : k < xs.length
      · have ha := H1.out.addr (by omega)
        have e : ad = ⟨b1, o1, none⟩ := by simpa using ha
        subst e
        have s1 : wr.cell? ⟨b1, o1 + k, none⟩ = some (.string (xs.getD k str0)) := by
          rw [HB.out.cell (p := ⟨b1, o1 + k, none⟩) (H1.out.lt (by omega))]
          exact H1.out.cell k hlt
        have s2 := HR.out.cell hlt
        have s3 := HR.out.frozen k
        generalize hx : xs.getD k str0 = x at *
        have HX := hid hx
        clear hx
        go_wp2
        go_roundw
        case rel =>
          refine ⟨k + 1, by omega, by go_num, HB.out.setCell (Nat.le_refl _) _, (HR.out.set k _).congr (fun j hj => ?_)⟩
          by_cases e : j = k
          · subst e
            rw [if_pos rfl, if_pos (Nat.lt_succ_self _), HX.out]
          · by_cases e2 : j < k
            · simp [e, e2, Nat.lt_succ_of_lt e2]
            · have e3 : ¬ j < k + 1 := by omega
              simp [e, e2, e3]
        case measure => simp [intOf]; omega
      · have ek : k = xs.length := by omega
        subst ek
        go_wp2
        go_ret
        refine ⟨some ⟨w.heap.size, 0, none⟩, w.heap.size, xs.length, rfl, ⟨fun _ => rfl, fun _ => HR.out.lt, fun i hi => ?_⟩, Nat.le_refl _, Nat.le_refl _, HB.out⟩
        have := HR.out.cell hi
        simpa [hi] using this
theorem clone15_any (xs : List Bool) (a1 : Option Addr) (b1 o1 c1 : Nat) (w : World) (hn : xs.length ≤ 65536) (h1 : BoolsIn w a1 b1 o1 xs) :
    Calls Try.prog 15 #[.slice a1 xs.length c1] w (ClonedB w xs) := by
  have H1 := hid h1
  cases a1 with
  | none =>
    have h0 : xs.length = 0 := by
      rcases Nat.eq_zero_or_pos xs.length with q | q
      · exact q
      · cases h1.addr q
    obtain rfl : xs = [] := List.length_eq_zero_iff.1 h0
    clear h1 H1 h0 hn
    have hnil := fun W => Lib.run_eql_slice_nil (P := Try.prog) W 29 4 none 0 c1 0 0 Try.underlying29
    go_enter Try.func15, Try.ntmps15
    go_wp2
    go_ret
    exact ⟨none, w.heap.size, 0, rfl, ⟨fun h => by simp at h, fun h => by simp at h, fun i hi => by simp at hi⟩, by simp, Nat.le_refl _, Below.refl _ _⟩
  | some ad =>
    clear h1
    have hmk := run_make_row' (P := Try.prog) 29 4 _ 1 Try.underlying29 info4 rfl .i64 .i64 xs.length (by omega) (by omega)
    have hnil := fun W => Lib.run_eql_slice_nil (P := Try.prog) W 29 4 (some ad) xs.length c1 0 0 Try.underlying29
    go_enter Try.func15, Try.ntmps15
    go_wp2
    go_loopw [4] (fun i wr => ∃ k : Nat, k ≤ xs.length ∧ i = .int .i64 k ∧ Below w.heap.size w wr ∧ wr.rowIs w.heap.size 4 xs.length (fun j => .bool (if j < k then xs.getD j false else false))) (fun i _ => xs.length - (intOf i).toNat)
    case atStart => exact ⟨0, Nat.zero_le _, rfl, (Below.refl _ _).alloc (Nat.le_refl _) _, (World.rowIs_made w _ _ 4).congr (fun j hj => by simp)⟩
    case round =>
      obtain ⟨k, hk, rfl, hb, hr⟩ := hrel
      have HB := hid hb
      have HR := hid hr
      clear hb hr
      by_cases hlt : k < xs.length
      · have ha := H1.out.addr (by omega)
        have e : ad = ⟨b1, o1, none⟩ := by simpa using ha
        subst e
        have s1 : wr.cell? ⟨b1, o1 + k, none⟩ = some (.bool (xs.getD k false)) := by
          rw [HB.out.cell (p := ⟨b1, o1 + k, none⟩) (H1.out.lt (by omega))]
          exact H1.out.cell k hlt
        have s2 := HR.out.cell hlt
        have s3 := HR.out.frozen k
        generalize hx : xs.getD k false = x at *
        have HX := hid hx
        clear hx
        go_wp2
        go_roundw
        case rel =>
          refine ⟨k + 1, by omega, by go_num, HB.out.setCell (Nat.le_refl _) _, (HR.out.set k _).congr (fun j hj => ?_)⟩
          by_cases e : j = k
          · subst e
            rw [if_pos rfl, if_pos (Nat.lt_succ_self _), HX.out]
          · by_cases e2 : j < k
            · simp [e, e2, Nat.lt_succ_of_lt e2]
            · have e3 : ¬ j < k + 1 := by omega
              simp [e, e2, e3]
        case measure => simp [intOf]; omega
      · have ek : k = xs.length := by omega
        subst ek
        go_wp2
        go_ret
        refine ⟨some ⟨w.heap.size, 0, none⟩, w.heap.size, xs.length, rfl, ⟨fun _ => rfl, fun _ => HR.out.lt, fun i hi => ?_⟩, Nat.le_refl _, Nat.le_refl _, HB.out⟩
        have := HR.out.cell hi
        simpa [hi] using this
end Go.Proofs.Qxb6602327a
