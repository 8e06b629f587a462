/-
  SEAT b6602327a. SLICES OF STRINGS IN MEMORY; slices.Equal and slices.Index at []string.
-/
import Derived.Test.Qxb6602327aRows
import Derived.WalkKit
import Derived.WalkSpells
import Derived.WalkLawsBesides
import Derived.BigQuiet
import Derived.WideShapes
namespace Go.Proofs.Qxb6602327a
open Go.RowKit

/-- A fact that no tactic looks into till it is opened. -/
def Hid (p : Prop) : Prop := p
theorem Hid.out {p : Prop} (h : Hid p) : p := h
theorem hid {p : Prop} (h : p) : Hid p := h

def str0 : ByteArray := ByteArray.empty

theorem beq_str (x y : ByteArray) : (x.toList == y.toList) = decide (x = y) := by
  rw [ByteArray.toList_eq, ByteArray.toList_eq]
  by_cases h : x = y
  · subst h; simp
  · have : x.data.toList ≠ y.data.toList := fun e => h (WideShapes.bytes_inj e)
    rw [decide_eq_false h]
    exact beq_eq_false_iff_ne.2 this

structure StrsIn (w : World) (a : Option Addr) (b off : Nat) (xs : List ByteArray) : Prop where
  addr : 0 < xs.length → a = some ⟨b, off, none⟩
  lt : 0 < xs.length → b < w.heap.size
  cell : ∀ i, i < xs.length → w.cell? ⟨b, off + i, none⟩ = some (.string (xs.getD i str0))

/-- Only the tape has moved on. -/
def Drew (w w' : World) : Prop := ∃ n, w' = w.drewN n
theorem Drew.refl (w : World) : Drew w w := ⟨0, rfl⟩
theorem Drew.drewN {w w' : World} (h : Drew w w') (m : Nat) : Drew w (w'.drewN m) := by
  obtain ⟨n, rfl⟩ := h
  exact ⟨n + m, by simp [World.drewN, Nat.add_assoc]⟩
theorem Drew.drew {w w' : World} (h : Drew w w') : Drew w w'.drew := h.drewN 1
theorem Drew.trans {w w' w'' : World} (h : Drew w w') (h' : Drew w' w'') : Drew w w'' := by
  obtain ⟨n, rfl⟩ := h'
  exact h.drewN n
theorem Drew.cell {w w' : World} (h : Drew w w') {p : Addr} {v : Value} (hc : w.cell? p = some v) : w'.cell? p = some v := by
  obtain ⟨n, rfl⟩ := h
  exact hc
theorem Drew.below {w w' : World} (h : Drew w w') (B : Nat) : Below B w w' := by
  obtain ⟨n, rfl⟩ := h
  exact ⟨rfl, rfl, rfl, Nat.le_refl _, fun _ _ => rfl⟩
theorem Drew.size {w w' : World} (h : Drew w w') : w'.heap.size = w.heap.size := by
  obtain ⟨n, rfl⟩ := h
  rfl

theorem StrsIn.below {w w' : World} {B : Nat} {a : Option Addr} {b off : Nat} {xs : List ByteArray} (h : StrsIn w a b off xs) (hB : Below B w w') (hlt : 0 < xs.length → b < B) (hs : w.heap.size ≤ w'.heap.size) : StrsIn w' a b off xs :=
  ⟨h.addr, fun h0 => Nat.lt_of_lt_of_le (h.lt h0) hs, fun i hi => by rw [hB.cell (p := ⟨b, off + i, none⟩) (hlt (by omega))]; exact h.cell i hi⟩

theorem getD_eq {α : Type} {xs : List α} {d : α} {i : Nat} (h : i < xs.length) : xs.getD i d = xs[i] := by simp [List.getD, h]

theorem take_succ_eq {xs ys : List ByteArray} {k : Nat} (hx : k < xs.length) (hy : k < ys.length) (h : xs.take k = ys.take k) (e : xs.getD k str0 = ys.getD k str0) : xs.take (k + 1) = ys.take (k + 1) := by
  rw [List.take_succ_eq_append_getElem hx, List.take_succ_eq_append_getElem hy, h]
  rw [getD_eq hx, getD_eq hy] at e
  rw [e]

theorem equal_any (xs ys : List ByteArray) (a1 a2 : Option Addr) (b1 o1 c1 b2 o2 c2 : Nat) (w : World) (hn : xs.length ≤ 1048576) (hm : ys.length ≤ 1048576) (h1 : StrsIn w a1 b1 o1 xs) (h2 : StrsIn w a2 b2 o2 ys) :
    Calls Try.prog 17 #[.slice a1 xs.length c1, .slice a2 ys.length c2] w fun e w' => e = .returned (.bool (decide (xs = ys))) ∧ Drew w w' := by
  by_cases hl : xs.length = ys.length
  · have H1 := hid h1
    have H2 := hid h2
    have t1 : ((xs.length : Int) != (ys.length : Int)) = false := by simp; omega
    have HL := hid hl
    clear h1 h2 hl
    go_enter Try.func17, Try.ntmps17
    go_wp2_with fail
    go_loopw [13] (fun i wr => Drew w wr ∧ ∃ k : Nat, k ≤ xs.length ∧ i = .int .i64 k ∧ xs.take k = ys.take k) (fun i _ => xs.length - (intOf i).toNat)
    case atStart => exact ⟨Drew.refl _, 0, Nat.zero_le _, rfl, rfl⟩
    case round =>
      obtain ⟨hd, k, hk, rfl, he⟩ := hrel
      have HD := hid hd
      have HE := hid he
      clear hd he
      by_cases hlt : k < xs.length
      · have hy : k < ys.length := by rw [← HL.out]; exact hlt
        have ha1 := H1.out.addr (by omega)
        have ha2 := H2.out.addr (by omega)
        subst ha1 ha2
        have s1 := HD.out.cell (H1.out.cell k hlt)
        have s2 := HD.out.cell (H2.out.cell k hy)
        by_cases e : xs.getD k str0 = ys.getD k str0
        · have E := hid e
          generalize hx : xs.getD k str0 = x at *
          generalize hz : ys.getD k str0 = y at *
          subst e
          have HX := hid hx
          have HZ := hid hz
          clear hx hz
          go_wp2_with fail
          go_quiet (fail)
          go_wp2
          go_roundw
          case rel => exact ⟨HD.out.drewN _, k + 1, by omega, by go_num, take_succ_eq hlt hy HE.out (by rw [HX.out, HZ.out])⟩
          case measure => simp [intOf]; omega
        · have E := hid e
          have t2 : ((xs.getD k str0).toList == (ys.getD k str0).toList) = false := by rw [beq_str]; exact decide_eq_false e
          generalize hx : xs.getD k str0 = x at *
          generalize hz : ys.getD k str0 = y at *
          have HX := hid hx
          have HZ := hid hz
          clear hx hz
          go_wp2_with fail
          go_quiet (fail)
          go_wp2
          go_ret
          refine ⟨?_, HD.out.drewN _⟩
          have : xs ≠ ys := fun q => E.out (by rw [← HX.out, ← HZ.out, q])
          simp [this]
      · go_wp2
        go_ret
        refine ⟨?_, HD.out⟩
        have hxy : xs = ys := by
          have h := HE.out
          have hl := HL.out
          rw [List.take_of_length_le (by omega), List.take_of_length_le (by omega)] at h
          exact h
        simp [hxy]
  · have t1 : ((xs.length : Int) != (ys.length : Int)) = true := by simp; omega
    have hne : xs ≠ ys := fun q => hl (by rw [q])
    go_enter Try.func17, Try.ntmps17
    go_wp2_with fail
    go_ret
    exact ⟨by simp [hne], Drew.refl _⟩

/-- The first place of x, if any. -/
def findAt (x : ByteArray) : List ByteArray → Option Nat
  | [] => none
  | y :: r => if x = y then some 0 else (findAt x r).map (· + 1)

def atInt : Option Nat → Int
  | some j => j
  | none => -1

theorem findAt_some {x : ByteArray} : ∀ {xs : List ByteArray} {j : Nat}, findAt x xs = some j → j < xs.length ∧ xs.getD j str0 = x ∧ ∀ i, i < j → xs.getD i str0 ≠ x
  | [], _, h => by cases h
  | y :: r, j, h => by
    unfold findAt at h
    by_cases e : x = y
    · rw [if_pos e] at h
      cases h
      exact ⟨by simp, by simp [e], fun i hi => by omega⟩
    · rw [if_neg e] at h
      obtain ⟨j', h1, rfl⟩ := Option.map_eq_some_iff.1 h
      obtain ⟨h2, h3, h4⟩ := findAt_some h1
      refine ⟨by simp; omega, by simpa using h3, fun i hi => ?_⟩
      cases i with
      | zero => intro q; exact e (by simpa using q.symm)
      | succ i => simpa using h4 i (by omega)

theorem findAt_none {x : ByteArray} : ∀ {xs : List ByteArray}, findAt x xs = none → ∀ i, i < xs.length → xs.getD i str0 ≠ x
  | [], _, i, hi => by simp at hi
  | y :: r, h, i, hi => by
    unfold findAt at h
    by_cases e : x = y
    · rw [if_pos e] at h; cases h
    · rw [if_neg e] at h
      have h1 : findAt x r = none := by simpa using h
      cases i with
      | zero => intro q; exact e (by simpa using q.symm)
      | succ i => simpa using findAt_none h1 i (by simpa using hi)

theorem findAt_of {x : ByteArray} : ∀ {xs : List ByteArray} {j : Nat}, j < xs.length → xs.getD j str0 = x → (∀ i, i < j → xs.getD i str0 ≠ x) → findAt x xs = some j := by
  intro xs j h1 h2 h3
  cases h : findAt x xs with
  | none => exact absurd h2 (findAt_none h j h1)
  | some j' =>
    obtain ⟨g1, g2, g3⟩ := findAt_some h
    rcases Nat.lt_trichotomy j j' with q | q | q
    · exact absurd h2 (g3 j q)
    · rw [q]
    · exact absurd g2 (h3 j' q)

theorem index_any (xs : List ByteArray) (x : ByteArray) (a1 : Option Addr) (b1 o1 c1 : Nat) (w : World) (hn : xs.length ≤ 1048576) (h1 : StrsIn w a1 b1 o1 xs) :
    Calls Try.prog 18 #[.slice a1 xs.length c1, .string x] w fun e w' => e = .returned (.int .i64 (atInt (findAt x xs))) ∧ w = w' := by
  have H1 := hid h1
  clear h1
  go_enter Try.func18, Try.ntmps18
  go_wp2_with fail
  go_loopw [8] (fun i wr => wr = w ∧ ∃ k : Nat, k ≤ xs.length ∧ i = .int .i64 k ∧ ∀ j, j < k → xs.getD j str0 ≠ x) (fun i _ => xs.length - (intOf i).toNat)
  case atStart => exact ⟨rfl, 0, Nat.zero_le _, rfl, fun j hj => by omega⟩
  case round =>
    obtain ⟨rfl, k, hk, rfl, he⟩ := hrel
    have HE := hid he
    clear he
    by_cases hlt : k < xs.length
    · have ha1 := H1.out.addr (by omega)
      subst ha1
      have s1 := H1.out.cell k hlt
      by_cases e : x = xs.getD k str0
      · have E := hid (findAt_of hlt e.symm HE.out)
        have t2 : (x.toList == (xs.getD k str0).toList) = true := by rw [beq_str]; exact decide_eq_true e
        generalize hx : xs.getD k str0 = y at *
        clear hx
        go_wp2_with fail
        go_ret
        exact ⟨by rw [E.out]; rfl, rfl⟩
      · have E := hid e
        have t2 : (x.toList == (xs.getD k str0).toList) = false := by rw [beq_str]; exact decide_eq_false e
        generalize hx : xs.getD k str0 = y at *
        have HX := hid hx
        clear hx
        go_wp2_with fail
        go_roundw
        case rel =>
          refine ⟨trivial, k + 1, by omega, by go_num, fun j hj => ?_⟩
          by_cases q : j = k
          · subst q; rw [HX.out]; exact fun q => E.out q.symm
          · exact HE.out j (by omega)
        case measure => simp [intOf]; omega
    · have hnone : findAt x xs = none := by
        cases h : findAt x xs with
        | none => rfl
        | some j =>
          obtain ⟨g1, g2, _⟩ := findAt_some h
          exact absurd g2 (HE.out j (by omega))
      go_wp2
      go_ret
      exact ⟨by rw [hnone]; rfl, rfl⟩
end Go.Proofs.Qxb6602327a
