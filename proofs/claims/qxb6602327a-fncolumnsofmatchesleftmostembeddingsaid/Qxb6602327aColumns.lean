/-
  SEAT b6602327a. columnsOf COMPUTES THE GREEDY EMBEDDING.
-/
import Derived.Test.Qxb6602327aClone
import Derived.Deep.RegionHeld3
namespace Go.Proofs.Qxb6602327a
open Go.RowKit

/-! ### Plain -/
def run (hs : List ByteArray) : Nat → List ByteArray → Option (List Nat)
  | _, [] => some []
  | next, x :: r => match findAt x (hs.drop next) with
    | none => none
    | some j => (run hs (next + j + 1) r).map ((next + j) :: ·)

def columns (xs hs : List ByteArray) (r : Nat) : Option (List Nat) :=
  if xs.length < r ∨ xs.take r ≠ hs.take r then none else (run hs r (xs.drop r)).map (List.range r ++ ·)

/-! ### Slices of slices -/
theorem StrsIn.hi {w : World} {a : Option Addr} {b off : Nat} {xs : List ByteArray} (h : StrsIn w a b off xs) (r : Nat) : StrsIn w a b off (xs.take r) := by
  refine ⟨fun h0 => h.addr (by simp at h0; omega), fun h0 => h.lt (by simp at h0; omega), fun i hi => ?_⟩
  have hi' : i < r ∧ i < xs.length := by simp at hi; omega
  rw [h.cell i hi'.2]
  simp [List.getD, hi'.1]
theorem StrsIn.drew {w w' : World} {a : Option Addr} {b off : Nat} {xs : List ByteArray} (h : StrsIn w a b off xs) (hd : Drew w w') : StrsIn w' a b off xs :=
  ⟨h.addr, fun h0 => by rw [hd.size]; exact h.lt h0, fun i hi => hd.cell (h.cell i hi)⟩

theorem StrsIn.lo {w : World} {a : Option Addr} {b off : Nat} {xs : List ByteArray} (h : StrsIn w a b off xs) (l : Nat) (a' : Option Addr) (ha : l < xs.length → a = some ⟨b, off, none⟩ → a' = some ⟨b, off + l, none⟩) : StrsIn w a' b (off + l) (xs.drop l) := by
  refine ⟨fun h0 => ?_, fun h0 => h.lt (by simp at h0; omega), fun i hi => ?_⟩
  · exact ha (by simp at h0; omega) (h.addr (by simp at h0; omega))
  · have hi' : l + i < xs.length := by simp at hi; omega
    rw [Nat.add_assoc, h.cell (l + i) hi']
    simp [List.getD, hi']

theorem equal_len (xs ys : List ByteArray) (n m : Nat) (en : xs.length = n) (em : ys.length = m) (a1 a2 : Option Addr) (b1 o1 c1 b2 o2 c2 : Nat) (w : World) (hn : n ≤ 1048576) (hm : m ≤ 1048576) (h1 : StrsIn w a1 b1 o1 xs) (h2 : StrsIn w a2 b2 o2 ys) :
    Calls Try.prog 17 #[.slice a1 n c1, .slice a2 m c2] w fun e w' => e = .returned (.bool (decide (xs = ys))) ∧ Drew w w' := by
  subst en em
  exact equal_any xs ys a1 a2 b1 o1 c1 b2 o2 c2 w hn hm h1 h2
theorem index_len (xs : List ByteArray) (n : Nat) (en : xs.length = n) (x : ByteArray) (a1 : Option Addr) (b1 o1 c1 : Nat) (w : World) (hn : n ≤ 1048576) (h1 : StrsIn w a1 b1 o1 xs) :
    Calls Try.prog 18 #[.slice a1 n c1, .string x] w fun e w' => e = .returned (.int .i64 (atInt (findAt x xs))) ∧ w = w' := by
  subst en
  exact index_any xs x a1 b1 o1 c1 w hn h1

/-- The loop's plain state at step k: next, the columns written. -/
structure At (xs hs : List ByteArray) (r k nx : Nat) (cs : List Nat) : Prop where
  len : cs.length = k
  nxle : nx ≤ hs.length
  low : k ≤ r → nx = r ∧ cs = List.range k
  high : r ≤ k → (run hs r (xs.drop r)).map (List.range r ++ ·) = (run hs nx (xs.drop k)).map (cs ++ ·)

theorem At.start {xs hs : List ByteArray} {r : Nat} (hr : r ≤ hs.length) : At xs hs r 0 r [] := by
  refine ⟨rfl, hr, fun _ => ⟨rfl, rfl⟩, fun h => ?_⟩
  obtain rfl : r = 0 := by omega
  rfl

theorem At.below {xs hs : List ByteArray} {r k nx : Nat} {cs : List Nat} (h : At xs hs r k nx cs) (hk : k < r) : At xs hs r (k + 1) nx (cs ++ [k]) := by
  obtain ⟨h1, h2⟩ := h.low (by omega)
  have e : cs ++ [k] = List.range (k + 1) := by rw [h2, List.range_succ]
  refine ⟨by simp [h.len], h.nxle, fun _ => ⟨h1, e⟩, fun h3 => ?_⟩
  obtain rfl : r = k + 1 := by omega
  rw [e, h1]

theorem At.none {xs hs : List ByteArray} {r k nx : Nat} {cs : List Nat} (h : At xs hs r k nx cs) (hk : r ≤ k) (hl : k < xs.length) (hf : findAt (xs.getD k str0) (hs.drop nx) = none) : (run hs r (xs.drop r)).map (List.range r ++ ·) = none := by
  rw [h.high hk, List.drop_eq_getElem_cons hl, run]
  rw [getD_eq hl] at hf
  rw [hf]
  rfl

theorem At.next {xs hs : List ByteArray} {r k nx j : Nat} {cs : List Nat} (h : At xs hs r k nx cs) (hk : r ≤ k) (hl : k < xs.length) (hf : findAt (xs.getD k str0) (hs.drop nx) = some j) : At xs hs r (k + 1) (nx + j + 1) (cs ++ [nx + j]) := by
  have hj := (findAt_some hf).1
  have hnx := h.nxle
  simp at hj
  refine ⟨by simp [h.len], by omega, fun h3 => by omega, fun _ => ?_⟩
  rw [h.high hk, List.drop_eq_getElem_cons hl, run]
  rw [getD_eq hl] at hf
  rw [hf]
  simp [Option.map_map, Function.comp_def]

theorem At.last {xs hs : List ByteArray} {r nx : Nat} {cs : List Nat} (h : At xs hs r xs.length nx cs) (hk : r ≤ xs.length) : (run hs r (xs.drop r)).map (List.range r ++ ·) = some cs := by
  rw [h.high hk]
  simp [run]

theorem row_push {cs : List Nat} {k v : Nat} (hl : cs.length = k) (j : Nat) : (if j = k then Value.int .i64 ((v : Nat) : Int) else .int .i64 ((cs.getD j 0 : Nat) : Int)) = .int .i64 (((cs ++ [v]).getD j 0 : Nat) : Int) := by
  subst hl
  by_cases e : j = cs.length
  · subst e; simp [List.getD]
  · rw [if_neg e]
    by_cases h : j < cs.length
    · simp [List.getD, List.getElem?_append_left h]
    · have h1 : cs[j]? = none := List.getElem?_eq_none (by omega)
      have h2 : (cs ++ [v])[j]? = none := List.getElem?_eq_none (by simp; omega)
      simp [List.getD, h1, h2]

def ColsPost (w : World) (C : Option (List Nat)) (e : Ending) (w' : World) : Prop :=
  match C with
  | none => e = .returned (.tuple #[.slice none 0 0, .bool false]) ∧ Below w.heap.size w w'
  | some cs => ∃ b, e = .returned (.tuple #[.slice (some ⟨b, 0, none⟩) cs.length cs.length, .bool true]) ∧ w.heap.size ≤ b ∧ b < w'.heap.size ∧ (∀ i, i < cs.length → w'.cell? ⟨b, i, none⟩ = some (.int .i64 (cs.getD i 0 : Nat))) ∧ Below w.heap.size w w'

theorem columns16_any (xs hs : List ByteArray) (r z : Nat) (hz : hs.length = r + z) (a1 a2 : Option Addr) (b1 o1 c1 b2 o2 c2 : Nat) (w : World) (hn : xs.length ≤ 65536) (hm : hs.length ≤ 65536) (hc1 : xs.length ≤ c1) (hc2 : hs.length ≤ c2) (h1 : StrsIn w a1 b1 o1 xs) (h2 : StrsIn w a2 b2 o2 hs) :
    Calls Try.prog 16 #[.slice a1 xs.length c1, .slice a2 hs.length c2, .int .i64 z] w (ColsPost w (columns xs hs r)) := by
  have H1 := hid h1
  have H2 := hid h2
  have HZ := hid hz
  have k1 : IntKind.i64.wrap ((hs.length : Int) - (z : Int)) = (r : Int) := by rw [IntKind.wrap_i64]; omega
  have hr1 : r ≤ 65536 := by omega
  have hr2 : (r : Int) ≤ (c2 : Int) := by omega
  have hr0 : (0 : Int) ≤ (r : Int) := by omega
  clear h1 h2 hz
  by_cases q1 : xs.length < r
  · have t1 : decide ((xs.length : Int) < (r : Int)) = true := by simp; omega
    have HC := hid (show columns xs hs r = none by unfold columns; rw [if_pos (.inl q1)])
    go_enter Try.func16, Try.ntmps16
    go_wp2_with fail
    go_quiet (fail)
    go_wp2_with fail
    go_ret2
    rw [HC.out]
    exact ⟨rfl, ((Drew.refl _).drewN _).below _⟩
  · have t1 : decide ((xs.length : Int) < (r : Int)) = false := by simp; omega
    have hr3 : (r : Int) ≤ (c1 : Int) := by omega
    have HE := hid (equal_len (xs.take r) (hs.take r) r r (by simp; omega) (by have := HZ.out; simp; omega) a1 a2 b1 o1 c1 b2 o2 c2 w.drew (by omega) (by omega) ((H1.out.hi r).drew (Drew.refl _).drew) ((H2.out.hi r).drew (Drew.refl _).drew))
    by_cases q2 : xs.take r = hs.take r
    · rw [decide_eq_true q2] at HE
      have hmk := run_make_row' (P := Try.prog) 25 3 _ 8 Try.underlying25 info3 rfl .i64 .i64 xs.length (by omega) (by omega)
      have Q2 := hid q2
      clear q2
      go_enter Try.func16, Try.ntmps16
      go_wp2_with fail
      go_region_held3 (fun _ => True) (trivial) (first | (go_at_call 17; refine Calls.mono HE.out ?_; rintro e w1 ⟨rfl, hd⟩))
      have hb1 : Below w.heap.size w w1 := ((Below.refl _ _).drew).trans (hd.below _)
      have hs1 : w1.heap.size = w.heap.size := hd.size
      have HB1 := hid hb1
      have HCOL := hid (show columns xs hs r = (run hs r (xs.drop r)).map (List.range r ++ ·) by unfold columns; rw [if_neg (by simp [q1, Q2.out])])
      clear hd hb1 HE
      go_wp2_with fail
      go_loopw [10, 37] (fun nv i wr => ∃ (k nx : Nat) (cs : List Nat), k ≤ xs.length ∧ i = .int .i64 k ∧ nv = .int .i64 nx ∧ At xs hs r k nx cs ∧ Below w.heap.size w wr ∧ wr.rowIs w.heap.size 3 xs.length (fun j => .int .i64 (cs.getD j 0 : Nat))) (fun _ i _ => xs.length - (intOf i).toNat)
      case atStart => exact ⟨0, r, [], Nat.zero_le _, rfl, rfl, At.start (by have := HZ.out; omega), HB1.out.alloc (by omega) _, (hs1 ▸ World.rowIs_made w1 (.int .i64 0) xs.length 3).congr (fun j hj => by simp)⟩
      case round =>
        obtain ⟨k, nx, cs, hk, rfl, rfl, hA, hb, hr⟩ := hrel
        have HA := hid hA
        have HB := hid hb
        have HR := hid hr
        have hnx := hA.nxle
        clear hA hb hr
        by_cases hlt : k < xs.length
        · have ha := H1.out.addr (by omega)
          subst ha
          have s1 : wr.cell? ⟨b1, o1 + k, none⟩ = some (.string (xs.getD k str0)) := by
            rw [HB.out.cell (p := ⟨b1, o1 + k, none⟩) (H1.out.lt (by omega))]
            exact H1.out.cell k hlt
          have s2 := HR.out.cell hlt
          have s3 := HR.out.frozen k
          by_cases hkr : k < r
          · have t3 : decide ((k : Int) < (r : Int)) = true := by simp; omega
            go_wp2_with fail
            go_roundw
            case rel =>
              refine ⟨k + 1, nx, cs ++ [k], by omega, by go_num, rfl, HA.out.below hkr, HB.out.setCell (Nat.le_refl _) _, (HR.out.set k _).congr (fun j hj => ?_)⟩
              exact row_push HA.out.len j
            case measure => simp [intOf]; omega
          · have t3 : decide ((k : Int) < (r : Int)) = false := by simp; omega
            have HI := hid (fun (a' : Option Addr) (c : Nat) (hh : nx < hs.length → a2 = some ⟨b2, o2, none⟩ → a' = some ⟨b2, o2 + nx, none⟩) =>
              index_len (hs.drop nx) (hs.length - nx) (by simp) (xs.getD k str0) a' b2 (o2 + nx) c wr.drew (by omega) (((H2.out.below HB.out (fun h0 => H2.out.lt h0) HB.out.size).drew (Drew.refl _).drew).lo nx a' hh))
            have hnx2 : (nx : Int) ≤ (hs.length : Int) := by omega
            have hnx0 : (0 : Int) ≤ (nx : Int) := by omega
            have hb1 : b1 ≠ w.heap.size := by have := H1.out.lt (by omega); omega
            by_cases hc : c2 = nx
            · subst hc
              have hd0 : hs.drop c2 = [] := List.drop_eq_nil_of_le (by omega)
              have HN := hid (HA.out.none (by omega) hlt (by rw [hd0]; rfl))
              generalize xs.getD k str0 = x at *
              clear HI
              have HI := hid (fun (a' : Option Addr) (c : Nat) => index_len [] 0 rfl x a' 0 0 c wr.drew (by omega) ⟨fun h => by simp at h, fun h => by simp at h, fun i hi => by simp at hi⟩)
              simp only [atInt, findAt] at HI
              go_wp2_with fail
              go_region_held3 (fun W => W.cell? ⟨b1, o1 + k, none⟩ = some (.string x)) (first | assumption | simp)
                (first | (go_at_call 18; refine Calls.mono (HI.out _ _) ?_; rintro e w3 ⟨rfl, rfl⟩))
              go_wp2_with fail
              go_ret2
              rw [HCOL.out, HN.out]
              exact ⟨rfl, HB.out.drew⟩
            · cases hf : findAt (xs.getD k str0) (hs.drop nx) with
              | none =>
                rw [hf] at HI
                simp only [atInt] at HI
                have HN := hid (HA.out.none (by omega) hlt hf)
                clear hf
                generalize xs.getD k str0 = x at *
                go_wp2_with fail
                go_region_held3 (fun W => W.cell? ⟨b1, o1 + k, none⟩ = some (.string x)) (first | assumption | simp)
                  (first | (go_at_call 18; refine Calls.mono (HI.out _ _ (by intro g1 g2; first | omega | (rw [g2]; simp [Addr.add]))) ?_; rintro e w3 ⟨rfl, rfl⟩))
                go_wp2_with fail
                go_ret2
                rw [HCOL.out, HN.out]
                exact ⟨rfl, HB.out.drew⟩
              | some j =>
                rw [hf] at HI
                simp only [atInt] at HI
                have HN := hid (HA.out.next (by omega) hlt hf)
                have hj : nx + j < hs.length := by have := (findAt_some hf).1; simp at this; omega
                clear hf
                generalize xs.getD k str0 = x at *
                have k2 : IntKind.i64.wrap ((nx : Int) + (j : Int)) = ((nx + j : Nat) : Int) := by rw [IntKind.wrap_i64]; omega
                have k3 : IntKind.i64.wrap ((j : Int) + 1) = ((j + 1 : Nat) : Int) := by rw [IntKind.wrap_i64]; omega
                have k4 : IntKind.i64.wrap ((nx : Int) + ((j + 1 : Nat) : Int)) = ((nx + j + 1 : Nat) : Int) := by rw [IntKind.wrap_i64]; omega
                have t4 : decide ((j : Int) < 0) = false := by simp
                go_wp2_with fail
                go_region_held3 (fun W => W.cell? ⟨b1, o1 + k, none⟩ = some (.string x)) (first | assumption | simp)
                  (first | (go_at_call 18; refine Calls.mono (HI.out _ _ (by intro g1 g2; first | omega | (rw [g2]; simp [Addr.add]))) ?_; rintro e w3 ⟨rfl, rfl⟩))
                go_wp2_with fail
                go_roundw
                case rel =>
                  refine ⟨k + 1, nx + j + 1, cs ++ [nx + j], by omega, by go_num, by go_num, HN.out, HB.out.drew.setCell (Nat.le_refl _) _, ((HR.out.drew.set k _).congr (fun j' hj' => ?_))⟩
                  exact row_push HA.out.len j'
                case measure => simp [intOf]; omega
        · have ek : k = xs.length := by omega
          subst ek
          have HL := hid (HA.out.last (by omega))
          have hlen := HA.out.len
          go_wp2_with fail
          go_ret2
          rw [HCOL.out, HL.out]
          refine ⟨w.heap.size, by rw [hlen]; rfl, Nat.le_refl _, HR.out.lt, fun i hi => HR.out.cell (by omega), HB.out⟩
    · rw [decide_eq_false q2] at HE
      have HC := hid (show columns xs hs r = none by unfold columns; rw [if_pos (.inr q2)])
      clear q2
      go_enter Try.func16, Try.ntmps16
      go_wp2_with fail
      go_region_held3 (fun _ => True) (trivial) (first | (go_at_call 17; refine Calls.mono HE.out ?_; rintro e w1 ⟨rfl, hd⟩))
      go_wp2_with fail
      go_ret2
      rw [HC.out]
      exact ⟨rfl, ((Below.refl _ _).drew).trans (hd.below _)⟩
end Go.Proofs.Qxb6602327a
