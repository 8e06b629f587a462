/-
  SEAT b6601938a. 'Rows.FnClassifyNeverFallsWhenAnArcJoinsSaid'.
-/
import Derived.Test.Qxb6601938aArcsOf
import Derived.Test.Qxb6601938aOpen
import Derived.OpenShut
import Derived.ChangeOld
namespace Go.Proofs.Qxb6601938a
open Go.ChangeShapes Go.WideShapes Go.ChangeAt Go.RowKit

namespace Joins

/-! ### The plain law -/
def rk (v : Int) : Int := if v = 1 then 0 else if v = 4 then 1 else if v = 5 then 2 else if v = 6 then 3 else -1

/-- The cycle with an edge laid in at place p. -/
def grown (xs : List Arc9) (y : Arc9) (p : Nat) : List Arc9 := xs.take p ++ y :: xs.drop p

theorem grown_length (xs : List Arc9) (y : Arc9) (p : Nat) (h : p ≤ xs.length) : (grown xs y p).length = xs.length + 1 := by
  simp [grown]; omega

theorem cnt_grown (t : Int) (xs : List Arc9) (y : Arc9) (p : Nat) : cnt t (grown xs y p) = cnt t xs + (if y.ty = t then 1 else 0) := by
  have h := cnt_append t (xs.take p) (xs.drop p)
  rw [List.take_append_drop] at h
  unfold grown
  rw [cnt_append, cnt, h]
  omega

theorem rank_nonneg (xs : List Arc9) : 0 ≤ rk (cls xs) := by
  unfold cls rk
  split <;> (try split) <;> (try split) <;> simp

theorem rank_mono (xs : List Arc9) (y : Arc9) (p : Nat) : rk (cls xs) ≤ rk (cls (grown xs y p)) := by
  have h3 := cnt_grown 3 xs y p
  have h2 := cnt_grown 2 xs y p
  have b3 := (cnt_bd 3 xs).1
  have b2 := (cnt_bd 2 xs).1
  unfold cls
  rw [h3, h2]
  generalize cnt 3 xs = c3 at *
  generalize cnt 2 xs = c2 at *
  by_cases e3 : y.ty = 3
  · have e2 : ¬ y.ty = 2 := by omega
    rw [if_pos e3, if_neg e2]
    by_cases q1 : 1 < c3
    · rw [if_pos q1, if_pos (by omega)]; decide
    · by_cases q2 : c3 = 1
      · subst q2; simp [rk]
      · have : c3 = 0 := by omega
        subst this
        by_cases q3 : 0 < c2
        · simp [q3, rk]
        · simp [q3, rk]
  · rw [if_neg e3]
    by_cases q1 : 1 < c3
    · rw [if_pos q1, if_pos (by omega)]; decide
    · by_cases q2 : c3 = 1
      · subst q2; simp
      · have : c3 = 0 := by omega
        subst this
        by_cases q3 : 0 < c2
        · rw [if_neg (by decide), if_neg (by decide), if_pos q3, if_neg (by decide), if_neg (by decide), if_pos (by split <;> omega)]
          decide
        · by_cases e2 : y.ty = 2 <;> simp [q3, e2, rk] <;> (try split) <;> simp_all

theorem grown_lt (xs : List Arc9) (y : Arc9) {p k : Nat} (hp : p ≤ xs.length) (h : k < p) : (grown xs y p).getD k arc0 = xs.getD k arc0 := by
  unfold grown
  simp only [List.getD]
  rw [List.getElem?_append_left (by simp; omega)]
  simp [h]

theorem grown_at (xs : List Arc9) (y : Arc9) {p : Nat} (hp : p ≤ xs.length) : (grown xs y p).getD p arc0 = y := by
  unfold grown
  simp only [List.getD]
  rw [List.getElem?_append_right (by simp; omega)]
  simp [Nat.min_eq_left hp]

theorem grown_gt (xs : List Arc9) (y : Arc9) {p k : Nat} (hp : p ≤ xs.length) (h : p ≤ k) : (grown xs y p).getD (k + 1) arc0 = xs.getD k arc0 := by
  unfold grown
  simp only [List.getD]
  rw [List.getElem?_append_right (by simp; omega)]
  simp only [List.length_take, Nat.min_eq_left hp]
  rw [show k + 1 - p = (k - p) + 1 by omega, List.getElem?_cons_succ, List.getElem?_drop, show p + (k - p) = k by omega]

/-! ### The walks -/
theorem rank_any (v : Int) (w : World) : Calls Try.prog 16 #[.int .u8 v] w fun e w' => e = .returned (.int .i64 (rk v)) ∧ w' = w := by
  by_cases h1 : v = 1
  · subst h1
    go_enter Try.func16, Try.ntmps16
    go_wp2
    go_ret
    exact ⟨rfl, rfl⟩
  by_cases h4 : v = 4
  · subst h4
    go_enter Try.func16, Try.ntmps16
    go_wp2
    go_ret
    exact ⟨rfl, rfl⟩
  by_cases h5 : v = 5
  · subst h5
    go_enter Try.func16, Try.ntmps16
    go_wp2
    go_ret
    exact ⟨rfl, rfl⟩
  by_cases h6 : v = 6
  · subst h6
    go_enter Try.func16, Try.ntmps16
    go_wp2
    go_ret
    exact ⟨rfl, rfl⟩
  have q1 : (v == 1) = false := by simp [h1]
  have q4 : (v == 4) = false := by simp [h4]
  have q5 : (v == 5) = false := by simp [h5]
  have q6 : (v == 6) = false := by simp [h6]
  have hr : Hid (rk v = -1) := by show rk v = -1; simp [rk, h1, h4, h5, h6]
  clear h1 h4 h5 h6
  go_enter Try.func16, Try.ntmps16
  go_wp2
  go_ret
  exact ⟨ret_i64 hr.out.symm, rfl⟩

theorem bytes15_any (a : Option Addr) (n cap : Nat) (y : Arc9) (p : Int) (w : World) (hn : n ≤ maxLen) :
    Calls Try.prog 15 #[.slice a n cap, .agg #[.int .i64 y.c0, .int .i64 y.c1, .int .i64 y.c2, .int .i64 y.c3, .int .i64 y.c4, .int .u8 y.ty, .bool y.c6, .bool y.c7, .int .i64 y.c8], .int .i64 p] w fun e w' => e = .returned (.bool (decide (n ≤ 1048576))) ∧ ∃ C : Array Value, w' = w.alloc (.cells C 31) := by
  unfold maxLen at hn
  by_cases h : n ≤ 1048576
  · go_enter Try.func15, Try.ntmps15
    go_wp2
    go_ret
    exact ⟨ret_bool (by simp [h]), _, rfl⟩
  · go_enter Try.func15, Try.ntmps15
    go_wp2
    go_ret
    exact ⟨ret_bool (by simp [h]), _, rfl⟩

theorem info31 : (Try.prog.info? 31).map (fun i => (i.zero, i.size, i.bytes)) = some (some (.agg #[.int .i64 0, .int .i64 0, .int .i64 0, .int .i64 0, .int .i64 0, .int .u8 0, .bool false, .bool false, .int .i64 0]), 9, 56) := by kernel_rfl
theorem size31 : (Try.prog.info? 31).map (·.size) = some 9 := by kernel_rfl

/-- The state while the grown cycle is filled: k of its places are laid. -/
structure Fill (w : World) (xs : List Arc9) (y : Arc9) (p k : Nat) (wr : World) : Prop where
  arcs : ArcsAt wr (w.heap.size + 1 + 1) 0 ((grown xs y p).take k)
  room : wr.there (w.heap.size + 1 + 1) 0 ((xs.length + 1) * 9)
  extra : wr.rangeAt w.heap.size 0 y.cells
  size : w.heap.size + 1 + 1 < wr.heap.size
  below : Below w.heap.size w wr

theorem Fill.step {w : World} {xs : List Arc9} {y : Arc9} {p k : Nat} {wr : World} (h : Fill w xs y p k wr) (hp : p ≤ xs.length) (hk : k < xs.length + 1) {x : Arc9} (hx : x = (grown xs y p).getD k arc0) :
    Fill w xs y p (k + 1) (wr.setCells (w.heap.size + 1 + 1) (k * 9) x.cells) := by
  have R := copy_step (n := xs.length + 1) hk hx (by rw [grown_length xs y p hp]; exact hk) h.arcs h.room (Below.refl _ _) h.size
  refine ⟨R.1, R.2, World.rangeAt_setCells_apart h.extra _ _ _ (.inl (by omega)), by rw [size_setCells]; exact h.size, below_setCells (by omega) _ _ _ h.below⟩

theorem Fill.hth {w : World} {xs : List Arc9} {y : Arc9} {p k : Nat} {wr : World} (h : Fill w xs y p k wr) (hk : k < xs.length + 1) (x : Arc9) : wr.there (w.heap.size + 1 + 1) (k * 9) x.cells.length :=
  there_sub h.room _ _ (by omega) (by show k * 9 + 9 ≤ _; omega)

theorem Fill.start (w : World) (xs : List Arc9) (y : Arc9) (p : Nat) (C Z : Array Value) : Fill w xs y p 0 (((w.alloc (.cells #[.int .i64 y.c0, .int .i64 y.c1, .int .i64 y.c2, .int .i64 y.c3, .int .i64 y.c4, .int .u8 y.ty, .bool y.c6, .bool y.c7, .int .i64 y.c8] 31)).alloc (.cells C 31)).alloc (.cells (madeCells Z ((xs.length + 1) * 9)) 31)) := by
  refine ⟨fun i hi => by simp at hi, ?_, ?_, by simp, (((Below.refl _ _).alloc (Nat.le_refl _) _).alloc (by simp) _).alloc (by simp; omega) _⟩
  · have := there_new ((w.alloc (.cells #[.int .i64 y.c0, .int .i64 y.c1, .int .i64 y.c2, .int .i64 y.c3, .int .i64 y.c4, .int .u8 y.ty, .bool y.c6, .bool y.c7, .int .i64 y.c8] 31)).alloc (.cells C 31)) (madeCells Z ((xs.length + 1) * 9)) 31
    rw [size_madeCells] at this
    simpa using this
  · refine World.rangeAt_alloc (World.rangeAt_alloc ?_ _) _
    intro j v hv
    have hb : (w.alloc (.cells y.cells.toArray 31)).heap[w.heap.size]? = some (.cells y.cells.toArray 31 (0, 0)) := by
      show (w.heap.push _)[w.heap.size]? = _
      simp
    have := cell_of_row _ w.heap.size (0 + j) y.cells.toArray 31 (0, 0) hb
    refine this.trans ?_
    rw [Nat.zero_add]
    simpa using hv

set_option maxHeartbeats 1000000 in
theorem walk_some (xs : List Arc9) (b off cap : Nat) (y : Arc9) (p : Nat) (w : World) (hn : xs.length ≤ 16383) (hp : p ≤ xs.length) (hbw : b < w.heap.size) (hin : ArcsAt w b off xs) :
    Calls Try.prog 5 #[.slice (some ⟨b, off, none⟩) xs.length cap, .agg #[.int .i64 y.c0, .int .i64 y.c1, .int .i64 y.c2, .int .i64 y.c3, .int .i64 y.c4, .int .u8 y.ty, .bool y.c6, .bool y.c7, .int .i64 y.c8], .int .i64 p] w fun e w' => e = .returned (.bool true) ∧ Below w.heap.size w w' := by
  have hd : decide (xs.length ≤ 1048576) = true := by simp; omega
  have t1 : decide ((16383 : Int) < xs.length) = false := by simp; omega
  have t2 : decide ((p : Int) < 0) = false := by simp
  have t3 : decide (xs.length < p) = false := by simp; omega
  have hmk : ∀ W, (Instr.makeSlice 22 (.int .i64 ((xs.length : Int) + 1)) (.int .i64 ((xs.length : Int) + 1))).run Try.prog W = .ok (.slice (some ⟨W.heap.size, 0, none⟩) (xs.length + 1) (xs.length + 1)) (W.alloc (.cells (madeCells _ ((xs.length + 1) * 9)) 31)) := run_make_wide (P := Try.prog) 22 31 _ 9 56 Try.underlying22 info31 (xs.length + 1) (by omega) (by omega)
  go_enter Try.func5, Try.ntmps5
  go_wp2_with fail
  refine (bytes15_any _ xs.length cap y p _ (by unfold maxLen; omega)).mono ?_
  rintro e w' ⟨rfl, C, rfl⟩
  go_wp2_with fail
  go_loopw [8] (fun i wr => ∃ k : Nat, k ≤ p ∧ i = .int .i64 k ∧ Fill w xs y p k wr) (fun i _ => p - (intOf i).toNat)
  case atStart => exact ⟨0, Nat.zero_le _, rfl, Fill.start w xs y p C _⟩
  case round =>
    clear hmk hd t1 t2 t3
    obtain ⟨k, hk, rfl, hF⟩ := hrel
    by_cases hlt : k < p
    · obtain ⟨c0, c1, c2, c3, c4, c5, c6, c7, c8⟩ := arc_cells ((hin.below hF.below hbw) k (by omega))
      obtain ⟨x, hx⟩ : ∃ x, x = xs.getD k arc0 := ⟨_, rfl⟩
      rw [← hx] at c0 c1 c2 c3 c4 c5 c6 c7 c8
      have HX : Hid (x = (grown xs y p).getD k arc0) := by rw [grown_lt xs y hp hlt]; exact hx
      clear hx hin
      go_wp2_with (refine wpList_store_cs ?hgd 31 (.tmp 43) (.tmp 42) ?ho (w.heap.size + 1 + 1) (k * 9) x.cells ?hx ?hy size31 rfl ?hth ?_; (case ho => exact rfl); (case hgd => exact rfl); (case hx => exact rfl); (case hy => exact rfl); (case hth => exact hF.hth (by omega) x))
      go_roundw
      case rel => exact ⟨k + 1, by omega, by go_num, hF.step hp (by omega) HX.out⟩
      case measure => simp [intOf]; omega
    · obtain rfl : k = p := by omega
      obtain ⟨c0, c1, c2, c3, c4, c5, c6, c7, c8⟩ := arc_cells hF.extra
      simp only [Nat.zero_add] at c1 c2 c3 c4 c5 c6 c7 c8
      have HX : Hid (y = (grown xs y k).getD k arc0) := (grown_at xs y hp).symm
      go_wp2_with (refine wpList_store_cs ?hgd 31 (.tmp 47) (.tmp 46) ?ho (w.heap.size + 1 + 1) (k * 9) y.cells ?hx ?hy size31 rfl ?hth ?_; (case ho => exact rfl); (case hgd => exact rfl); (case hx => exact rfl); (case hy => exact rfl); (case hth => exact hF.hth (by omega) y))
      have hF1 := hF.step hp (by omega) HX.out
      clear hF HX c0 c1 c2 c3 c4 c5 c6 c7 c8
      go_loopw [9] (fun i wr => ∃ m : Nat, k ≤ m ∧ m ≤ xs.length ∧ i = .int .i64 m ∧ Fill w xs y k (m + 1) wr) (fun i _ => xs.length - (intOf i).toNat)
      case atStart => exact ⟨k, Nat.le_refl _, hp, rfl, hF1⟩
      case round =>
        clear hF1
        obtain ⟨m, hm1, hm2, rfl, hF⟩ := hrel
        by_cases hlm : m < xs.length
        · obtain ⟨c0, c1, c2, c3, c4, c5, c6, c7, c8⟩ := arc_cells ((hin.below hF.below hbw) m (by omega))
          obtain ⟨x, hx⟩ : ∃ x, x = xs.getD m arc0 := ⟨_, rfl⟩
          rw [← hx] at c0 c1 c2 c3 c4 c5 c6 c7 c8
          have HX : Hid (x = (grown xs y k).getD (m + 1) arc0) := by rw [grown_gt xs y hp hm1]; exact hx
          clear hx hin
          go_wp2_with (refine wpList_store_cs ?hgd 31 (.tmp 62) (.tmp 61) ?ho (w.heap.size + 1 + 1) ((m + 1) * 9) x.cells ?hx ?hy size31 rfl ?hth ?_; (case ho => exact rfl); (case hgd => exact rfl); (case hx => exact rfl); (case hy => exact rfl); (case hth => exact hF.hth (by omega) x))
          go_roundw
          case rel => exact ⟨m + 1, by omega, by omega, by go_num, hF.step hp (by omega) HX.out⟩
          case measure => simp [intOf]; omega
        · obtain rfl : m = xs.length := by omega
          have hlen := grown_length xs y k hp
          have hA : ArcsIn wr (some ⟨w.heap.size + 1 + 1, 0, none⟩) (grown xs y k) := by
            refine .inr ⟨_, _, rfl, hF.size, ?_⟩
            have := hF.arcs
            rwa [List.take_of_length_le (by omega)] at this
          have hC : ArcsIn wr (some ⟨b, off, none⟩) xs := .inr ⟨_, _, rfl, Nat.lt_of_lt_of_le hbw hF.below.size, hin.below hF.below hbw⟩
          have hB := hF.below
          have r0 := rank_nonneg xs
          have r1 := rank_mono xs y k
          have HL : Hid _ := hlen
          clear hF hin hlen
          go_wp2_with fail
          refine (arcsOf_any xs _ cap _ (by omega) hC).mono ?_
          rintro e w1 ⟨a1, rfl, hin1, hb1⟩
          go_wp2_with fail
          refine (zzclassify_any xs a1 xs.length _ (by omega) hin1).mono ?_
          rintro e w2 ⟨rfl, hb2⟩
          go_wp2_with fail
          refine (rank_any _ _).mono ?_
          rintro e w3 ⟨rfl, rfl⟩
          go_wp2_with fail
          rw [← HL.out]
          refine (arcsOf_any (grown xs y k) _ _ _ (by rw [HL.out]; omega) ((hA.below hb1).below hb2)).mono ?_
          rintro e w4 ⟨a4, rfl, hin4, hb4⟩
          go_wp2_with fail
          refine (zzclassify_any (grown xs y k) a4 _ _ (by rw [HL.out]; omega) hin4).mono ?_
          rintro e w5 ⟨rfl, hb5⟩
          go_wp2_with fail
          refine (rank_any _ _).mono ?_
          rintro e w6 ⟨rfl, rfl⟩
          go_wp2
          go_ret
          have b1 := hB.trans (hb1.mono hB.size)
          have b2 := b1.trans (hb2.mono b1.size)
          have b4 := b2.trans (hb4.mono b2.size)
          have b5 := b4.trans (hb5.mono b4.size)
          exact ⟨ret_bool (by simp), b5⟩

set_option maxHeartbeats 1000000 in
theorem walk_none (a : Option Addr) (cap : Nat) (y : Arc9) (w : World) :
    Calls Try.prog 5 #[.slice a 0 cap, .agg #[.int .i64 y.c0, .int .i64 y.c1, .int .i64 y.c2, .int .i64 y.c3, .int .i64 y.c4, .int .u8 y.ty, .bool y.c6, .bool y.c7, .int .i64 y.c8], .int .i64 0] w fun e w' => e = .returned (.bool true) ∧ Below w.heap.size w w' := by
  have hmk : ∀ W, (Instr.makeSlice 22 (.int .i64 1) (.int .i64 1)).run Try.prog W = .ok (.slice (some ⟨W.heap.size, 0, none⟩) 1 1) (W.alloc (.cells (madeCells _ ((([] : List Arc9).length + 1) * 9)) 31)) := run_make_wide (P := Try.prog) 22 31 _ 9 56 Try.underlying22 info31 1 (by omega) (by omega)
  go_enter Try.func5, Try.ntmps5
  go_wp2_with fail
  refine (bytes15_any _ 0 cap y 0 _ (by unfold maxLen; omega)).mono ?_
  rintro e w' ⟨rfl, C, rfl⟩
  have hF := Fill.start w [] y 0 C #[.int .i64 0, .int .i64 0, .int .i64 0, .int .i64 0, .int .i64 0, .int .u8 0, .bool false, .bool false, .int .i64 0]
  go_wp2_with fail
  refine wp_loop_rounds 1 ?_
  rw [rounds_succ]
  generalize ((w.alloc _).alloc _).alloc _ = wr at hF ⊢
  obtain ⟨c0, c1, c2, c3, c4, c5, c6, c7, c8⟩ := arc_cells hF.extra
  simp only [Nat.zero_add] at c1 c2 c3 c4 c5 c6 c7 c8
  clear hmk
  go_wp2_with (refine wpList_store_cs ?hgd 31 (.tmp 47) (.tmp 46) ?ho (w.heap.size + 1 + 1) 0 y.cells ?hx ?hy size31 rfl ?hth ?_; (case ho => exact rfl); (case hgd => exact rfl); (case hx => exact rfl); (case hy => exact rfl); (case hth => exact hF.hth (by decide) y))
  have hF1 : Fill w [] y 0 1 (wr.setCells (w.heap.size + 1 + 1) 0 y.cells) := hF.step (k := 0) (Nat.le_refl _) (by decide) rfl
  generalize wr.setCells (w.heap.size + 1 + 1) 0 y.cells = wq at hF1 ⊢
  refine wp_loop_rounds 1 ?_
  rw [rounds_succ]
  have hA : ArcsIn wq (some ⟨w.heap.size + 1 + 1, 0, none⟩) [y] := .inr ⟨_, _, rfl, hF1.size, hF1.arcs⟩
  have hB := hF1.below
  have r0 := rank_nonneg []
  have r1 := rank_mono [] y 0
  clear hF hF1 c0 c1 c2 c3 c4 c5 c6 c7 c8
  go_wp2_with fail
  refine (arcsOf_any [] _ cap _ (by decide) (.inl rfl)).mono ?_
  rintro e w1 ⟨a1, rfl, hin1, hb1⟩
  go_wp2_with fail
  refine (zzclassify_any [] a1 0 _ (by decide) hin1).mono ?_
  rintro e w2 ⟨rfl, hb2⟩
  go_wp2_with fail
  refine (rank_any _ _).mono ?_
  rintro e w3 ⟨rfl, rfl⟩
  go_wp2_with fail
  refine (arcsOf_any [y] _ _ _ (by simp) ((hA.below hb1).below hb2)).mono ?_
  rintro e w4 ⟨a4, rfl, hin4, hb4⟩
  go_wp2_with fail
  refine (zzclassify_any [y] a4 _ _ (by simp) hin4).mono ?_
  rintro e w5 ⟨rfl, hb5⟩
  go_wp2_with fail
  refine (rank_any _ _).mono ?_
  rintro e w6 ⟨rfl, rfl⟩
  have r2 : rk (cls []) ≤ rk (cls [y]) := r1
  clear r1
  go_wp2
  go_ret
  have b1 := hB.trans (hb1.mono hB.size)
  have b2 := b1.trans (hb2.mono b1.size)
  have b4 := b2.trans (hb4.mono b2.size)
  have b5 := b4.trans (hb5.mono b4.size)
  exact ⟨ret_bool (by simp), b5⟩

/-- The guards' ways out. -/
theorem walk_out (a : Option Addr) (n cap : Nat) (y : Arc9) (p : Int) (w : World) (hm : n ≤ maxLen) (h : 16383 < n ∨ p < 0 ∨ (n : Int) < p) :
    Calls Try.prog 5 #[.slice a n cap, .agg #[.int .i64 y.c0, .int .i64 y.c1, .int .i64 y.c2, .int .i64 y.c3, .int .i64 y.c4, .int .u8 y.ty, .bool y.c6, .bool y.c7, .int .i64 y.c8], .int .i64 p] w fun e w' => e = .returned (.bool true) ∧ Below w.heap.size w w' := by
  have hm' := hm
  unfold maxLen at hm'
  have fin : ∀ C : Array Value, Below w.heap.size w ((w.alloc (.cells #[.int .i64 y.c0, .int .i64 y.c1, .int .i64 y.c2, .int .i64 y.c3, .int .i64 y.c4, .int .u8 y.ty, .bool y.c6, .bool y.c7, .int .i64 y.c8] 31)).alloc (.cells C 31)) := fun C => ((Below.refl _ _).alloc (Nat.le_refl _) _).alloc (by simp) _
  by_cases h1 : n ≤ 1048576
  · have hd : decide (n ≤ 1048576) = true := by simp [h1]
    by_cases h2 : 16383 < n
    · clear h
      go_enter Try.func5, Try.ntmps5
      go_wp2_with fail
      refine (bytes15_any _ n cap y p _ hm).mono ?_
      rintro e w' ⟨rfl, C, rfl⟩
      go_wp2
      go_ret
      exact ⟨rfl, fin C⟩
    · by_cases h3 : p < 0
      · clear h
        have t2 : decide (p < 0) = true := by simp [h3]
        go_enter Try.func5, Try.ntmps5
        go_wp2_with fail
        refine (bytes15_any _ n cap y p _ hm).mono ?_
        rintro e w' ⟨rfl, C, rfl⟩
        go_wp2
        go_ret
        exact ⟨rfl, fin C⟩
      · have h4 : (n : Int) < p := by omega
        clear h
        have t2 : decide (p < 0) = false := by simp; omega
        have t3 : decide ((n : Int) < p) = true := by simp [h4]
        go_enter Try.func5, Try.ntmps5
        go_wp2_with fail
        refine (bytes15_any _ n cap y p _ hm).mono ?_
        rintro e w' ⟨rfl, C, rfl⟩
        go_wp2
        go_ret
        exact ⟨rfl, fin C⟩
  · have hd : decide (n ≤ 1048576) = false := by simp [h1]
    clear h
    go_enter Try.func5, Try.ntmps5
    go_wp2_with fail
    refine (bytes15_any _ n cap y p _ hm).mono ?_
    rintro e w' ⟨rfl, C, rfl⟩
    go_wp2
    go_ret
    exact ⟨rfl, fin C⟩

theorem walk (xs : List Arc9) (a : Option Addr) (cap : Nat) (y : Arc9) (p : Int) (w : World) (hm : xs.length ≤ maxLen) (hin : ArcsIn w a xs) :
    Calls Try.prog 5 #[.slice a xs.length cap, .agg #[.int .i64 y.c0, .int .i64 y.c1, .int .i64 y.c2, .int .i64 y.c3, .int .i64 y.c4, .int .u8 y.ty, .bool y.c6, .bool y.c7, .int .i64 y.c8], .int .i64 p] w fun e w' => e = .returned (.bool true) ∧ Below w.heap.size w w' := by
  by_cases h : 16383 < xs.length ∨ p < 0 ∨ (xs.length : Int) < p
  · exact walk_out a xs.length cap y p w hm h
  · obtain ⟨q, rfl⟩ := Int.eq_ofNat_of_zero_le (show 0 ≤ p by omega)
    rcases hin with rfl | ⟨b, off, rfl, hb, hat⟩
    · have : q = 0 := by simp at h; omega
      subst this
      exact walk_none a cap y w
    · exact walk_some xs b off cap y q w (by omega) (by omega) hb hat

set_option maxRecDepth 100000 in
theorem lifted (os : Os) (started : os.Started) (H : Type) (enc : TypeId × Value → H) :
    ReturnsInHanded {} Try.checked os 5 .any (Rows.fnClassifyNeverFallsWhenAnArcJoinsSpec.pre6 enc Try.prog Try.f5 Rows.fnClassifyNeverFallsWhenAnArcJoinsRow.domain false) (Rows.fnClassifyNeverFallsWhenAnArcJoinsSpec.post enc Try.prog Try.f5 false true false false) := by
  refine returnsInHanded_of_change (C := Try.checked) Try.own started (by kernel_rfl) Try.func5
    (ChangeSpec.witness6 (enc := enc) (C := Try.checked) false ⟨#[], #[.slice none 0 0, .agg #[.int .i64 0, .int .i64 0, .int .i64 0, .int .i64 0, .int .i64 0, .int .u8 0, .bool false, .bool false, .int .i64 0], .int .i64 0], []⟩ 8 (by kernel_rfl) (by kernel_rfl) (by kernel_rfl) (by kernel_rfl)) ?_
  intro W base args ds gs before hval0 hW hcnd _
  have hval : ∀ (j : Nat) t v, Try.f5.params[j]? = some t → args[j]? = some v → Value.okWide Try.prog W .any base t v := hval0
  have hW' := hW
  obtain ⟨p, q, hA0, hV, rfl, hfz, hnd⟩ := hW
  have hA : DataW.TrodAll enc Try.prog W 0 (fun _ => true) true Try.f5.params.toList args.toList ds p := hA0
  rw [Try.params5] at hA hval
  obtain ⟨v0, vs0, d0, ds0, p0, q0, hargs, rfl, rfl, h0, r0⟩ := trodAll_cons hA
  obtain ⟨v1, vs1, d1, ds1, p1, q1, rfl, rfl, rfl, h1, r1⟩ := trodAll_cons r0
  obtain ⟨v2, vs2, d2, ds2, p2, q2, rfl, rfl, rfl, h2, r2⟩ := trodAll_cons r1
  obtain ⟨rfl, rfl, rfl⟩ := trodAll_nil r2
  obtain rfl : args = #[v0, v1, v2] := by cases args; simp_all
  obtain ⟨rfl, rfl⟩ := trodVars_none hV
  obtain ⟨a0, len0, cap0, rfl⟩ := okWide_slice Try.underlying22 (hval 0 22 v0 rfl rfl)
  have lt0 : ∀ x ∈ p0, x.block < W.heap.size := by obtain ⟨m, hm⟩ := h0; exact DataW.trod_lt m _ _ _ hm
  have lt1 : ∀ x ∈ p1, x.block < W.heap.size := by obtain ⟨m, hm⟩ := h1; exact DataW.trod_lt m _ _ _ hm
  obtain ⟨xs, rfl, hmax, hin⟩ := arcs_open h0
  obtain ⟨y, rfl⟩ : ∃ y : Arc9, v1 = .agg y.cells.toArray := by
    obtain ⟨cs, rfl, _⟩ := okWide_struct Try.underlying31 (hval 1 31 v1 rfl rfl)
    obtain ⟨m, hm⟩ := h1
    obtain ⟨y, hy⟩ := arc_of_trod hm
    refine ⟨y, ?_⟩
    have hy' : cs.toList = y.cells := by simpa [Value.cells] using hy
    rw [← hy']
  obtain ⟨a2, rfl, rfl, rfl, w2⟩ := open_int Try.underlying3 (hval 2 3 v2 rfl rfl) h2
  clear hA0 hval0
  refine (walk xs a0 cap0 y a2 W hmax hin).mono fun e W' ⟨he, bel⟩ => ?_
  subst he
  exact ⟨_, rfl, _, _, _, [], _, [], hW', trodAll_mk1 (shut_bool Try.underlying4 _), (trodAll_cons_mk (Below.trod Try.laidOut (by kernel_rfl) (of_decide_eq_true (by kernel_rfl)) h0 bel lt0) (trodAll_cons_mk (Below.trod Try.laidOut (by kernel_rfl) (of_decide_eq_true (by kernel_rfl)) h1 bel lt1) (trodAll_cons_mk (shut_int Try.underlying3 w2) trodAll_mk0))), rfl, bel.frame _, fun h => by cases h⟩

end Joins

/-- THE STATEMENT. -/
theorem fnClassifyNeverFallsWhenAnArcJoins_proved : Rows.FnClassifyNeverFallsWhenAnArcJoinsSaid :=
  OpenClaim.holds_of_wide 5 Try.f5 rfl rfl rfl rfl rfl rfl rfl ⟨rfl, rfl, rfl, rfl, rfl⟩ rfl rfl rfl rfl rfl (by kernel_rfl) Try.func5 (by kernel_rfl)
    (of_decide_eq_true (by kernel_rfl)) (by unfold Func.isWrapper; first | (rw [if_pos (by decide +kernel)]; kernel_rfl) | (rw [if_neg (by decide +kernel)]; exact ⟨rfl, rfl⟩))
    (fun os started H enc _ => Joins.lifted os started H enc)
end Go.Proofs.Qxb6601938a
