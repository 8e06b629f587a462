/-
  SEAT b6601938a. arcsOf: a fresh copy of the arcs, and the law's walk.
-/
import Derived.Test.Qxb6601938aArc
import Derived.Lib.SliceRun
namespace Go.Proofs.Qxb6601938a
open Go.RowKit

theorem info65 : (Try.prog.info? 65).map (fun i => (i.zero, i.size, i.bytes)) = some (some (.agg #[.int .i64 0, .int .i64 0, .int .i64 0, .int .i64 0, .int .i64 0, .int .u8 0, .bool false, .bool false, .int .i64 0]), 9, 56) := by kernel_rfl
theorem size65 : (Try.prog.info? 65).map (·.size) = some 9 := by kernel_rfl

theorem makeArc_any (c0 c1 c2 c3 c4 ty : Int) (c6 c7 : Bool) (c8 : Int) (w : World) :
    Calls Try.prog 29 #[.int .i64 c0, .int .i64 c1, .int .i64 c2, .int .i64 c3, .int .i64 c4, .int .u8 ty, .bool c6, .bool c7, .int .i64 c8] w fun e w' =>
      e = .returned (.agg #[.int .i64 c0, .int .i64 c1, .int .i64 c2, .int .i64 c3, .int .i64 c4, .int .u8 ty, .bool c6, .bool c7, .int .i64 c8]) ∧ ∃ C : Array Value, w' = w.alloc (.cells C 65) := by
  go_enter Try.func29, Try.ntmps29
  go_wp2
  simp [bodyPost, results, Try.results29, go_sem]
  exact ⟨_, rfl⟩

/-- What a round does to the copy. -/
theorem copy_step {wr w2 : World} {B n k : Nat} {xs : List Arc9} {x : Arc9} (hk : k < n) (hx : x = xs.getD k arc0) (hkx : k < xs.length) (h : ArcsAt wr B 0 (xs.take k)) (ht : wr.there B 0 (n * 9)) (hb : Below wr.heap.size wr w2) (hB : B < wr.heap.size) :
    ArcsAt (w2.setCells B (k * 9) x.cells) B 0 (xs.take (k + 1)) ∧ (w2.setCells B (k * 9) x.cells).there B 0 (n * 9) := by
  have ht2 := there_below ht hb hB
  refine ⟨?_, World.there_setCells ht2 _ _ _⟩
  intro i hi
  rw [List.length_take] at hi
  have e9 : x.cells.length = 9 := rfl
  by_cases e : i = k
  · subst e
    have e1 : (xs.take (i + 1)).getD i arc0 = x := by
      rw [hx]; simp [List.getD]
    rw [e1, Nat.zero_add]
    exact World.rangeAt_setCells_same _ _ _ _ (there_sub ht2 _ _ (by omega) (by rw [e9]; omega))
  · have hik : i < k := by omega
    have e1 : (xs.take (k + 1)).getD i arc0 = (xs.take k).getD i arc0 := by
      simp [List.getD, hik, show i < k + 1 by omega]
    rw [e1]
    have e9' : ((xs.take k).getD i arc0).cells.length = 9 := rfl
    exact World.rangeAt_setCells_apart (range_below (h i (by rw [List.length_take]; omega)) hb hB) _ _ _ (by rw [e9']; omega)

set_option maxHeartbeats 400000 in
theorem arcsOf_some (xs : List Arc9) (b off cap : Nat) (w : World) (hn : xs.length ≤ 16385) (hbw : b < w.heap.size) (hin : ArcsAt w b off xs) :
    Calls Try.prog 12 #[.slice (some ⟨b, off, none⟩) xs.length cap] w fun e w' => e = .returned (.slice (some ⟨w.heap.size, 0, none⟩) xs.length xs.length) ∧ ArcsAt w' w.heap.size 0 xs ∧ w.heap.size < w'.heap.size ∧ Below w.heap.size w w' := by
  have hmk := run_make_wide (P := Try.prog) 26 65 _ 9 56 Try.underlying26 info65 xs.length (by omega) (by omega)
  have hnil := fun W => Lib.run_eql_slice_nil (P := Try.prog) W 22 31 (some ⟨b, off, none⟩) xs.length cap 0 0 Try.underlying22
  go_enter Try.func12, Try.ntmps12
  go_wp2
  go_loopw [13] (fun i wr => ∃ k : Nat, k ≤ xs.length ∧ i = .int .i64 k ∧ ArcsAt wr w.heap.size 0 (xs.take k) ∧ wr.there w.heap.size 0 (xs.length * 9) ∧ w.heap.size < wr.heap.size ∧ Below w.heap.size w wr)
    (fun i _ => xs.length - (intOf i).toNat)
  case atStart =>
    refine ⟨0, Nat.zero_le _, rfl, fun i hi => by simp at hi, ?_, by simp, (Below.refl _ _).alloc (Nat.le_refl _) _⟩
    have := there_new w (madeCells #[.int .i64 0, .int .i64 0, .int .i64 0, .int .i64 0, .int .i64 0, .int .u8 0, .bool false, .bool false, .int .i64 0] (xs.length * 9)) 65
    rw [size_madeCells] at this
    exact this
  case round =>
    clear hmk hnil
    obtain ⟨k, hk, rfl, hA, ht, hB, hb⟩ := hrel
    by_cases hlt : k < xs.length
    · obtain ⟨c0, c1, c2, c3, c4, c5, c6, c7, c8⟩ := arc_cells ((hin.below hb hbw) k hlt)
      obtain ⟨x, hx⟩ : ∃ x, x = xs.getD k arc0 := ⟨_, rfl⟩
      rw [← hx] at c0 c1 c2 c3 c4 c5 c6 c7 c8
      have HX : Hid _ := hx
      have HA : Hid _ := hA
      have HT : Hid _ := ht
      clear hx hA ht hin
      go_wp2_with (first
        | (go_at_call 29; refine (makeArc_any _ _ _ _ _ _ _ _ _ _).mono ?_; rintro e w' ⟨rfl, C, rfl⟩)
        | (refine wpList_store_cs ?hgd 65 (.tmp 41) (.tmp 40) ?ho w.heap.size (k * 9) x.cells ?hx ?hy size65 rfl ?hth ?_; (case ho => exact rfl); (case hgd => exact rfl); (case hx => exact rfl); (case hy => exact rfl)))
      case hth => exact World.there_alloc (World.there_alloc (there_sub HT.out _ _ (by omega) (by show k * 9 + 9 ≤ _; omega)) _) _
      have hbel : Below wr.heap.size wr ((wr.alloc (.cells x.cells.toArray 31)).alloc (.cells C 65)) := ((Below.refl _ _).alloc (Nat.le_refl _) _).alloc (by simp) _
      have R := copy_step (n := xs.length) hlt HX.out hlt HA.out HT.out hbel hB
      go_roundw
      case rel =>
        refine ⟨k + 1, by omega, by go_num, R.1, R.2, ?_, ?_⟩
        · rw [size_setCells]; simp; omega
        · exact below_setCells (Nat.le_refl _) _ _ _ ((hb.alloc hb.size _).alloc (by simp; omega) _)
      case measure => simp [intOf]; omega
    · have e : xs.take k = xs := List.take_of_length_le (by omega)
      rw [e] at hA
      have HA : Hid _ := hA
      clear hA hin
      go_wp2
      go_ret
      exact ⟨rfl, HA.out, hB, hb⟩

theorem arcsOf_empty (a : Addr) (cap : Nat) (w : World) :
    Calls Try.prog 12 #[.slice (some a) 0 cap] w fun e w' => e = .returned (.slice (some ⟨w.heap.size, 0, none⟩) 0 0) ∧ w.heap.size < w'.heap.size ∧ Below w.heap.size w w' := by
  have hmk : ∀ W, (Instr.makeSlice 26 (.int .i64 0) (.int .i64 0)).run Try.prog W = .ok (.slice (some ⟨W.heap.size, 0, none⟩) 0 0) (W.alloc _) := run_make_wide (P := Try.prog) 26 65 _ 9 56 Try.underlying26 info65 0 (by omega) (by omega)
  have hnil := fun W => Lib.run_eql_slice_nil (P := Try.prog) W 22 31 (some a) 0 cap 0 0 Try.underlying22
  go_enter Try.func12, Try.ntmps12
  go_wp2
  refine wp_loop_rounds 1 ?_
  rw [rounds_succ]
  go_wp2
  go_ret
  exact ⟨rfl, by simp, (Below.refl _ _).alloc (Nat.le_refl _) _⟩

theorem arcsOf_nil (cap : Nat) (w : World) :
    Calls Try.prog 12 #[.slice none 0 cap] w fun e w' => e = .returned (.slice none 0 0) ∧ w' = w := by
  have hnil := fun W => Lib.run_eql_slice_nil (P := Try.prog) W 22 31 none 0 cap 0 0 Try.underlying22
  go_enter Try.func12, Try.ntmps12
  go_wp2
  go_ret
  exact ⟨rfl, rfl⟩

theorem arcsOf_any (xs : List Arc9) (a : Option Addr) (cap : Nat) (w : World) (hn : xs.length ≤ 16385) (hin : ArcsIn w a xs) :
    Calls Try.prog 12 #[.slice a xs.length cap] w fun e w' => ∃ a', e = .returned (.slice a' xs.length xs.length) ∧ ArcsIn w' a' xs ∧ Below w.heap.size w w' := by
  rcases hin with rfl | ⟨b, off, rfl, hb, hat⟩
  · cases a with
    | none =>
      refine (arcsOf_nil cap w).mono ?_
      rintro e w' ⟨rfl, rfl⟩
      exact ⟨_, rfl, .inl rfl, Below.refl _ _⟩
    | some a =>
      refine (arcsOf_empty a cap w).mono ?_
      rintro e w' ⟨rfl, h1, h2⟩
      exact ⟨_, rfl, .inl rfl, h2⟩
  · refine (arcsOf_some xs b off cap w hn hb hat).mono ?_
    rintro e w' ⟨rfl, h1, h2, h3⟩
    exact ⟨_, rfl, .inr ⟨_, _, rfl, h2, h1⟩, h3⟩

end Go.Proofs.Qxb6601938a
