/-
  SEAT b6601938a. mopsOf: a deep copy of micro-operations.
-/
import Derived.Test.Qxb6601938aMops
namespace Go.Proofs.Qxb6601938a
open Go.RowKit

/-! ### mopsOf -/
theorem info71 : (Try.prog.info? 71).map (fun i => (i.zero, i.size, i.bytes)) = some (some (.agg #[.int .u8 0, .bool false, .int .i64 0, .int .i64 0, .slice none 0 0]), 5, 48) := by kernel_rfl
theorem size71 : (Try.prog.info? 71).map (·.size) = some 5 := by kernel_rfl
theorem info2 : (Try.prog.info? 2).map (fun i => (i.zero, i.size, i.bytes)) = some (some (.int .i64 0), 1, 8) := by kernel_rfl

/-- The copy so far: k operations. -/
structure Copied (w : World) (n k : Nat) (wr : World) : Prop where
  mops : ∃ zs : List Mop5, zs.length = k ∧ MopsAt wr w.heap.size 0 zs
  room : wr.there w.heap.size 0 (n * 5)
  size : w.heap.size < wr.heap.size
  below : Below w.heap.size w wr

theorem there_cell {w : World} {b o n : Nat} (h : w.there b o n) {j : Nat} (hj : j < n) : ∃ u, w.cell? ⟨b, o + j, none⟩ = some u ∧ w.frozen? ⟨b, o + j, none⟩ = false := by
  obtain ⟨h1, h2⟩ := h j hj
  obtain ⟨u, hu⟩ := Option.isSome_iff_exists.1 h1
  exact ⟨u, hu, h2⟩

/-- One operation more is laid. -/
theorem Copied.step {w : World} {n k : Nat} {wr w2 : World} (h : Copied w n k wr) (hk : k < n) (hb : Below wr.heap.size wr w2) (x : Mop5) : Copied w n (k + 1) (w2.setCells w.heap.size (k * 5) x.cells) := by
  obtain ⟨⟨zs, hz, hat⟩, ht, hs, hbe⟩ := h
  have ht2 := there_below ht hb hs
  have e5 : x.cells.length = 5 := rfl
  refine ⟨⟨zs ++ [x], by simp [hz], ?_⟩, World.there_setCells ht2 _ _ _, ?_, ?_⟩
  · intro i hi
    have hi' : i < k + 1 := by simpa [hz] using hi
    by_cases e : i = k
    · subst e
      have e1 : (zs ++ [x]).getD i mop0 = x := by simp [List.getD, hz]
      rw [e1, Nat.zero_add]
      exact World.rangeAt_setCells_same _ _ _ _ (there_sub ht2 _ _ (by omega) (by rw [e5]; omega))
    · have hik : i < k := by omega
      have e1 : (zs ++ [x]).getD i mop0 = zs.getD i mop0 := by
        simp only [List.getD]
        rw [List.getElem?_append_left (by omega)]
      rw [e1]
      have e5' : (zs.getD i mop0).cells.length = 5 := rfl
      exact World.rangeAt_setCells_apart (range_below (hat i (by omega)) hb hs) _ _ _ (by rw [e5']; omega)
  · rw [size_setCells]; have := hb.size; omega
  · exact below_setCells (Nat.le_refl _) _ _ _ (hbe.trans (hb.mono hbe.size))

/-- What the last statement of a round reads and writes. -/
theorem round_facts {W : World} {B o b1 o1 : Nat} {x : Mop5} (hr : W.rangeAt b1 o1 x.cells) (ht : W.there B o 5) :
    (W.cell? ⟨b1, o1, none⟩ = some (.int .u8 x.kind) ∧ W.cell? ⟨b1, o1 + 1, none⟩ = some (.bool x.hv) ∧ W.cell? ⟨b1, o1 + 2, none⟩ = some (.int .i64 x.key) ∧
    W.cell? ⟨b1, o1 + 3, none⟩ = some (.int .i64 x.elem) ∧ W.cell? ⟨b1, o1 + 4, none⟩ = some (.slice x.la x.ll x.lc)) ∧
    ∃ u0 u1 u2 u3 u4, W.cell? ⟨B, o, none⟩ = some u0 ∧ W.cell? ⟨B, o + 1, none⟩ = some u1 ∧ W.cell? ⟨B, o + 2, none⟩ = some u2 ∧ W.cell? ⟨B, o + 3, none⟩ = some u3 ∧ W.cell? ⟨B, o + 4, none⟩ = some u4 ∧
      W.frozen? ⟨B, o, none⟩ = false ∧ W.frozen? ⟨B, o + 1, none⟩ = false ∧ W.frozen? ⟨B, o + 2, none⟩ = false ∧ W.frozen? ⟨B, o + 3, none⟩ = false ∧ W.frozen? ⟨B, o + 4, none⟩ = false := by
  obtain ⟨u0, p0, z0⟩ := there_cell ht (j := 0) (by omega)
  obtain ⟨u1, p1, z1⟩ := there_cell ht (j := 1) (by omega)
  obtain ⟨u2, p2, z2⟩ := there_cell ht (j := 2) (by omega)
  obtain ⟨u3, p3, z3⟩ := there_cell ht (j := 3) (by omega)
  obtain ⟨u4, p4, z4⟩ := there_cell ht (j := 4) (by omega)
  exact ⟨mop_cells hr, u0, u1, u2, u3, u4, p0, p1, p2, p3, p4, z0, z1, z2, z3, z4⟩

set_option maxHeartbeats 2000000 in
theorem mopsOf_walk (xs : List Mop5) (a1 : Addr) (b1 o1 c1 : Nat) (w : World) (hn1 : xs.length ≤ 32768) (h1 : MopsIn w (some a1) b1 o1 xs) (l1 : Lists w xs) (s1 : Short xs) :
    Calls Try.prog 19 #[.slice (some a1) xs.length c1] w fun e w' => e = .returned (.slice (some ⟨w.heap.size, 0, none⟩) xs.length xs.length) ∧ Copied w xs.length xs.length w' := by
  have hmk := run_make_wide (P := Try.prog) 37 71 _ 5 48 Try.underlying37 info71 xs.length (by omega) (by omega)
  have hnil := fun W => Lib.run_eql_slice_nil (P := Try.prog) W 34 68 (some a1) xs.length c1 0 0 Try.underlying34
  have H1 : Hid _ := h1
  have L1 : Hid _ := l1
  have S1 : Hid _ := s1
  clear h1 l1 s1
  go_enter Try.func19, Try.ntmps19
  go_wp2
  go_loopw [14] (fun i wr => ∃ k : Nat, k ≤ xs.length ∧ i = .int .i64 k ∧ Copied w xs.length k wr) (fun i _ => xs.length - (intOf i).toNat)
  case atStart =>
    refine ⟨0, Nat.zero_le _, rfl, ⟨[], rfl, fun i hi => by simp at hi⟩, ?_, by simp, (Below.refl _ _).alloc (Nat.le_refl _) _⟩
    have := there_new w (madeCells #[.int .u8 0, .bool false, .int .i64 0, .int .i64 0, .slice none 0 0] (xs.length * 5)) 71
    rw [size_madeCells] at this
    exact this
  case round =>
    clear hmk hnil
    obtain ⟨k, hk, rfl, hC⟩ := hrel
    by_cases hlt : k < xs.length
    · have ha := H1.out.addr (by omega)
      obtain rfl : a1 = ⟨b1, o1, none⟩ := Option.some.inj ha
      clear ha
      have R1 := (H1.out.below hC.below).mops k hlt
      have hb1 : b1 < wr.heap.size := (H1.out.below hC.below).lt (by omega)
      have hsh : (xs.getD k mop0).ll ≤ 1048576 := S1.out k hlt
      obtain ⟨lb, lo, hL⟩ := Lists.below (w := w) (xs := xs) L1.out hC.below k hlt
      generalize xs.getD k mop0 = x at *
      obtain ⟨kd, hv, ky, el, la, ll, lc⟩ := x
      obtain ⟨hl1, hl2, hl3, hl4⟩ := hL
      dsimp only at hsh hl1 hl2 hl3 hl4
      have R5 := there_sub hC.room (k * 5) 5 (by omega) (by omega)
      have q1 : (k : Int) < xs.length := by omega
      obtain ⟨⟨f0, f1, f2, f3, f4⟩, u0, u1, u2, u3, u4', p0, p1, p2, p3, p4, z0, z1, z2, z3, z4⟩ := round_facts R1 R5
      have HR1 : Hid _ := R1
      have HR5 : Hid _ := R5
      have HL4 : Hid _ := hl4
      have HL2 : Hid _ := hl2
      have HC : Hid _ := hC
      clear hl2 hl4 hC R5 R1
      cases la with
      | none =>
        have hneq := fun W => run_neq_slice_nil_any (P := Try.prog) W 49 2 none ll lc 0 0 Try.underlying49
        go_wp2
        go_region
        go_wp2
        have R := HC.out.step hlt (w2 := wr.drew) (Below.refl _ _).drew ⟨kd, hv, ky, el, none, 0, 0⟩
        go_roundw
        case rel => exact ⟨k + 1, by omega, by go_num, R⟩
        case measure => simp [intOf]; omega
      | some ad =>
        have hneq := fun W => run_neq_slice_nil_any (P := Try.prog) W 49 2 (some ad) ll lc 0 0 Try.underlying49
        have hmk := run_make_wide (P := Try.prog) 49 2 _ 1 8 Try.underlying49 info2 ll (by omega) (by omega)
        have g4 : ∀ o, (wr.alloc o).cell? ⟨b1, o1 + k * 5 + 4, none⟩ = some (.slice (some ad) ll lc) := fun o => World.rangeAt_alloc HR1.out o 4 _ rfl
        clear p0 p1 p2 p3 p4 z0 z1 z2 z3 z4
        go_wp2
        obtain ⟨wo, rfl⟩ : ∃ wo : World, wo = wr := ⟨_, rfl⟩
        go_loopw [36] (fun i wi => ∃ j : Nat, j ≤ ll ∧ i = .int .i64 j ∧ wi.there wo.heap.size 0 ll ∧ wo.heap.size < wi.heap.size ∧ Below wo.heap.size wo wi) (fun i _ => ll - (intOf i).toNat)
        case atStart =>
          refine ⟨0, Nat.zero_le _, rfl, ?_, by simp, (Below.refl _ _).alloc (Nat.le_refl _) _⟩
          have := there_new wo (madeCells #[.int .i64 0] (ll * 1)) 2
          rw [size_madeCells, Nat.mul_one] at this
          simpa using this
        case round =>
          clear hneq hmk g4 f0 f1 f2 f3 f4
          obtain ⟨j, hj, rfl, ht, hs, hb⟩ := hrel
          have R1 := range_below HR1.out hb hb1
          by_cases hjl : j < ll
          · have had := HL2.out (by omega)
            obtain rfl : ad = ⟨lb, lo, none⟩ := Option.some.inj had
            clear had
            obtain ⟨v, hv'⟩ := HL4.out j hjl
            have hv2 : wr.cell? ⟨lb, lo + j, none⟩ = some (.int .i64 v) := by rw [hb.cell (p := ⟨lb, _, none⟩) (hl3 (by omega))]; exact hv'
            clear hv'
            have f4 : wr.cell? ⟨b1, o1 + k * 5 + 4, none⟩ = some (.slice (some ⟨lb, lo, none⟩) ll lc) := R1 4 _ rfl
            obtain ⟨u, hu, hz⟩ := there_cell ht hjl
            rw [Nat.zero_add] at hu hz
            have HT : Hid _ := ht
            clear ht R1
            go_wp2
            go_roundw
            case rel => exact ⟨j + 1, by omega, by go_num, World.there_setCells HT.out wo.heap.size j [.int .i64 v], by simpa [World.setCell] using hs, hb.setCell (Nat.le_refl _) _⟩
            case measure => simp [intOf]; omega
          · obtain rfl : j = ll := by omega
            obtain ⟨⟨f0, f1, f2, f3, f4⟩, u0, u1, u2, u3, u4', p0, p1, p2, p3, p4, z0, z1, z2, z3, z4⟩ := round_facts R1 (there_below HR5.out hb HC.out.size)
            clear ht R1
            go_wp2
            go_region
            go_wp2
            have R := HC.out.step hlt (w2 := wr.drew) hb.drew ⟨kd, hv, ky, el, some ⟨wo.heap.size, 0, none⟩, j, j⟩
            go_roundw
            case rel => exact ⟨k + 1, by omega, by go_num, R⟩
            case measure => simp [intOf]; omega
    · obtain rfl : k = xs.length := by omega
      go_wp2
      go_ret
      exact ⟨rfl, hC⟩

theorem mopsOf_nil (cap : Nat) (w : World) :
    Calls Try.prog 19 #[.slice none 0 cap] w fun e w' => e = .returned (.slice none 0 0) ∧ w' = w := by
  have hnil := fun W => Lib.run_eql_slice_nil (P := Try.prog) W 34 68 none 0 cap 0 0 Try.underlying34
  go_enter Try.func19, Try.ntmps19
  go_wp2
  go_ret
  exact ⟨rfl, rfl⟩

/-- What mopsOf hands back: some operations, as many, in new memory. -/
def MopsPost (n : Nat) (w : World) (e : Ending) (w' : World) : Prop :=
  ∃ (a : Option Addr) (b : Nat) (zs : List Mop5), e = .returned (.slice a zs.length zs.length) ∧ zs.length = n ∧ MopsIn w' a b 0 zs ∧ Below w.heap.size w w'

theorem mopsOf_any (xs : List Mop5) (a : Option Addr) (b1 o1 c1 : Nat) (w : World) (hn1 : xs.length ≤ 32768) (h1 : MopsIn w a b1 o1 xs) (l1 : Lists w xs) (s1 : Short xs) :
    Calls Try.prog 19 #[.slice a xs.length c1] w (MopsPost xs.length w) := by
  cases a with
  | none =>
    obtain rfl : xs = [] := by
      cases xs with
      | nil => rfl
      | cons x r => have := h1.addr (by simp); cases this
    refine (mopsOf_nil c1 w).mono ?_
    rintro e w' ⟨rfl, rfl⟩
    exact ⟨none, 0, [], rfl, rfl, ⟨fun h => by simp at h, fun h => by simp at h, fun i hi => by simp at hi⟩, Below.refl _ _⟩
  | some ad =>
    refine (mopsOf_walk xs ad b1 o1 c1 w hn1 h1 l1 s1).mono ?_
    rintro e w' ⟨rfl, hC⟩
    obtain ⟨zs, hz, hat⟩ := hC.mops
    exact ⟨_, w.heap.size, zs, by rw [hz], hz, ⟨fun _ => rfl, fun _ => hC.size, hat⟩, hC.below⟩

theorem zzsame_any (xs ys : List Mop5) (a1 a2 : Option Addr) (b1 o1 c1 b2 o2 c2 : Nat) (w : World) (hn1 : xs.length ≤ 32768) (hn2 : ys.length ≤ 32768) (h1 : MopsIn w a1 b1 o1 xs) (h2 : MopsIn w a2 b2 o2 ys) :
    Calls Try.prog 20 #[.slice a1 xs.length c1, .slice a2 ys.length c2] w fun e w' => e = .returned (.bool (sw xs ys)) ∧ Below w.heap.size w w' := by
  have H1 : Hid _ := h1
  have H2 : Hid _ := h2
  clear h1 h2
  go_enter Try.func20, Try.ntmps20
  go_wp2_with fail
  refine (sameWrites_any xs ys a1 a2 b1 o1 c1 b2 o2 c2 _ hn1 hn2 H1.out H2.out).mono ?_
  rintro e w' ⟨rfl, hb⟩
  go_wp2
  go_ret
  exact ⟨rfl, hb⟩

end Go.Proofs.Qxb6601938a
