/-
  SEAT b6602369a. THE COPIES OF THE NODES.
-/
import Derived.Test.Qxb6602369aNodes
import Derived.Lib.SliceRun
import Derived.Deep.RegionHeld3
namespace Go.Proofs.Qxb6602369a
open Go.RowKit

theorem inf51 : (Try.prog.info? 51).map (fun i => (i.zero, i.size, i.bytes)) = some (some (.agg #[.int .i64 0, .int .i64 0]), 2, 16) := by kernel_rfl
theorem inf49 : (Try.prog.info? 49).map (fun i => (i.zero, i.size, i.bytes)) = some (some (.agg #[.int .i64 0, .int .i64 0]), 2, 16) := by kernel_rfl
theorem inf40 : (Try.prog.info? 40).map (fun i => (i.zero, i.size, i.bytes)) = some (some (.agg #[.slice none 0 0, .slice none 0 0, .bool false]), 3, 56) := by kernel_rfl
theorem inf45 : (Try.prog.info? 45).map (fun i => (i.zero, i.size, i.bytes)) = some (some (.agg #[.slice none 0 0, .slice none 0 0, .bool false]), 3, 56) := by kernel_rfl
theorem inf37 : (Try.prog.info? 37).map (fun i => (i.zero, i.size, i.bytes)) = some (some (.slice none 0 0), 1, 24) := by kernel_rfl
theorem inf41 : (Try.prog.info? 41).map (fun i => (i.zero, i.size, i.bytes)) = some (some (.slice none 0 0), 1, 24) := by kernel_rfl

/-- 'make([]T, n)', T of 'size' cells. -/
theorem run_make_wide {P : Program} (t e : TypeId) (z : Value) (size bytes : Nat) (ht : P.underlying t = some (.slice e)) (hinfo : (P.info? e).map (fun i => (i.zero, i.size, i.bytes)) = some (some z, size, bytes))
    (n : Nat) (hbytes : bytes * n ≤ 281474976710656) (h63 : n ≤ 9223372036854775807) (w : World) :
    (Instr.makeSlice t (.int .i64 (n : Int)) (.int .i64 (n : Int))).run P w = .ok (.slice (some ⟨w.heap.size, 0, none⟩) n n) (w.alloc (.cells (madeCells z.cells (n * size)) e)) := by
  obtain ⟨i, hi, hzz⟩ := Option.map_eq_some_iff.1 hinfo
  simp only [Prod.mk.injEq] at hzz
  obtain ⟨hz, hs, hb⟩ := hzz
  have hb' : (i.bytes : Int) * (n : Int) ≤ 281474976710656 := by
    have h : ((i.bytes * n : Nat) : Int) ≤ 281474976710656 := by rw [hb]; omega
    rwa [Int.natCast_mul] at h
  have hr := run_make (P := P) w t e i z ht hi hz .i64 .i64 n n (by omega) (Int.le_refl _) hb' (by omega)
  simp only [Int.toNat_natCast, hs] at hr
  exact hr

theorem made_wide (w : World) (zs : Array Value) (m t : Nat) : (w.alloc (.cells (madeCells zs m) t)).rowIs w.heap.size t m (fun i => zs[i % zs.size]!) := by
  have h := World.rowIs_alloc w (madeCells zs m) t (fun i => ((madeCells zs m)[i]?).getD undef) (fun i hi => by simp [hi])
  rw [size_madeCells] at h
  refine h.congr (fun i hi => ?_)
  simp [madeCells, hi]

/-- Refs in blocks from B on. -/
def RefsW (B : Nat) (w : World) (v : Value) (rs : List (Int × Int)) : Prop := ∃ a b o c, v = .slice a rs.length c ∧ RefsAt w a b o rs ∧ (0 < rs.length → B ≤ b)
theorem RefsW.toV {B : Nat} {w : World} {v : Value} {rs : List (Int × Int)} (h : RefsW B w v rs) : RefsV w v rs := by
  obtain ⟨a, b, o, c, h1, h2, _⟩ := h
  exact ⟨a, b, o, c, h1, h2⟩
theorem RefsW.mono {B B' : Nat} {w : World} {v : Value} {rs : List (Int × Int)} (h : RefsW B w v rs) (hB : B' ≤ B) : RefsW B' w v rs := by
  obtain ⟨a, b, o, c, h1, h2, h3⟩ := h
  exact ⟨a, b, o, c, h1, h2, fun h => Nat.le_trans hB (h3 h)⟩
theorem RefsW.below {B : Nat} {w w' : World} {v : Value} {rs : List (Int × Int)} (h : RefsW B w v rs) (hb : Below w.heap.size w w') : RefsW B w' v rs := by
  obtain ⟨a, b, o, c, h1, h2, h3⟩ := h
  exact ⟨a, b, o, c, h1, h2.below hb, h3⟩
theorem RefsW.set {B : Nat} {w : World} {v : Value} {rs : List (Int × Int)} (h : RefsW B w v rs) {q : Addr} (hq : q.block < B) (x : Value) : RefsW B (w.setCell q x) v rs := by
  obtain ⟨a, b, o, c, h1, h2, h3⟩ := h
  refine ⟨a, b, o, c, h1, ⟨h2.addr, fun h => by simpa using h2.lt h, fun i hi => ?_, fun i hi => ?_⟩, h3⟩
  · exact cell_set (h2.node i hi) (by have := h3 (by omega); show b ≠ _; omega) x
  · exact cell_set (h2.part i hi) (by have := h3 (by omega); show b ≠ _; omega) x
def PartsW (B : Nat) (w : World) (v : Value) (ps : List (List (Int × Int))) : Prop := ∃ (a : Option Addr) (b c : Nat) (G : Nat → Value), v = .slice a ps.length c ∧ (0 < ps.length → a = some ⟨b, 0, none⟩) ∧ (0 < ps.length → B ≤ b ∧ b < w.heap.size) ∧ ∀ j, j < ps.length → w.cell? ⟨b, j, none⟩ = some (G j) ∧ RefsW B w (G j) (ps.getD j [])
theorem PartsW.toV {B : Nat} {w : World} {v : Value} {ps : List (List (Int × Int))} (h : PartsW B w v ps) : PartsV w v ps := by
  obtain ⟨a, b, c, G, h1, h2, h3, h4⟩ := h
  exact ⟨a, b, 0, c, h1, h2, fun h => (h3 h).2, fun j hj => ⟨G j, by simpa using (h4 j hj).1, (h4 j hj).2.toV⟩⟩
theorem PartsW.below {B : Nat} {w w' : World} {v : Value} {ps : List (List (Int × Int))} (h : PartsW B w v ps) (hb : Below w.heap.size w w') : PartsW B w' v ps := by
  obtain ⟨a, b, c, G, h1, h2, h3, h4⟩ := h
  exact ⟨a, b, c, G, h1, h2, fun h => ⟨(h3 h).1, Nat.lt_of_lt_of_le (h3 h).2 hb.size⟩, fun j hj => ⟨below_cell hb (h4 j hj).1, (h4 j hj).2.below hb⟩⟩
theorem PartsW.set {B : Nat} {w : World} {v : Value} {ps : List (List (Int × Int))} (h : PartsW B w v ps) {q : Addr} (hq : q.block < B) (x : Value) : PartsW B (w.setCell q x) v ps := by
  obtain ⟨a, b, c, G, h1, h2, h3, h4⟩ := h
  exact ⟨a, b, c, G, h1, h2, fun h => by simpa using h3 h, fun j hj => ⟨cell_set (h4 j hj).1 (by have := h3 (by omega); show b ≠ _; omega) x, (h4 j hj).2.set hq x⟩⟩
theorem PartsW.nil (B : Nat) (w : World) : PartsW B w (.slice none 0 0) [] := ⟨none, 0, 0, fun _ => undef, rfl, fun h => by simp at h, fun h => by simp at h, fun j hj => by simp at hj⟩
theorem RefsW.nil (B : Nat) (w : World) : RefsW B w (.slice none 0 0) [] := ⟨none, 0, 0, 0, rfl, RefsAt.nil w none, fun h => by simp at h⟩

/-- The cells of Refs. -/
def rv (rs : List (Int × Int)) (k j : Nat) : Value := if j < k * 2 then .int .i64 (if j % 2 = 0 then (rs.getD (j / 2) (0, 0)).1 else (rs.getD (j / 2) (0, 0)).2) else .int .i64 0
theorem rv_step (rs : List (Int × Int)) (k j : Nat) : (if j = k * 2 + 1 then Value.int .i64 (rs.getD k (0, 0)).2 else if j = k * 2 then .int .i64 (rs.getD k (0, 0)).1 else rv rs k j) = rv rs (k + 1) j := by
  unfold rv
  by_cases e1 : j = k * 2 + 1
  · subst e1
    rw [if_pos rfl, if_pos (show k * 2 + 1 < (k + 1) * 2 by omega), if_neg (show ¬ (k * 2 + 1) % 2 = 0 by omega), show (k * 2 + 1) / 2 = k by omega]
  · rw [if_neg e1]
    by_cases e2 : j = k * 2
    · subst e2
      rw [if_pos rfl, if_pos (show k * 2 < (k + 1) * 2 by omega), if_pos (show k * 2 % 2 = 0 by omega), show k * 2 / 2 = k by omega]
    · rw [if_neg e2]
      by_cases e3 : j < k * 2
      · rw [if_pos e3, if_pos (show j < (k + 1) * 2 by omega)]
      · rw [if_neg e3, if_neg (show ¬ j < (k + 1) * 2 by omega)]
theorem rv_zero (rs : List (Int × Int)) (j : Nat) : rv rs 0 j = .int .i64 0 := by simp [rv]

def CopyPost (w : World) (rs : List (Int × Int)) (e : Ending) (w' : World) : Prop := ∃ v, e = .returned v ∧ RefsW w.heap.size w' v rs ∧ Below w.heap.size w w'

theorem copy_end {w wr : World} {t : Nat} {rs : List (Int × Int)} (h : wr.rowIs w.heap.size t (rs.length * 2) (rv rs rs.length)) (c : Nat) : RefsW w.heap.size wr (.slice (some ⟨w.heap.size, 0, none⟩) rs.length c) rs := by
  refine ⟨_, w.heap.size, 0, c, rfl, ⟨fun _ => rfl, fun _ => h.lt, fun i hi => ?_, fun i hi => ?_⟩, fun _ => Nat.le_refl _⟩
  · rw [Nat.zero_add, h.cell (by omega)]
    simp only [rv]
    rw [if_pos (show i * 2 < rs.length * 2 by omega), if_pos (show i * 2 % 2 = 0 by omega), show i * 2 / 2 = i by omega]
  · rw [Nat.zero_add, h.cell (by omega)]
    simp only [rv]
    rw [if_pos (show i * 2 + 1 < rs.length * 2 by omega), if_neg (show ¬ (i * 2 + 1) % 2 = 0 by omega), show (i * 2 + 1) / 2 = i by omega]

set_option maxHeartbeats 1000000 in
theorem cloneRefs_any (rs : List (Int × Int)) (a1 : Option Addr) (b1 o1 c1 : Nat) (w : World) (hn : rs.length ≤ 65536) (h1 : RefsAt w a1 b1 o1 rs) :
    Calls Try.prog 31 #[.slice a1 rs.length c1] w (CopyPost w rs) := by
  have H1 := hid h1
  cases a1 with
  | none =>
    have h0 : rs.length = 0 := by
      rcases Nat.eq_zero_or_pos rs.length with q | q
      · exact q
      · cases h1.addr q
    obtain rfl : rs = [] := List.length_eq_zero_iff.1 h0
    clear h1 H1 h0 hn
    have hnil := fun W => Lib.run_eql_slice_nil (P := Try.prog) W 37 51 none 0 c1 0 0 Try.underlying37
    go_enter Try.func31, Try.ntmps31
    go_wp2
    go_ret
    exact ⟨_, rfl, RefsW.nil _ _, Below.refl _ _⟩
  | some ad =>
    clear h1
    have hmk := run_make_wide (P := Try.prog) 37 51 _ 2 16 Try.underlying37 inf51 rs.length (by omega) (by omega)
    have hnil := fun W => Lib.run_eql_slice_nil (P := Try.prog) W 37 51 (some ad) rs.length c1 0 0 Try.underlying37
    go_enter Try.func31, Try.ntmps31
    go_wp2_with fail
    go_loopw [4] (fun i wr => ∃ k : Nat, k ≤ rs.length ∧ i = .int .i64 k ∧ Below w.heap.size w wr ∧ wr.rowIs w.heap.size 51 (rs.length * 2) (rv rs k)) (fun i _ => rs.length - (intOf i).toNat)
    case atStart =>
      refine ⟨0, Nat.zero_le _, rfl, (Below.refl _ _).alloc (Nat.le_refl _) _, (made_wide w #[.int .i64 0, .int .i64 0] (rs.length * 2) 51).congr (fun j hj => ?_)⟩
      rw [rv_zero]
      rcases (show j % 2 = 0 ∨ j % 2 = 1 by omega) with h | h <;> simp [h]
    case round =>
      obtain ⟨k, hk, rfl, hb, hr⟩ := hrel
      have HB := hid hb
      have HR := hid hr
      clear hb hr
      by_cases hlt : k < rs.length
      · have ha := H1.out.addr (by omega)
        have e : ad = ⟨b1, o1, none⟩ := by simpa using ha
        subst e
        have hb1 := H1.out.lt (by omega)
        have s1 : wr.cell? ⟨b1, o1 + k * 2, none⟩ = some (.int .i64 (rs.getD k (0, 0)).1) := by
          rw [HB.out.cell (p := ⟨b1, o1 + k * 2, none⟩) hb1]; exact H1.out.node k hlt
        have s2 : wr.cell? ⟨b1, o1 + k * 2 + 1, none⟩ = some (.int .i64 (rs.getD k (0, 0)).2) := by
          rw [HB.out.cell (p := ⟨b1, o1 + k * 2 + 1, none⟩) hb1]; exact H1.out.part k hlt
        have d1 := HR.out.cell (i := k * 2) (by omega)
        have d2 := HR.out.cell (i := k * 2 + 1) (by omega)
        have f1 := HR.out.frozen (k * 2)
        have f2 := HR.out.frozen (k * 2 + 1)
        have HS := hid ((((HR.out.set (k * 2) (.int .i64 (rs.getD k (0, 0)).1)).set (k * 2 + 1) (.int .i64 (rs.getD k (0, 0)).2)).congr (fun j _ => rv_step rs k j)))
        have HBS := hid ((HB.out.setCell (p := ⟨w.heap.size, k * 2, none⟩) (Nat.le_refl _) (.int .i64 (rs.getD k (0, 0)).1)).setCell (p := ⟨w.heap.size, k * 2 + 1, none⟩) (Nat.le_refl _) (.int .i64 (rs.getD k (0, 0)).2))
        generalize rs.getD k (0, 0) = x at *
        generalize rv rs k (k * 2) = z1 at *
        generalize rv rs k (k * 2 + 1) = z2 at *
        have i1 : (k : Int) < (rs.length : Int) := by omega
        go_wp2_with fail

        go_roundw
        case rel => exact ⟨k + 1, by omega, by go_num, HBS.out, HS.out⟩
        case measure => simp [intOf]; omega
      · have ek : k = rs.length := by omega
        subst ek
        go_wp2_with fail
        go_ret
        exact ⟨_, rfl, copy_end HR.out _, HB.out⟩

set_option maxHeartbeats 1000000 in
theorem toRefs_any (rs : List (Int × Int)) (a1 : Option Addr) (b1 o1 c1 : Nat) (w : World) (hn : rs.length ≤ 65536) (h1 : RefsAt w a1 b1 o1 rs) :
    Calls Try.prog 37 #[.slice a1 rs.length c1] w (CopyPost w rs) := by
  have H1 := hid h1
  cases a1 with
  | none =>
    have h0 : rs.length = 0 := by
      rcases Nat.eq_zero_or_pos rs.length with q | q
      · exact q
      · cases h1.addr q
    obtain rfl : rs = [] := List.length_eq_zero_iff.1 h0
    clear h1 H1 h0 hn
    have hnil := fun W => Lib.run_eql_slice_nil (P := Try.prog) W 37 51 none 0 c1 0 0 Try.underlying37
    go_enter Try.func37, Try.ntmps37
    go_wp2
    go_ret
    exact ⟨_, rfl, RefsW.nil _ _, Below.refl _ _⟩
  | some ad =>
    clear h1
    have hmk := run_make_wide (P := Try.prog) 41 49 _ 2 16 Try.underlying41 inf49 rs.length (by omega) (by omega)
    have hnil := fun W => Lib.run_eql_slice_nil (P := Try.prog) W 37 51 (some ad) rs.length c1 0 0 Try.underlying37
    go_enter Try.func37, Try.ntmps37
    go_wp2_with fail
    go_loopw [4] (fun i wr => ∃ k : Nat, k ≤ rs.length ∧ i = .int .i64 k ∧ Below w.heap.size w wr ∧ wr.rowIs w.heap.size 49 (rs.length * 2) (rv rs k)) (fun i _ => rs.length - (intOf i).toNat)
    case atStart =>
      refine ⟨0, Nat.zero_le _, rfl, (Below.refl _ _).alloc (Nat.le_refl _) _, (made_wide w #[.int .i64 0, .int .i64 0] (rs.length * 2) 49).congr (fun j hj => ?_)⟩
      rw [rv_zero]
      rcases (show j % 2 = 0 ∨ j % 2 = 1 by omega) with h | h <;> simp [h]
    case round =>
      obtain ⟨k, hk, rfl, hb, hr⟩ := hrel
      have HB := hid hb
      have HR := hid hr
      clear hb hr
      by_cases hlt : k < rs.length
      · have ha := H1.out.addr (by omega)
        have e : ad = ⟨b1, o1, none⟩ := by simpa using ha
        subst e
        have hb1 := H1.out.lt (by omega)
        have s1 : wr.cell? ⟨b1, o1 + k * 2, none⟩ = some (.int .i64 (rs.getD k (0, 0)).1) := by
          rw [HB.out.cell (p := ⟨b1, o1 + k * 2, none⟩) hb1]; exact H1.out.node k hlt
        have s2 : wr.cell? ⟨b1, o1 + k * 2 + 1, none⟩ = some (.int .i64 (rs.getD k (0, 0)).2) := by
          rw [HB.out.cell (p := ⟨b1, o1 + k * 2 + 1, none⟩) hb1]; exact H1.out.part k hlt
        have d1 := HR.out.cell (i := k * 2) (by omega)
        have d2 := HR.out.cell (i := k * 2 + 1) (by omega)
        have f1 := HR.out.frozen (k * 2)
        have f2 := HR.out.frozen (k * 2 + 1)
        have HS := hid ((((HR.out.set (k * 2) (.int .i64 (rs.getD k (0, 0)).1)).set (k * 2 + 1) (.int .i64 (rs.getD k (0, 0)).2)).congr (fun j _ => rv_step rs k j)))
        have HBS := hid ((HB.out.setCell (p := ⟨w.heap.size, k * 2, none⟩) (Nat.le_refl _) (.int .i64 (rs.getD k (0, 0)).1)).setCell (p := ⟨w.heap.size, k * 2 + 1, none⟩) (Nat.le_refl _) (.int .i64 (rs.getD k (0, 0)).2))
        generalize rs.getD k (0, 0) = x at *
        generalize rv rs k (k * 2) = z1 at *
        generalize rv rs k (k * 2 + 1) = z2 at *
        have i1 : (k : Int) < (rs.length : Int) := by omega
        go_wp2_with fail
        go_region_held3 (fun W => W.cell? ⟨b1, o1 + k * 2, none⟩ = some (.int .i64 x.1) ∧ W.cell? ⟨b1, o1 + k * 2 + 1, none⟩ = some (.int .i64 x.2))
          (first | exact ⟨s1, s2⟩ | exact ⟨cell_set (cell_set s1 (by show b1 ≠ w.heap.size; omega) _) (by show b1 ≠ w.heap.size; omega) _, cell_set (cell_set s2 (by show b1 ≠ w.heap.size; omega) _) (by show b1 ≠ w.heap.size; omega) _⟩) (first | fail)
        go_wp2_with fail
        go_roundw
        case rel => exact ⟨k + 1, by omega, by go_num, HBS.out.drew, HS.out.drew⟩
        case measure => simp [intOf]; omega
      · have ek : k = rs.length := by omega
        subst ek
        go_wp2_with fail
        go_ret
        exact ⟨_, rfl, copy_end HR.out _, HB.out⟩

theorem run_neq_nil {P : Program} (w : World) (t e : TypeId) (a : Option Addr) (n c n' c' : Nat) (h : P.underlying t = some (.slice e)) :
    (binOp .neq t (.slice a n c) (.slice none n' c')).run P w = .ok (.bool (!a.isNone)) w := by
  simp only [binOp]
  simp [Op.equal, Op.maxDepth, Lib.run_equalIn_slice_nil w 9999 t e a n c n' c' h]

/-- The copy of the nodes, half made. -/
structure CN (B E : Nat) (nds : List Nd) (k z : Nat) (G : Nat → Value) (wr : World) : Prop where
  row : wr.rowIs B E (nds.length * 3) G
  zero : ∀ i, z ≤ i → i < nds.length → G (i * 3 + 1) = .slice none 0 0
  refs : ∀ i, i < k → RefsW (B + 1) wr (G (i * 3)) (nod nds i).needs
  parts : ∀ i, i < k → PartsW (B + 1) wr (G (i * 3 + 1)) (nod nds i).parts
  lead : ∀ i, i < k → G (i * 3 + 2) = .bool (nod nds i).lead

theorem CN.below {B E : Nat} {nds : List Nd} {k z : Nat} {G : Nat → Value} {w w' : World} (h : CN B E nds k z G w) (hb : Below w.heap.size w w') : CN B E nds k z G w' :=
  ⟨h.row.of_block (hb.block _ h.row.lt), h.zero, fun i hi => (h.refs i hi).below hb, fun i hi => (h.parts i hi).below hb, h.lead⟩
theorem CN.set {B E : Nat} {nds : List Nd} {k z : Nat} {G : Nat → Value} {w : World} (h : CN B E nds k z G w) (j z' : Nat) (v : Value) (hj : k * 3 ≤ j) (hz : z ≤ z') (hj2 : ∀ i, z' ≤ i → j ≠ i * 3 + 1) : CN B E nds k z' (upd G j v) (w.setCell ⟨B, j, none⟩ v) := by
  refine ⟨h.row.set j v, fun i h1 h2 => ?_, fun i hi => ?_, fun i hi => ?_, fun i hi => ?_⟩
  · rw [upd_other _ _ _ (hj2 i h1).symm]; exact h.zero i (by omega) h2
  · rw [upd_other _ _ _ (by omega)]; exact (h.refs i hi).set (by simp) v
  · rw [upd_other _ _ _ (by omega)]; exact (h.parts i hi).set (by simp) v
  · rw [upd_other _ _ _ (by omega)]; exact h.lead i hi
theorem CN.next {B E : Nat} {nds : List Nd} {k z : Nat} {G : Nat → Value} {w : World} (h : CN B E nds k z G w) (hz : z ≤ k + 1) (h1 : RefsW (B + 1) w (G (k * 3)) (nod nds k).needs) (h2 : PartsW (B + 1) w (G (k * 3 + 1)) (nod nds k).parts) (h3 : G (k * 3 + 2) = .bool (nod nds k).lead) : CN B E nds (k + 1) (k + 1) G w := by
  refine ⟨h.row, fun i hi => h.zero i (by omega), fun i hi => ?_, fun i hi => ?_, fun i hi => ?_⟩
  · by_cases e : i = k
    · subst e; exact h1
    · exact h.refs i (by omega)
  · by_cases e : i = k
    · subst e; exact h2
    · exact h.parts i (by omega)
  · by_cases e : i = k
    · subst e; exact h3
    · exact h.lead i (by omega)
theorem CN.nodes {B E : Nat} {nds : List Nd} {z : Nat} {G : Nat → Value} {w : World} (h : CN B E nds nds.length z G w) : NodesAt w (some ⟨B, 0, none⟩) B 0 nds := by
  refine ⟨fun _ => rfl, fun _ => h.row.lt, fun i hi => ⟨G (i * 3), G (i * 3 + 1), ?_, (h.refs i hi).toV, ?_, (h.parts i hi).toV, ?_⟩⟩
  · rw [Nat.zero_add]; exact h.row.cell (by omega)
  · rw [Nat.zero_add]; exact h.row.cell (by omega)
  · rw [Nat.zero_add, h.row.cell (by omega), h.lead i hi]

def Sizes (nds : List Nd) : Prop := nds.length ≤ 65536 ∧ ∀ k, k < nds.length → (nod nds k).needs.length ≤ 65536 ∧ pl nds k ≤ 65536 ∧ ∀ i, i < pl nds k → ((nod nds k).parts.getD i []).length ≤ 65536
def NodesPost (w : World) (nds : List Nd) (e : Ending) (w' : World) : Prop := ∃ a b o c, e = .returned (.slice a nds.length c) ∧ NodesAt w' a b o nds ∧ Below w.heap.size w w'

set_option maxHeartbeats 2000000 in
theorem cloneNodes_any (nds : List Nd) (a : Option Addr) (b o c : Nat) (w : World) (hZ : Sizes nds) (h1 : NodesAt w a b o nds) :
    Calls Try.prog 17 #[.slice a nds.length c] w (NodesPost w nds) := by
  have HN := hid h1
  have HZ := hid hZ
  have hn := hZ.1
  clear hZ
  cases a with
  | none =>
    have h0 : nds.length = 0 := by
      rcases Nat.eq_zero_or_pos nds.length with q | q
      · exact q
      · cases h1.addr q
    obtain rfl : nds = [] := List.length_eq_zero_iff.1 h0
    clear h1 HN h0 hn HZ
    have hnil := fun W => Lib.run_eql_slice_nil (P := Try.prog) W 29 40 none 0 c 0 0 Try.underlying29
    go_enter Try.func17, Try.ntmps17
    go_wp2
    go_ret
    exact ⟨none, 0, 0, 0, rfl, ⟨fun h => by simp at h, fun h => by simp at h, fun i hi => by simp at hi⟩, Below.refl _ _⟩
  | some ad =>
    clear h1
    have hmk := run_make_wide (P := Try.prog) 29 40 _ 3 56 Try.underlying29 inf40 nds.length (by omega) (by omega)
    have hnil := fun W => Lib.run_eql_slice_nil (P := Try.prog) W 29 40 (some ad) nds.length c 0 0 Try.underlying29
    go_enter Try.func17, Try.ntmps17
    go_wp2_with fail
    go_loopw [4] (fun i wr => ∃ k : Nat, k ≤ nds.length ∧ i = .int .i64 k ∧ Below w.heap.size w wr ∧ ∃ G, CN w.heap.size 40 nds k k G wr) (fun i _ => nds.length - (intOf i).toNat)
    case atStart =>
      refine ⟨0, Nat.zero_le _, rfl, (Below.refl _ _).alloc (Nat.le_refl _) _, _, ⟨made_wide w #[.slice none 0 0, .slice none 0 0, .bool false] (nds.length * 3) 40, fun i _ _ => ?_, fun i hi => by omega, fun i hi => by omega, fun i hi => by omega⟩⟩
      have : (i * 3 + 1) % 3 = 1 := by omega
      simp [this]
    case round =>
      obtain ⟨k, hk, rfl, hb, G, hG⟩ := hrel
      have HB := hid hb
      have HG := hid hG
      have hsz : w.heap.size + 1 ≤ wr.heap.size := hG.row.lt
      clear hb hG
      by_cases hlt : k < nds.length
      · have ha := HN.out.addr (by omega)
        have e : ad = ⟨b, o, none⟩ := by simpa using ha
        subst e
        obtain ⟨z1, z2, z3⟩ := HZ.out.2 k hlt
        have Z3 := hid z3
        obtain ⟨u, v, n1, ⟨a1, b1, o1, c1, hu, hru⟩, n2, ⟨a2, b2, o2, c2, hv, hpv⟩, n3⟩ := HN.out.node k hlt
        subst hu hv
        have hbw := HN.out.lt (by omega)
        have HPV := hid hpv
        have N2 := hid n2
        have N3 := hid n3
        have m1 := below_cell HB.out n1
        have HRU := hid (hru.below HB.out)
        have i1 : (k : Int) < (nds.length : Int) := by omega
        have e1 : (nod nds k).parts.length = pl nds k := rfl
        clear n1 n2 n3 hru hpv z3
        rw [e1] at N2
        go_wp2_with fail
        refine (cloneRefs_any (nod nds k).needs a1 b1 o1 c1 wr z1 HRU.out).mono ?_
        rintro e w1 ⟨v1, rfl, hv1, hb1⟩
        obtain ⟨av, _, _, cv, hvv, _, _⟩ := id hv1
        subst hvv
        have HV1 := hid (hv1.mono hsz)
        have HB1 := hid hb1
        have HG1 := hid (HG.out.below hb1)
        have hs1 := hb1.size
        have d1 := HG1.out.row.cell (i := k * 3) (by omega)
        have f1 := HG1.out.row.frozen (k * 3)
        clear hv1 hb1
        have HG2 := hid (HG1.out.set (k * 3) k (.slice av (nod nds k).needs.length cv) (Nat.le_refl _) (Nat.le_refl _) (fun i _ => by omega))
        have HV2 := hid (HV1.out.set (q := ⟨w.heap.size, k * 3, none⟩) (by simp) (.slice av (nod nds k).needs.length cv))
        have BB := hid (show Below w.heap.size w (w1.setCell ⟨w.heap.size, k * 3, none⟩ (.slice av (nod nds k).needs.length cv)) from (HB.out.trans (HB1.out.mono (by omega))).setCell (Nat.le_refl _) (.slice av (nod nds k).needs.length cv))
        have g1 : upd G (k * 3) (.slice av (nod nds k).needs.length cv) (k * 3 + 1) = .slice none 0 0 := by rw [upd_other _ _ _ (by omega)]; exact HG.out.zero k (Nat.le_refl _) hlt
        have g0 : upd G (k * 3) (.slice av (nod nds k).needs.length cv) (k * 3) = (.slice av (nod nds k).needs.length cv) := upd_same _ _ _
        generalize upd G (k * 3) (.slice av (nod nds k).needs.length cv) = G1 at *
        have hs2 : (w1.setCell ⟨w.heap.size, k * 3, none⟩ (.slice av (nod nds k).needs.length cv)).heap.size = w1.heap.size := by simp
        have hneq := fun W => run_neq_nil (P := Try.prog) W 38 37 a2 (pl nds k) c2 0 0 Try.underlying38
        have Q0 := hid g0
        have Q1 := hid g1
        clear g0 g1
        cases a2 with
        | none =>
          have hp0 : (nod nds k).parts = [] := by
            rcases Nat.eq_zero_or_pos (nod nds k).parts.length with q | q
            · exact List.length_eq_zero_iff.1 q
            · cases HPV.out.addr q
          have HP0 := hid hp0
          have e2 : pl nds k = 0 := by show (nod nds k).parts.length = 0; rw [hp0]; rfl
          rw [e2] at N2 hneq
          have m2 := below_cell BB.out N2.out
          have m3 := below_cell BB.out N3.out
          have d3 := HG2.out.row.cell (i := k * 3 + 2) (by omega)
          have f3 := HG2.out.row.frozen (k * 3 + 2)
          have HG3 := hid (HG2.out.set (k * 3 + 2) k (.bool (nod nds k).lead) (by omega) (Nat.le_refl _) (fun i _ => by omega))
          have HG4 := hid (HG3.out.next (by omega) (by rw [upd_other _ _ _ (by omega), Q0.out]; exact HV2.out.set (by simp) _) (by rw [upd_other _ _ _ (by omega), Q1.out, HP0.out]; exact PartsW.nil _ _) (upd_same _ _ _))
          have BB4 := hid (BB.out.setCell (p := ⟨w.heap.size, k * 3 + 2, none⟩) (Nat.le_refl _) (.bool (nod nds k).lead))
          clear hp0 e1 e2 m1 HG3
          generalize (nod nds k).lead = ld at *
          go_wp2_with fail
          go_roundw
          case rel => exact ⟨k + 1, by omega, by go_num, BB4.out, _, HG4.out⟩
          case measure => simp [intOf]; omega
        | some ad2 =>
          have m2 := below_cell BB.out N2.out
          have hmp := run_make_row' (P := Try.prog) 38 37 _ 24 Try.underlying38 inf37 rfl .i64 .i64 (pl nds k) (by omega) (by omega)
          have d1x := d1
          go_wp2_with fail
          clear m1 m2 d1 f1 d1x
          generalize hW2 : w1.setCell ⟨w.heap.size, k * 3, none⟩ (.slice av (nod nds k).needs.length cv) = w2 at *
          generalize hbp : w1.heap.size = bp at *
          have hsz2 : w.heap.size + 1 ≤ bp := by omega
          have HS2 := hid hs2
          have RM := hid (World.rowIs_made w2 (.slice none 0 0) (pl nds k) 37)
          rw [hs2] at RM
          clear hW2 hs2 hmp hneq hbp
          go_loopw [6] (fun i wr => ∃ j : Nat, j ≤ pl nds k ∧ i = .int .i64 j ∧ Below bp w2 wr ∧ ∃ H, wr.rowIs bp 37 (pl nds k) H ∧ ∀ i, i < j → RefsW (bp + 1) wr (H i) ((nod nds k).parts.getD i [])) (fun i _ => pl nds k - (intOf i).toNat)
          case atStart => exact ⟨0, Nat.zero_le _, rfl, (Below.refl _ _).alloc (by rw [HS2.out]; exact Nat.le_refl _) _, _, RM.out, fun i hi => by omega⟩
          case round =>
            obtain ⟨j, hj, rfl, hb2, H, hH, hHr⟩ := hrel
            have HB2 := hid hb2
            have HH := hid hH
            have HHR := hid hHr
            have hszr : bp + 1 ≤ wr.heap.size := hH.lt
            have BBj := hid (BB.out.trans (hb2.mono (by omega)))
            clear hb2 hH hHr
            by_cases hlj : j < pl nds k
            · have ha2 := HPV.out.addr (by have : j < (nod nds k).parts.length := hlj; omega)
              have e3 : ad2 = ⟨b2, o2, none⟩ := by simpa using ha2
              subst e3
              obtain ⟨vp, q1, ⟨a6, b6, o6, c6, hvp, hrp⟩⟩ := HPV.out.cell j hlj
              subst hvp
              have m1 := below_cell BBj.out N2.out
              have m2 := below_cell BBj.out q1
              have HRP := hid (hrp.below BBj.out)
              have hpl := Z3.out j hlj
              have HX := hid (show (nod nds k).parts.getD j [] = (nod nds k).parts.getD j [] from rfl)
              generalize hps : (nod nds k).parts.getD j [] = ps at m2 HRP hpl
              have HPS := hid hps
              clear hps hrp q1 HX
              have i2 : (j : Int) < (pl nds k : Int) := by omega
              go_wp2_with fail
              refine (cloneRefs_any ps a6 b6 o6 c6 wr hpl HRP.out).mono ?_
              rintro e w5 ⟨v5, rfl, hv5, hb5⟩
              obtain ⟨av5, _, _, cv5, hvv, _, _⟩ := id hv5
              subst hvv
              have HV5 := hid (hv5.mono hszr)
              have hs5 := hb5.size
              have HH5 := hid (HH.out.of_block (hb5.block _ HH.out.lt))
              have HR5 := hid (fun i (hi : i < j) => (HHR.out i hi).below hb5)
              have d5 := HH5.out.cell hlj
              have f5 := HH5.out.frozen j
              have HB5 := hid ((HB2.out.trans (hb5.mono (by omega))).setCell (p := ⟨bp, j, none⟩) (Nat.le_refl _) (.slice av5 ps.length cv5))
              clear hv5 hb5 m1 m2
              go_wp2_with fail
              go_roundw
              case rel =>
                refine ⟨j + 1, by omega, by go_num, HB5.out, upd H j (.slice av5 ps.length cv5), HH5.out.set j _, fun i hi => ?_⟩
                by_cases e : i = j
                · subst e
                  rw [upd_same, HPS.out]
                  exact HV5.out.set (by simp) _
                · rw [upd_other _ _ _ e]
                  exact (HR5.out i (by omega)).set (by simp) _
              case measure => simp [intOf]; omega
            · have ej : j = pl nds k := by omega
              subst ej
              have HPW := hid (show PartsW (w.heap.size + 1) wr (.slice (some ⟨bp, 0, none⟩) (pl nds k) (pl nds k)) (nod nds k).parts from ⟨_, bp, _, H, rfl, fun _ => rfl, fun _ => ⟨hsz2, HH.out.lt⟩, fun i hi => ⟨HH.out.cell hi, (HHR.out i hi).mono (by omega)⟩⟩)
              have HC := hid (HG2.out.below (by rw [HS2.out]; exact HB2.out))
              have HV3 := hid (HV2.out.below (by rw [HS2.out]; exact HB2.out))
              have m3 := below_cell BBj.out N3.out
              have d2 := HC.out.row.cell (i := k * 3 + 1) (by omega)
              have f2 := HC.out.row.frozen (k * 3 + 1)
              have HC2 := hid (HC.out.set (k * 3 + 1) (k + 1) (.slice (some ⟨bp, 0, none⟩) (pl nds k) (pl nds k)) (by omega) (by omega) (fun i _ => by omega))
              have BC2 := hid (BBj.out.setCell (p := ⟨w.heap.size, k * 3 + 1, none⟩) (Nat.le_refl _) (.slice (some ⟨bp, 0, none⟩) (pl nds k) (pl nds k)))
              have m4 := below_cell BC2.out N3.out
              have d3 := HC2.out.row.cell (i := k * 3 + 2) (by omega)
              have f3 := HC2.out.row.frozen (k * 3 + 2)
              have HC3 := hid (HC2.out.set (k * 3 + 2) (k + 1) (.bool (nod nds k).lead) (by omega) (by omega) (fun i _ => by omega))
              have HC4 := hid (HC3.out.next (by omega) (by rw [upd_other _ _ _ (by omega), upd_other _ _ _ (by omega), Q0.out]; exact (HV3.out.set (by simp) _).set (by simp) _) (by rw [upd_other _ _ _ (by omega), upd_same]; exact (HPW.out.set (by simp) _).set (by simp) _) (upd_same _ _ _))
              have BC4 := hid (BC2.out.setCell (p := ⟨w.heap.size, k * 3 + 2, none⟩) (Nat.le_refl _) (.bool (nod nds k).lead))
              clear HC3 m3
              generalize (nod nds k).lead = ld at *
              go_wp2_with fail
              go_roundw
              case rel => exact ⟨k + 1, by omega, by go_num, BC4.out, _, HC4.out⟩
              case measure => simp [intOf]; omega
      · have ek : k = nds.length := by omega
        subst ek
        go_wp2_with fail
        go_ret
        exact ⟨_, _, _, _, rfl, HG.out.nodes, HB.out⟩

set_option maxHeartbeats 2000000 in
theorem toGraph_any (nds : List Nd) (a : Option Addr) (b o c : Nat) (w : World) (hZ : Sizes nds) (h1 : NodesAt w a b o nds) :
    Calls Try.prog 19 #[.slice a nds.length c] w (NodesPost w nds) := by
  have HN := hid h1
  have HZ := hid hZ
  have hn := hZ.1
  clear hZ
  cases a with
  | none =>
    have h0 : nds.length = 0 := by
      rcases Nat.eq_zero_or_pos nds.length with q | q
      · exact q
      · cases h1.addr q
    obtain rfl : nds = [] := List.length_eq_zero_iff.1 h0
    clear h1 HN h0 hn HZ
    have hnil := fun W => Lib.run_eql_slice_nil (P := Try.prog) W 29 40 none 0 c 0 0 Try.underlying29
    go_enter Try.func19, Try.ntmps19
    go_wp2
    go_ret
    exact ⟨none, 0, 0, 0, rfl, ⟨fun h => by simp at h, fun h => by simp at h, fun i hi => by simp at hi⟩, Below.refl _ _⟩
  | some ad =>
    clear h1
    have hmk := run_make_wide (P := Try.prog) 34 45 _ 3 56 Try.underlying34 inf45 nds.length (by omega) (by omega)
    have hnil := fun W => Lib.run_eql_slice_nil (P := Try.prog) W 29 40 (some ad) nds.length c 0 0 Try.underlying29
    go_enter Try.func19, Try.ntmps19
    go_wp2_with fail
    go_loopw [4] (fun i wr => ∃ k : Nat, k ≤ nds.length ∧ i = .int .i64 k ∧ Below w.heap.size w wr ∧ ∃ G, CN w.heap.size 45 nds k k G wr) (fun i _ => nds.length - (intOf i).toNat)
    case atStart =>
      refine ⟨0, Nat.zero_le _, rfl, (Below.refl _ _).alloc (Nat.le_refl _) _, _, ⟨made_wide w #[.slice none 0 0, .slice none 0 0, .bool false] (nds.length * 3) 45, fun i _ _ => ?_, fun i hi => by omega, fun i hi => by omega, fun i hi => by omega⟩⟩
      have : (i * 3 + 1) % 3 = 1 := by omega
      simp [this]
    case round =>
      obtain ⟨k, hk, rfl, hb, G, hG⟩ := hrel
      have HB := hid hb
      have HG := hid hG
      have hsz : w.heap.size + 1 ≤ wr.heap.size := hG.row.lt
      clear hb hG
      by_cases hlt : k < nds.length
      · have ha := HN.out.addr (by omega)
        have e : ad = ⟨b, o, none⟩ := by simpa using ha
        subst e
        obtain ⟨z1, z2, z3⟩ := HZ.out.2 k hlt
        have Z3 := hid z3
        obtain ⟨u, v, n1, ⟨a1, b1, o1, c1, hu, hru⟩, n2, ⟨a2, b2, o2, c2, hv, hpv⟩, n3⟩ := HN.out.node k hlt
        subst hu hv
        have hbw := HN.out.lt (by omega)
        have HPV := hid hpv
        have N2 := hid n2
        have N3 := hid n3
        have m1 := below_cell HB.out n1
        have HRU := hid (hru.below HB.out)
        have i1 : (k : Int) < (nds.length : Int) := by omega
        have e1 : (nod nds k).parts.length = pl nds k := rfl
        clear n1 n2 n3 hru hpv z3
        rw [e1] at N2
        go_wp2_with fail
        refine (toRefs_any (nod nds k).needs a1 b1 o1 c1 wr z1 HRU.out).mono ?_
        rintro e w1 ⟨v1, rfl, hv1, hb1⟩
        obtain ⟨av, _, _, cv, hvv, _, _⟩ := id hv1
        subst hvv
        have HV1 := hid (hv1.mono hsz)
        have HB1 := hid hb1
        have HG1 := hid (HG.out.below hb1)
        have hs1 := hb1.size
        have d1 := HG1.out.row.cell (i := k * 3) (by omega)
        have f1 := HG1.out.row.frozen (k * 3)
        clear hv1 hb1
        have HG2 := hid (HG1.out.set (k * 3) k (.slice av (nod nds k).needs.length cv) (Nat.le_refl _) (Nat.le_refl _) (fun i _ => by omega))
        have HV2 := hid (HV1.out.set (q := ⟨w.heap.size, k * 3, none⟩) (by simp) (.slice av (nod nds k).needs.length cv))
        have BB := hid (show Below w.heap.size w (w1.setCell ⟨w.heap.size, k * 3, none⟩ (.slice av (nod nds k).needs.length cv)) from (HB.out.trans (HB1.out.mono (by omega))).setCell (Nat.le_refl _) (.slice av (nod nds k).needs.length cv))
        have g1 : upd G (k * 3) (.slice av (nod nds k).needs.length cv) (k * 3 + 1) = .slice none 0 0 := by rw [upd_other _ _ _ (by omega)]; exact HG.out.zero k (Nat.le_refl _) hlt
        have g0 : upd G (k * 3) (.slice av (nod nds k).needs.length cv) (k * 3) = (.slice av (nod nds k).needs.length cv) := upd_same _ _ _
        generalize upd G (k * 3) (.slice av (nod nds k).needs.length cv) = G1 at *
        have hs2 : (w1.setCell ⟨w.heap.size, k * 3, none⟩ (.slice av (nod nds k).needs.length cv)).heap.size = w1.heap.size := by simp
        have hneq := fun W => run_neq_nil (P := Try.prog) W 38 37 a2 (pl nds k) c2 0 0 Try.underlying38
        have Q0 := hid g0
        have Q1 := hid g1
        clear g0 g1
        cases a2 with
        | none =>
          have hp0 : (nod nds k).parts = [] := by
            rcases Nat.eq_zero_or_pos (nod nds k).parts.length with q | q
            · exact List.length_eq_zero_iff.1 q
            · cases HPV.out.addr q
          have HP0 := hid hp0
          have e2 : pl nds k = 0 := by show (nod nds k).parts.length = 0; rw [hp0]; rfl
          rw [e2] at N2 hneq
          have m2 := below_cell BB.out N2.out
          have m3 := below_cell BB.out N3.out
          have d3 := HG2.out.row.cell (i := k * 3 + 2) (by omega)
          have f3 := HG2.out.row.frozen (k * 3 + 2)
          have HG3 := hid (HG2.out.set (k * 3 + 2) k (.bool (nod nds k).lead) (by omega) (Nat.le_refl _) (fun i _ => by omega))
          have HG4 := hid (HG3.out.next (by omega) (by rw [upd_other _ _ _ (by omega), Q0.out]; exact HV2.out.set (by simp) _) (by rw [upd_other _ _ _ (by omega), Q1.out, HP0.out]; exact PartsW.nil _ _) (upd_same _ _ _))
          have BB4 := hid (BB.out.setCell (p := ⟨w.heap.size, k * 3 + 2, none⟩) (Nat.le_refl _) (.bool (nod nds k).lead))
          clear hp0 e1 e2 m1 HG3
          generalize (nod nds k).lead = ld at *
          go_wp2_with fail
          go_roundw
          case rel => exact ⟨k + 1, by omega, by go_num, BB4.out, _, HG4.out⟩
          case measure => simp [intOf]; omega
        | some ad2 =>
          have m2 := below_cell BB.out N2.out
          have hmp := run_make_row' (P := Try.prog) 43 41 _ 24 Try.underlying43 inf41 rfl .i64 .i64 (pl nds k) (by omega) (by omega)
          have d1x := d1
          go_wp2_with fail
          clear m1 m2 d1 f1 d1x
          generalize hW2 : w1.setCell ⟨w.heap.size, k * 3, none⟩ (.slice av (nod nds k).needs.length cv) = w2 at *
          generalize hbp : w1.heap.size = bp at *
          have hsz2 : w.heap.size + 1 ≤ bp := by omega
          have HS2 := hid hs2
          have RM := hid (World.rowIs_made w2 (.slice none 0 0) (pl nds k) 41)
          rw [hs2] at RM
          clear hW2 hs2 hmp hneq hbp
          go_loopw [6] (fun i wr => ∃ j : Nat, j ≤ pl nds k ∧ i = .int .i64 j ∧ Below bp w2 wr ∧ ∃ H, wr.rowIs bp 41 (pl nds k) H ∧ ∀ i, i < j → RefsW (bp + 1) wr (H i) ((nod nds k).parts.getD i [])) (fun i _ => pl nds k - (intOf i).toNat)
          case atStart => exact ⟨0, Nat.zero_le _, rfl, (Below.refl _ _).alloc (by rw [HS2.out]; exact Nat.le_refl _) _, _, RM.out, fun i hi => by omega⟩
          case round =>
            obtain ⟨j, hj, rfl, hb2, H, hH, hHr⟩ := hrel
            have HB2 := hid hb2
            have HH := hid hH
            have HHR := hid hHr
            have hszr : bp + 1 ≤ wr.heap.size := hH.lt
            have BBj := hid (BB.out.trans (hb2.mono (by omega)))
            clear hb2 hH hHr
            by_cases hlj : j < pl nds k
            · have ha2 := HPV.out.addr (by have : j < (nod nds k).parts.length := hlj; omega)
              have e3 : ad2 = ⟨b2, o2, none⟩ := by simpa using ha2
              subst e3
              obtain ⟨vp, q1, ⟨a6, b6, o6, c6, hvp, hrp⟩⟩ := HPV.out.cell j hlj
              subst hvp
              have m1 := below_cell BBj.out N2.out
              have m2 := below_cell BBj.out q1
              have HRP := hid (hrp.below BBj.out)
              have hpl := Z3.out j hlj
              have HX := hid (show (nod nds k).parts.getD j [] = (nod nds k).parts.getD j [] from rfl)
              generalize hps : (nod nds k).parts.getD j [] = ps at m2 HRP hpl
              have HPS := hid hps
              clear hps hrp q1 HX
              have i2 : (j : Int) < (pl nds k : Int) := by omega
              go_wp2_with fail
              refine (toRefs_any ps a6 b6 o6 c6 wr hpl HRP.out).mono ?_
              rintro e w5 ⟨v5, rfl, hv5, hb5⟩
              obtain ⟨av5, _, _, cv5, hvv, _, _⟩ := id hv5
              subst hvv
              have HV5 := hid (hv5.mono hszr)
              have hs5 := hb5.size
              have HH5 := hid (HH.out.of_block (hb5.block _ HH.out.lt))
              have HR5 := hid (fun i (hi : i < j) => (HHR.out i hi).below hb5)
              have d5 := HH5.out.cell hlj
              have f5 := HH5.out.frozen j
              have HB5 := hid ((HB2.out.trans (hb5.mono (by omega))).setCell (p := ⟨bp, j, none⟩) (Nat.le_refl _) (.slice av5 ps.length cv5))
              clear hv5 hb5 m1 m2
              go_wp2_with fail
              go_roundw
              case rel =>
                refine ⟨j + 1, by omega, by go_num, HB5.out, upd H j (.slice av5 ps.length cv5), HH5.out.set j _, fun i hi => ?_⟩
                by_cases e : i = j
                · subst e
                  rw [upd_same, HPS.out]
                  exact HV5.out.set (by simp) _
                · rw [upd_other _ _ _ e]
                  exact (HR5.out i (by omega)).set (by simp) _
              case measure => simp [intOf]; omega
            · have ej : j = pl nds k := by omega
              subst ej
              have HPW := hid (show PartsW (w.heap.size + 1) wr (.slice (some ⟨bp, 0, none⟩) (pl nds k) (pl nds k)) (nod nds k).parts from ⟨_, bp, _, H, rfl, fun _ => rfl, fun _ => ⟨hsz2, HH.out.lt⟩, fun i hi => ⟨HH.out.cell hi, (HHR.out i hi).mono (by omega)⟩⟩)
              have HC := hid (HG2.out.below (by rw [HS2.out]; exact HB2.out))
              have HV3 := hid (HV2.out.below (by rw [HS2.out]; exact HB2.out))
              have m3 := below_cell BBj.out N3.out
              have d2 := HC.out.row.cell (i := k * 3 + 1) (by omega)
              have f2 := HC.out.row.frozen (k * 3 + 1)
              have HC2 := hid (HC.out.set (k * 3 + 1) (k + 1) (.slice (some ⟨bp, 0, none⟩) (pl nds k) (pl nds k)) (by omega) (by omega) (fun i _ => by omega))
              have BC2 := hid (BBj.out.setCell (p := ⟨w.heap.size, k * 3 + 1, none⟩) (Nat.le_refl _) (.slice (some ⟨bp, 0, none⟩) (pl nds k) (pl nds k)))
              have m4 := below_cell BC2.out N3.out
              have d3 := HC2.out.row.cell (i := k * 3 + 2) (by omega)
              have f3 := HC2.out.row.frozen (k * 3 + 2)
              have HC3 := hid (HC2.out.set (k * 3 + 2) (k + 1) (.bool (nod nds k).lead) (by omega) (by omega) (fun i _ => by omega))
              have HC4 := hid (HC3.out.next (by omega) (by rw [upd_other _ _ _ (by omega), upd_other _ _ _ (by omega), Q0.out]; exact (HV3.out.set (by simp) _).set (by simp) _) (by rw [upd_other _ _ _ (by omega), upd_same]; exact (HPW.out.set (by simp) _).set (by simp) _) (upd_same _ _ _))
              have BC4 := hid (BC2.out.setCell (p := ⟨w.heap.size, k * 3 + 2, none⟩) (Nat.le_refl _) (.bool (nod nds k).lead))
              clear HC3 m3
              generalize (nod nds k).lead = ld at *
              go_wp2_with fail
              go_roundw
              case rel => exact ⟨k + 1, by omega, by go_num, BC4.out, _, HC4.out⟩
              case measure => simp [intOf]; omega
      · have ek : k = nds.length := by omega
        subst ek
        go_wp2_with fail
        go_ret
        exact ⟨_, _, _, _, rfl, HG.out.nodes, HB.out⟩
end Go.Proofs.Qxb6602369a
