/-
  SEAT b6602369a. newSorter.
-/
import Derived.Test.Qxb6602369aPhase
import Derived.Test.Qxb6602369aPhaseE
namespace Go.Proofs.Qxb6602369a
open Go.RowKit

theorem cell_off {w : World} {b i j : Nat} {v : Value} (h : w.cell? ⟨b, i, none⟩ = some v) (hne : i ≠ j) (u : Value) : (w.setCell ⟨b, j, none⟩ u).cell? ⟨b, i, none⟩ = some v := by
  exact (World.cell?_setCell_other (w := w) (a := ⟨b, j, none⟩) (b := ⟨b, i, none⟩) (v := u) (by simp <;> omega)).trans h
theorem blk_new (w : World) (o : Obj) : (w.alloc o).heap[w.heap.size]? = some o := by
  show (w.heap.push o)[w.heap.size]? = some o
  simp
theorem cell_new (w : World) (c : Array Value) (t : TypeId) (j : Nat) (v : Value) (h : c[j]? = some v) : (w.alloc (.cells c t)).cell? ⟨w.heap.size, j, none⟩ = some v := by
  have hr := World.rowIs_alloc w c t (fun i => (c[i]?).getD undef) (fun i hi => by simp [hi])
  have hj : j < c.size := (Array.getElem?_eq_some_iff.1 h).1
  rw [hr.cell hj, h]
  rfl
theorem cells_two_new (w : World) (x y : Value) (t : TypeId) : ∀ j u, [x, y][j]? = some u → (w.alloc (.cells #[x, y] t)).cell? ((⟨w.heap.size, 0, none⟩ : Addr).add j) = some u := by
  intro j u h
  have hr := World.rowIs_alloc w #[x, y] t (fun i => if i = 0 then x else y) (fun i hi => by
    rcases (show i = 0 ∨ i = 1 by simp at hi; omega) with rfl | rfl <;> rfl)
  rcases (show j = 0 ∨ j = 1 ∨ 2 ≤ j by omega) with rfl | rfl | h2
  · have := hr.cell (i := 0) (by simp)
    simp at h
    subst h
    exact this
  · have := hr.cell (i := 1) (by simp)
    simp at h
    subst h
    exact this
  · rw [List.getElem?_eq_none (by simpa using h2)] at h; cases h

theorem info49 : (Try.prog.info? 49).map (fun i => (i.zero, i.size, i.bytes)) = some (some (.agg #[.int .i64 0, .int .i64 0]), 2, 16) := by kernel_rfl
theorem info28 : (Try.prog.info? 28).map (fun i => (i.zero, i.size, i.bytes)) = some (some (.slice none 0 0), 1, 24) := by kernel_rfl
theorem info4 : (Try.prog.info? 4).map (fun i => (i.zero, i.size, i.bytes)) = some (some (.bool false), 1, 1) := by kernel_rfl

theorem fst_succ (nds : List Nd) (k : Nat) : upd (fst nds k) k (first nds k) = fst nds (k + 1) := by
  funext j
  by_cases e : j = k
  · subst e; rw [upd_same]; simp [fst]
  · rw [upd_other _ _ _ e]
    by_cases h : j < k
    · simp [fst, h, Nat.lt_succ_of_lt h]
    · have : ¬ j < k + 1 := by omega
      simp [fst, h, this]
def refsPart (nds : List Nd) (k p : Nat) : List (Nat × Nat) := refs nds k ++ (List.range p).map (fun q => (k, q))
theorem refsPart_succ (nds : List Nd) (k p : Nat) : refsPart nds k (p + 1) = refsPart nds k p ++ [(k, p)] := by simp [refsPart, List.range_succ]
theorem refsPart_length (nds : List Nd) (k p : Nat) : (refsPart nds k p).length = first nds k + p := by simp [refsPart, refs_length]
theorem le_first (nds : List Nd) : ∀ k, k ≤ first nds k
  | 0 => Nat.le_refl _
  | k + 1 => by have := le_first nds k; simp only [first]; omega

def SorterPost (nds : List Nd) (w : World) (e : Ending) (w' : World) : Prop := ∃ bN S ra rc U V, e = .returned (.pointer (some ⟨w.heap.size + 1, 0, none⟩)) ∧ Out nds w w' bN (first nds nds.length) S ra rc U V
def cut (f : Nat → Nat) (k : Nat) : Nat → Nat := fun j => if j < k then f j else 0
theorem cut_succ (f : Nat → Nat) (k : Nat) : upd (cut f k) k (f k) = cut f (k + 1) := by
  funext j
  by_cases e : j = k
  · subst e; rw [upd_same]; simp [cut]
  · rw [upd_other _ _ _ e]
    by_cases h : j < k
    · simp [cut, h, Nat.lt_succ_of_lt h]
    · have : ¬ j < k + 1 := by omega
      simp [cut, h, this]

set_option maxRecDepth 100000 in
set_option maxHeartbeats 4000000 in
theorem newSorter_any (nds : List Nd) (a : Option Addr) (b o c : Nat) (w : World) (hN : NodesAt w a b o nds) (hT : first nds nds.length ≤ 65536) (hC : cost nds nds.length ≤ 65536) (hNm : Named nds) :
    Calls Try.prog 39 #[.slice a nds.length c] w (SorterPost nds w) := by
  have HN := hid hN
  have hn : nds.length ≤ 65536 := Nat.le_trans (le_first nds _) hT
  have hmk := run_make_row' (P := Try.prog) 28 3 _ 8 Try.underlying28 info3 rfl .i64 .i64 nds.length (by omega) (by omega)
  obtain ⟨i49, hi49, hz490, hz491, hz492⟩ := info_parts info49
  have HNM := hid hNm
  clear hN hNm
  go_enter Try.func39, Try.ntmps39
  go_wp2_with fail
  go_loopw [31] (fun i wr => ∃ k : Nat, k ≤ nds.length ∧ i = .int .i64 k ∧ ∃ rv, PhB w wr nds.length rv (refs nds k) (fst nds k)) (fun i _ => nds.length - (intOf i).toNat)
  case atStart => exact ⟨0, Nat.zero_le _, rfl, _, PhB.start w nds.length⟩
  case round =>
    obtain ⟨k, hk, rfl, rv, hB⟩ := hrel
    have HB := hid hB
    clear hB
    by_cases hlt : k < nds.length
    · have hfk := first_lt nds hlt (Nat.le_refl _)
      have ha := HN.out.addr (by omega)
      subst ha
      obtain ⟨u, v, n1, ⟨a1, b1, o1, c1, hu, _⟩, n2, ⟨a2, b2, o2, c2, hv, _⟩, n3⟩ := (HN.out.below HB.out.below).node k hlt
      subst hu hv
      obtain ⟨ra, rc, hrv⟩ := HB.out.form
      subst hrv
      have i1 : (k : Int) < (nds.length : Int) := by omega
      have e1 : (nod nds k).parts.length = pl nds k := rfl
      rw [refs_length] at HB
      have HB1 := hid (HB.out.alloc (.cells #[.slice a1 (nod nds k).needs.length c1, .slice a2 (pl nds k) c2, .bool (nod nds k).lead] 45))
      have d1 := HB1.out.var.cell (i := 0) (by omega)
      have d2 := HB1.out.str.cell (i := 0) (by omega)
      have d3 := HB1.out.str.cell (i := 1) (by omega)
      have d4 := HB1.out.fst.cell hlt
      have f4 := HB1.out.fst.frozen k
      simp only [strS, if_true, Nat.one_ne_zero, if_false] at d2 d3
      rw [e1] at n2
      have hsz := HB1.out.sz
      go_wp2_with fail
      go_region_held3 (fun W => W.cell? ⟨w.heap.size + 2, 0, none⟩ = some (.pointer (some ⟨w.heap.size + 1, 0, none⟩)) ∧ W.cell? ⟨w.heap.size + 1, 0, none⟩ = some (.slice (some ⟨w.heap.size, 0, none⟩) nds.length nds.length) ∧ W.cell? ⟨w.heap.size + 1, 1, none⟩ = some (.slice ra (first nds k) rc))
        (first | exact ⟨d1, d2, d3⟩ | (refine ⟨cell_set d1 ?_ _, cell_set d2 ?_ _, cell_set d3 ?_ _⟩ <;> simp)) (first | fail)
      have HB2 := hid ((HB1.out.setF k (first nds k)).drew)
      rw [fst_succ] at HB2
      have m1 : (((wr.alloc (.cells #[.slice a1 (nod nds k).needs.length c1, .slice a2 (pl nds k) c2, .bool (nod nds k).lead] 45)).setCell ⟨w.heap.size, k, none⟩ (.int .i64 ((first nds k : Nat) : Int))).drew).cell? ⟨wr.heap.size, 1, none⟩ = some (.slice a2 (pl nds k) c2) := by
        have hsz := HB.out.sz
        refine cell_set ?_ (by simp; omega) _
        exact cell_new _ _ _ _ _ rfl
      generalize ((wr.alloc (.cells #[.slice a1 (nod nds k).needs.length c1, .slice a2 (pl nds k) c2, .bool (nod nds k).lead] 45)).setCell ⟨w.heap.size, k, none⟩ (.int .i64 ((first nds k : Nat) : Int))).drew = w5 at *
      have k1 : IntKind.i64.wrap ((pl nds k : Int) + 1) = ((pl nds k + 1 : Nat) : Int) := by rw [IntKind.wrap_i64]; omega
      clear d1 d2 d3 d4 f4 n1 n2 n3 HB1 hsz e1 HB
      go_wp2_with fail
      go_loopw [51] (fun i wr => ∃ p : Nat, p ≤ pl nds k + 1 ∧ i = .int .i64 p ∧ ∃ rv, PhB w wr nds.length rv (refsPart nds k p) (fst nds (k + 1))) (fun i _ => pl nds k + 1 - (intOf i).toNat)
      case atStart => exact ⟨0, Nat.zero_le _, rfl, _, by simpa [refsPart] using HB2.out⟩
      case round =>
        obtain ⟨p, hp, rfl, rv, hB⟩ := hrel
        have HB := hid hB
        clear hB HB2
        by_cases hlp : p < pl nds k + 1
        · obtain ⟨ra', rc', hrv⟩ := HB.out.form
          rw [refsPart_length] at hrv
          subst hrv
          have d1 := HB.out.var.cell (i := 0) (by omega)
          have d3 := HB.out.str.cell (i := 1) (by omega)
          have f3 := HB.out.str.frozen 1
          simp only [strS, if_true, Nat.one_ne_zero, if_false] at d3
          have hsz := HB.out.sz
          have OWN := hid HB.out.ref
          rw [refsPart_length] at OWN
          have t2 : (p : Int) < ((pl nds k + 1 : Nat) : Int) := by omega
          clear k1 m1
          go_wp2_with fail
          refine wp_region_held_drew (S := (fun W => W.cell? ⟨w.heap.size + 2, 0, none⟩ = some (.pointer (some ⟨w.heap.size + 1, 0, none⟩)))) (by kernel_rfl) d1 (fun hHeld => ?_)
          refine wpAnyH_take (i := 0) (oi := ?oi0r) (v := ?v0r) ?hi0r ?hn0r ?hf0r ?hr0r ?hq0r ?hy0r (by assumption) ?rest0r
          case hi0r => (simp only [List.getElem?_toArray, List.getElem?_cons_zero]; rfl)
          case hn0r => kernel_rfl
          case hf0r => kernel_rfl
          case hr0r => kernel_rfl
          case hq0r => exact fun _ _ _ h => h
          case hy0r => (refine Or.inl ⟨by rfl, ?_⟩; intro w hSw; go_simp; try with_reducible rfl)
          try simp only [Act.put, List.setIfInBounds_toArray, List.set_cons_zero, List.set_cons_succ]
          refine wpAnyH_take (i := 1) (oi := ?oi1r) (v := ?v1r) ?hi1r ?hn1r ?hf1r ?hr1r ?hq1r ?hy1r (by assumption) ?rest1r
          case hi1r => (simp only [List.getElem?_toArray, List.getElem?_cons_zero, List.getElem?_cons_succ]; rfl)
          case hn1r => kernel_rfl
          case hf1r => kernel_rfl
          case hr1r => kernel_rfl
          case hq1r => exact fun _ _ _ h => h
          case hy1r => (refine Or.inl ⟨by rfl, ?_⟩; intro w hSw; go_simp; try with_reducible rfl)
          try simp only [Act.put, List.setIfInBounds_toArray, List.set_cons_zero, List.set_cons_succ]
          refine wpAnyH_take (i := 2) (oi := ?oi2r) (v := ?v2r) ?hi2r ?hn2r ?hf2r ?hr2r ?hq2r ?hy2r (by assumption) ?rest2r
          case hi2r => (simp only [List.getElem?_toArray, List.getElem?_cons_zero, List.getElem?_cons_succ]; rfl)
          case hn2r => kernel_rfl
          case hf2r => kernel_rfl
          case hr2r => kernel_rfl
          case hq2r => exact fun _ _ _ h => h
          case hy2r => (refine Or.inl ⟨by rfl, ?_⟩; intro w hSw; go_simp; try with_reducible rfl)
          try simp only [Act.put, List.setIfInBounds_toArray, List.set_cons_zero, List.set_cons_succ]
          refine wpAnyH_take (i := 3) (oi := ?oi3r) (v := ?v3r) ?hi3r ?hn3r ?hf3r ?hr3r ?hq3r ?hy3r (by assumption) ?rest3r
          case hi3r => (simp only [List.getElem?_toArray, List.getElem?_cons_zero, List.getElem?_cons_succ]; rfl)
          case hn3r => kernel_rfl
          case hf3r => kernel_rfl
          case hr3r => kernel_rfl
          case hq3r => exact fun _ _ _ h => h
          case hy3r => (refine Or.inl ⟨by rfl, ?_⟩; intro w hSw; go_simp; try with_reducible rfl)
          try simp only [Act.put, List.setIfInBounds_toArray, List.set_cons_zero, List.set_cons_succ]
          refine wpAnyH_take (i := 5) (oi := ?oi5r) (v := ?v5r) ?hi5r ?hn5r ?hf5r ?hr5r ?hq5r ?hy5r (by assumption) ?rest5r
          case hi5r => (simp only [List.getElem?_toArray, List.getElem?_cons_zero, List.getElem?_cons_succ]; rfl)
          case hn5r => kernel_rfl
          case hf5r => kernel_rfl
          case hr5r => kernel_rfl
          case hq5r => exact fun _ _ _ h => h
          case hy5r => (refine Or.inl ⟨by rfl, ?_⟩; intro w hSw; go_simp; try with_reducible rfl)
          try simp only [Act.put, List.setIfInBounds_toArray, List.set_cons_zero, List.set_cons_succ]
          refine wpAnyH_take (i := 6) (oi := ?oi6r) (v := ?v6r) ?hi6r ?hn6r ?hf6r ?hr6r ?hq6r ?hy6r (by assumption) ?rest6r
          case hi6r => (simp only [List.getElem?_toArray, List.getElem?_cons_zero, List.getElem?_cons_succ]; rfl)
          case hn6r => kernel_rfl
          case hf6r => kernel_rfl
          case hr6r => kernel_rfl
          case hq6r => exact fun _ _ _ h => h
          case hy6r => (refine Or.inl ⟨by rfl, ?_⟩; intro w hSw; go_simp; try with_reducible rfl)
          try simp only [Act.put, List.setIfInBounds_toArray, List.set_cons_zero, List.set_cons_succ]
          refine wpAnyH_take (i := 7) (oi := ?oi7r) (v := ?v7r) ?hi7r ?hn7r ?hf7r ?hr7r ?hq7r ?hy7r (by assumption) ?rest7r
          case hi7r => (simp only [List.getElem?_toArray, List.getElem?_cons_zero, List.getElem?_cons_succ]; rfl)
          case hn7r => kernel_rfl
          case hf7r => kernel_rfl
          case hr7r => kernel_rfl
          case hq7r => exact fun _ _ _ h => h
          case hy7r => (refine Or.inl ⟨by rfl, ?_⟩; intro w hSw; go_simp; try with_reducible rfl)
          try simp only [Act.put, List.setIfInBounds_toArray, List.set_cons_zero, List.set_cons_succ]
          refine wpAnyH_ready (rs := [4, 8]) (by kernel_rfl) (by simp) ?_
          refine AllReadyH.cons (o := ?oi4r) ?hi4r ?hk4r (AllReadyH.cons (o := ?oi8r) ?hi8r ?hk8r AllReadyH.nil)
          case hi4r => (simp only [List.getElem?_toArray, List.getElem?_cons_zero, List.getElem?_cons_succ]; rfl)
          case hi8r => (simp only [List.getElem?_toArray, List.getElem?_cons_zero, List.getElem?_cons_succ]; rfl)
          case hk4r =>
            intro K hK
            go_simp
            refine hK.out _ _ hHeld (fun hHeld => ?_)
            clear hK K
            try simp only [Act.put, List.setIfInBounds_toArray, List.set_cons_zero, List.set_cons_succ]
            refine wpAnyH_ready (rs := [8]) (by kernel_rfl) (by simp) ?_
            refine AllReadyH.cons (o := ?oi8ra) ?hi8ra ?hk8ra AllReadyH.nil
            case hi8ra => (simp only [List.getElem?_toArray, List.getElem?_cons_zero, List.getElem?_cons_succ]; rfl)
            intro K hK
            go_simp
            refine hK.out _ _ (cell_alloc hHeld _) (fun hHeld => ?_)
            clear hK K
            try simp only [Act.put, List.setIfInBounds_toArray, List.set_cons_zero, List.set_cons_succ]
            refine wpAnyH_ready (rs := [9]) (by kernel_rfl) (by simp) ?_
            refine AllReadyH.cons (o := ?oi9ra) ?hi9ra ?hk9ra AllReadyH.nil
            case hi9ra => (simp only [List.getElem?_toArray, List.getElem?_cons_zero, List.getElem?_cons_succ]; rfl)
            intro K hK
            refine step_append_lies _ rfl (.tmp 58) (.tmp 62) 41 rfl (w.heap.size + 3) 49 i49 (.agg #[.int .i64 0, .int .i64 0]) 2 16 Try.underlying41 hi49 hz490 hz491 hz492 rfl (by decide) (.slice ra' (first nds k + p) rc') (first nds k + p) (refCells (refsPart nds k p)) rfl (OWN.out.alloc _) ⟨wr.heap.size, 0, none⟩ 1 1 [.int .i64 k, .int .i64 p] rfl rfl (cells_two_new _ _ _ _) (by simp [Value.oneCell']) (by decide) (by unfold maxLen; omega) (by omega) (by simp; omega) (wr.heap.size + 1) (by simp) ?_
            intro g cap w7 hown hgrow hat hltg
            have hne : some (w.heap.size + 2) ≠ (Value.slice ra' (first nds k + p) rc').ownBlock ∧ some (w.heap.size + 1) ≠ (Value.slice ra' (first nds k + p) rc').ownBlock := ⟨fun e => by have := (OWN.out.lt _ e.symm).1; omega, fun e => by have := (OWN.out.lt _ e.symm).1; omega⟩
            refine hK.out _ _ (hgrow.cell hHeld hne.1) (fun hHeld => ?_)
            clear hK K
            try simp only [Act.put, List.setIfInBounds_toArray, List.set_cons_zero, List.set_cons_succ]
            refine wpAnyH_take (i := 10) (oi := ?oi10ra) (v := ?v10ra) ?hi10ra ?hn10ra ?hf10ra ?hr10ra ?hq10ra ?hy10ra (by assumption) ?rest10ra
            case hi10ra => (simp only [List.getElem?_toArray, List.getElem?_cons_zero, List.getElem?_cons_succ]; rfl)
            case hn10ra => kernel_rfl
            case hf10ra => kernel_rfl
            case hr10ra => kernel_rfl
            case hq10ra => exact fun _ _ _ h => h
            case hy10ra => (refine Or.inl ⟨by rfl, ?_⟩; intro w hSw; go_simp; try with_reducible rfl)
            try simp only [Act.put, List.setIfInBounds_toArray, List.set_cons_zero, List.set_cons_succ]
            refine wpAnyH_take (i := 11) (oi := ?oi11ra) (v := ?v11ra) ?hi11ra ?hn11ra ?hf11ra ?hr11ra ?hq11ra ?hy11ra (by assumption) ?rest11ra
            case hi11ra => (simp only [List.getElem?_toArray, List.getElem?_cons_zero, List.getElem?_cons_succ]; rfl)
            case hn11ra => kernel_rfl
            case hf11ra => kernel_rfl
            case hr11ra => kernel_rfl
            case hq11ra => exact fun _ _ _ h => h
            case hy11ra => (refine Or.inl ⟨by rfl, ?_⟩; intro w hSw; go_simp; try with_reducible rfl)
            try simp only [Act.put, List.setIfInBounds_toArray, List.set_cons_zero, List.set_cons_succ]
            have fz := grown_frozen (p := ⟨w.heap.size + 1, 1, none⟩) hgrow (by simp; omega) hne.2 (frozen_alloc' (by simp; omega) f3 _)
            have cz := hgrow.cell (a := ⟨w.heap.size + 1, 1, none⟩) (cell_alloc d3 _) hne.2
            have hl9 := refsPart_length nds k p
            have HP := hid (HB.out.push (k := k) (p := p) (g := g) (cap := cap) (w2 := w7) (ob := .cells #[.int .i64 k, .int .i64 p] 49) (by rw [hl9]; exact hown) ⟨hgrow.os, hgrow.tape, hgrow.output, hgrow.size, hgrow.block⟩)
            rw [hl9] at HP
            clear hown hgrow hat hne hl9
            refine wpAnyH_ready (rs := [12]) (by kernel_rfl) (by simp) ?_
            refine AllReadyH.cons (o := ?oi12ra) ?hi12ra ?hk12ra AllReadyH.nil
            case hi12ra => (simp only [List.getElem?_toArray, List.getElem?_cons_zero, List.getElem?_cons_succ]; rfl)
            intro K hK
            go_simp
            refine hK.out _ _ (cell_set hHeld (by simp) _) (fun hHeld => ?_)
            clear hK K
            try simp only [Act.put]
            refine wpAnyH_done (by kernel_rfl) ?_ _
            go_wp2_with fail
            go_roundw
            case rel => exact ⟨p + 1, by omega, by go_num, _, by rw [refsPart_succ]; exact HP.out⟩
            case measure => simp [intOf]; omega
          case hk8r =>
            intro K hK
            have d3' := cell_alloc d3 (.cells #[.int .i64 k, .int .i64 p] 49)
            go_simp
            refine hK.out _ _ (cell_alloc hHeld _) (fun hHeld => ?_)
            clear hK K
            try simp only [Act.put, List.setIfInBounds_toArray, List.set_cons_zero, List.set_cons_succ]
            refine wpAnyH_ready (rs := [4]) (by kernel_rfl) (by simp) ?_
            refine AllReadyH.cons (o := ?oi4rb) ?hi4rb ?hk4rb AllReadyH.nil
            case hi4rb => (simp only [List.getElem?_toArray, List.getElem?_cons_zero, List.getElem?_cons_succ]; rfl)
            intro K hK
            go_simp
            refine hK.out _ _ hHeld (fun hHeld => ?_)
            clear hK K
            try simp only [Act.put, List.setIfInBounds_toArray, List.set_cons_zero, List.set_cons_succ]
            refine wpAnyH_ready (rs := [9]) (by kernel_rfl) (by simp) ?_
            refine AllReadyH.cons (o := ?oi9rb) ?hi9rb ?hk9rb AllReadyH.nil
            case hi9rb => (simp only [List.getElem?_toArray, List.getElem?_cons_zero, List.getElem?_cons_succ]; rfl)
            intro K hK
            refine step_append_lies _ rfl (.tmp 58) (.tmp 62) 41 rfl (w.heap.size + 3) 49 i49 (.agg #[.int .i64 0, .int .i64 0]) 2 16 Try.underlying41 hi49 hz490 hz491 hz492 rfl (by decide) (.slice ra' (first nds k + p) rc') (first nds k + p) (refCells (refsPart nds k p)) rfl (OWN.out.alloc _) ⟨wr.heap.size, 0, none⟩ 1 1 [.int .i64 k, .int .i64 p] rfl rfl (cells_two_new _ _ _ _) (by simp [Value.oneCell']) (by decide) (by unfold maxLen; omega) (by omega) (by simp; omega) (wr.heap.size + 1) (by simp) ?_
            intro g cap w7 hown hgrow hat hltg
            have hne : some (w.heap.size + 2) ≠ (Value.slice ra' (first nds k + p) rc').ownBlock ∧ some (w.heap.size + 1) ≠ (Value.slice ra' (first nds k + p) rc').ownBlock := ⟨fun e => by have := (OWN.out.lt _ e.symm).1; omega, fun e => by have := (OWN.out.lt _ e.symm).1; omega⟩
            refine hK.out _ _ (hgrow.cell hHeld hne.1) (fun hHeld => ?_)
            clear hK K
            try simp only [Act.put, List.setIfInBounds_toArray, List.set_cons_zero, List.set_cons_succ]
            refine wpAnyH_take (i := 10) (oi := ?oi10rb) (v := ?v10rb) ?hi10rb ?hn10rb ?hf10rb ?hr10rb ?hq10rb ?hy10rb (by assumption) ?rest10rb
            case hi10rb => (simp only [List.getElem?_toArray, List.getElem?_cons_zero, List.getElem?_cons_succ]; rfl)
            case hn10rb => kernel_rfl
            case hf10rb => kernel_rfl
            case hr10rb => kernel_rfl
            case hq10rb => exact fun _ _ _ h => h
            case hy10rb => (refine Or.inl ⟨by rfl, ?_⟩; intro w hSw; go_simp; try with_reducible rfl)
            try simp only [Act.put, List.setIfInBounds_toArray, List.set_cons_zero, List.set_cons_succ]
            refine wpAnyH_take (i := 11) (oi := ?oi11rb) (v := ?v11rb) ?hi11rb ?hn11rb ?hf11rb ?hr11rb ?hq11rb ?hy11rb (by assumption) ?rest11rb
            case hi11rb => (simp only [List.getElem?_toArray, List.getElem?_cons_zero, List.getElem?_cons_succ]; rfl)
            case hn11rb => kernel_rfl
            case hf11rb => kernel_rfl
            case hr11rb => kernel_rfl
            case hq11rb => exact fun _ _ _ h => h
            case hy11rb => (refine Or.inl ⟨by rfl, ?_⟩; intro w hSw; go_simp; try with_reducible rfl)
            try simp only [Act.put, List.setIfInBounds_toArray, List.set_cons_zero, List.set_cons_succ]
            have fz := grown_frozen (p := ⟨w.heap.size + 1, 1, none⟩) hgrow (by simp; omega) hne.2 (frozen_alloc' (by simp; omega) f3 _)
            have cz := hgrow.cell (a := ⟨w.heap.size + 1, 1, none⟩) (cell_alloc d3 _) hne.2
            have hl9 := refsPart_length nds k p
            have HP := hid (HB.out.push (k := k) (p := p) (g := g) (cap := cap) (w2 := w7) (ob := .cells #[.int .i64 k, .int .i64 p] 49) (by rw [hl9]; exact hown) ⟨hgrow.os, hgrow.tape, hgrow.output, hgrow.size, hgrow.block⟩)
            rw [hl9] at HP
            clear hown hgrow hat hne hl9
            refine wpAnyH_ready (rs := [12]) (by kernel_rfl) (by simp) ?_
            refine AllReadyH.cons (o := ?oi12rb) ?hi12rb ?hk12rb AllReadyH.nil
            case hi12rb => (simp only [List.getElem?_toArray, List.getElem?_cons_zero, List.getElem?_cons_succ]; rfl)
            intro K hK
            go_simp
            refine hK.out _ _ (cell_set hHeld (by simp) _) (fun hHeld => ?_)
            clear hK K
            try simp only [Act.put]
            refine wpAnyH_done (by kernel_rfl) ?_ _
            go_wp2_with fail
            go_roundw
            case rel => exact ⟨p + 1, by omega, by go_num, _, by rw [refsPart_succ]; exact HP.out⟩
            case measure => simp [intOf]; omega
        · have ep : p = pl nds k + 1 := by omega
          subst ep
          have t2 : ¬ ((pl nds k + 1 : Nat) : Int) < ((pl nds k + 1 : Nat) : Int) := by omega
          go_wp2_with fail
          go_roundw
          case rel => exact ⟨k + 1, by omega, by go_num, rv, HB.out⟩
          case measure => simp [intOf]; omega
    · have ek : k = nds.length := by omega
      subst ek
      obtain ⟨ra, rc, hrv⟩ := HB.out.form
      rw [refs_length] at hrv
      subst hrv
      generalize hTT : first nds nds.length = T at *
      have HTT := hid hTT
      clear hTT hmk
      have hmN := run_make_row' (P := Try.prog) 22 28 _ 24 Try.underlying22 info28 rfl .i64 .i64 T (by omega) (by omega)
      have hmI := run_make_row' (P := Try.prog) 28 3 _ 8 Try.underlying28 info3 rfl .i64 .i64 T (by omega) (by omega)
      have hmB := run_make_row' (P := Try.prog) 26 4 _ 1 Try.underlying26 info4 rfl .i64 .i64 T (by omega) (by omega)
      have hsB := HB.out.sz
      have dv0 := HB.out.var.cell (i := 0) (by omega)
      have dr0 := HB.out.str.cell (i := 1) (by omega)
      simp only [strS, if_true, Nat.one_ne_zero, if_false] at dr0
      have P0 := hid (PhC.start (T := T) HB.out.str)
      generalize hS0 : strS nds.length w.heap.size (.slice ra T rc) = S0 at P0
      have HS0 := hid hS0
      clear hS0
      obtain ⟨wB, hwB⟩ : ∃ wB, wB = wr := ⟨_, rfl⟩
      have W0 := hid hwB
      have Q0 : Hid (PhC wB (w.heap.size + 1) T S0 [] wr) := by subst hwB; exact P0
      clear P0 hwB
      go_wp2_with fail
      have dj := Q0.out.str.cell (i := 2) (by omega)
      have fj := Q0.out.str.frozen 2
      have djA := cell_alloc dj (.cells (madeCells #[(.slice none 0 0)] T) 28)
      have fjA := frozen_alloc' (by show _ < _; have := Q0.out.str.lt; omega) fj (.cells (madeCells #[(.slice none 0 0)] T) 28)
      have dvA := cell_alloc dv0 (.cells (madeCells #[(.slice none 0 0)] T) 28)
      have drA := cell_alloc dr0 (.cells (madeCells #[(.slice none 0 0)] T) 28)
      have dvB := cell_set dvA (q := ⟨w.heap.size + 1, 2, none⟩) (by simp) (.slice (some ⟨wr.heap.size, 0, none⟩) T T)
      have drB := cell_off drA (by decide : (1 : Nat) ≠ 2) (.slice (some ⟨wr.heap.size, 0, none⟩) T T)
      go_region_held3 (fun W => W.cell? ⟨w.heap.size + 2, 0, none⟩ = some (.pointer (some ⟨w.heap.size + 1, 0, none⟩)) ∧ W.cell? ⟨w.heap.size + 1, 1, none⟩ = some (.slice ra T rc)) (first | exact ⟨dv0, dr0⟩ | exact ⟨dvA, drA⟩ | exact ⟨dvB, drB⟩) (first | fail)
      have Q1 := hid (Q0.out.make (by rw [W0.out]; omega) 28 2 (.slice none 0 0))
      have dv1 : ((wr.alloc (.cells (madeCells #[(.slice none 0 0)] T) 28)).setCell ⟨w.heap.size + 1, 2, none⟩ (.slice (some ⟨wr.heap.size, 0, none⟩) T T)).drew.cell? ⟨w.heap.size + 2, 0, none⟩ = _ := dvB
      have dr1 : ((wr.alloc (.cells (madeCells #[(.slice none 0 0)] T) 28)).setCell ⟨w.heap.size + 1, 2, none⟩ (.slice (some ⟨wr.heap.size, 0, none⟩) T T)).drew.cell? ⟨w.heap.size + 1, 1, none⟩ = _ := drB
      replace Q1 : Hid (PhC wB (w.heap.size + 1) T _ _ ((wr.alloc (.cells (madeCells #[(.slice none 0 0)] T) 28)).setCell ⟨w.heap.size + 1, 2, none⟩ (.slice (some ⟨wr.heap.size, 0, none⟩) T T)).drew) := Q1
      generalize ((wr.alloc (.cells (madeCells #[(.slice none 0 0)] T) 28)).setCell ⟨w.heap.size + 1, 2, none⟩ (.slice (some ⟨wr.heap.size, 0, none⟩) T T)).drew = x1 at *
      clear dj fj djA fjA dvA drA dvB drB dv0 dr0
      go_wp2_with fail
      have dj := Q1.out.str.cell (i := 3) (by omega)
      have fj := Q1.out.str.frozen 3
      have djA := cell_alloc dj (.cells (madeCells #[(.slice none 0 0)] T) 28)
      have fjA := frozen_alloc' (by show _ < _; have := Q1.out.str.lt; omega) fj (.cells (madeCells #[(.slice none 0 0)] T) 28)
      have dvA := cell_alloc dv1 (.cells (madeCells #[(.slice none 0 0)] T) 28)
      have drA := cell_alloc dr1 (.cells (madeCells #[(.slice none 0 0)] T) 28)
      have dvB := cell_set dvA (q := ⟨w.heap.size + 1, 3, none⟩) (by simp) (.slice (some ⟨x1.heap.size, 0, none⟩) T T)
      have drB := cell_off drA (by decide : (1 : Nat) ≠ 3) (.slice (some ⟨x1.heap.size, 0, none⟩) T T)
      go_region_held3 (fun W => W.cell? ⟨w.heap.size + 2, 0, none⟩ = some (.pointer (some ⟨w.heap.size + 1, 0, none⟩)) ∧ W.cell? ⟨w.heap.size + 1, 1, none⟩ = some (.slice ra T rc)) (first | exact ⟨dv1, dr1⟩ | exact ⟨dvA, drA⟩ | exact ⟨dvB, drB⟩) (first | fail)
      have Q2 := hid (Q1.out.make (by rw [W0.out]; omega) 28 3 (.slice none 0 0))
      have dv2 : ((x1.alloc (.cells (madeCells #[(.slice none 0 0)] T) 28)).setCell ⟨w.heap.size + 1, 3, none⟩ (.slice (some ⟨x1.heap.size, 0, none⟩) T T)).drew.cell? ⟨w.heap.size + 2, 0, none⟩ = _ := dvB
      have dr2 : ((x1.alloc (.cells (madeCells #[(.slice none 0 0)] T) 28)).setCell ⟨w.heap.size + 1, 3, none⟩ (.slice (some ⟨x1.heap.size, 0, none⟩) T T)).drew.cell? ⟨w.heap.size + 1, 1, none⟩ = _ := drB
      replace Q2 : Hid (PhC wB (w.heap.size + 1) T _ _ ((x1.alloc (.cells (madeCells #[(.slice none 0 0)] T) 28)).setCell ⟨w.heap.size + 1, 3, none⟩ (.slice (some ⟨x1.heap.size, 0, none⟩) T T)).drew) := Q2
      generalize ((x1.alloc (.cells (madeCells #[(.slice none 0 0)] T) 28)).setCell ⟨w.heap.size + 1, 3, none⟩ (.slice (some ⟨x1.heap.size, 0, none⟩) T T)).drew = x2 at *
      clear dj fj djA fjA dvA drA dvB drB dv1 dr1
      go_wp2_with fail
      have dj := Q2.out.str.cell (i := 4) (by omega)
      have fj := Q2.out.str.frozen 4
      have djA := cell_alloc dj (.cells (madeCells #[(.int .i64 0)] T) 3)
      have fjA := frozen_alloc' (by show _ < _; have := Q2.out.str.lt; omega) fj (.cells (madeCells #[(.int .i64 0)] T) 3)
      have dvA := cell_alloc dv2 (.cells (madeCells #[(.int .i64 0)] T) 3)
      have drA := cell_alloc dr2 (.cells (madeCells #[(.int .i64 0)] T) 3)
      have dvB := cell_set dvA (q := ⟨w.heap.size + 1, 4, none⟩) (by simp) (.slice (some ⟨x2.heap.size, 0, none⟩) T T)
      have drB := cell_off drA (by decide : (1 : Nat) ≠ 4) (.slice (some ⟨x2.heap.size, 0, none⟩) T T)
      go_region_held3 (fun W => W.cell? ⟨w.heap.size + 2, 0, none⟩ = some (.pointer (some ⟨w.heap.size + 1, 0, none⟩)) ∧ W.cell? ⟨w.heap.size + 1, 1, none⟩ = some (.slice ra T rc)) (first | exact ⟨dv2, dr2⟩ | exact ⟨dvA, drA⟩ | exact ⟨dvB, drB⟩) (first | fail)
      have Q3 := hid (Q2.out.make (by rw [W0.out]; omega) 3 4 (.int .i64 0))
      have dv3 : ((x2.alloc (.cells (madeCells #[(.int .i64 0)] T) 3)).setCell ⟨w.heap.size + 1, 4, none⟩ (.slice (some ⟨x2.heap.size, 0, none⟩) T T)).drew.cell? ⟨w.heap.size + 2, 0, none⟩ = _ := dvB
      have dr3 : ((x2.alloc (.cells (madeCells #[(.int .i64 0)] T) 3)).setCell ⟨w.heap.size + 1, 4, none⟩ (.slice (some ⟨x2.heap.size, 0, none⟩) T T)).drew.cell? ⟨w.heap.size + 1, 1, none⟩ = _ := drB
      replace Q3 : Hid (PhC wB (w.heap.size + 1) T _ _ ((x2.alloc (.cells (madeCells #[(.int .i64 0)] T) 3)).setCell ⟨w.heap.size + 1, 4, none⟩ (.slice (some ⟨x2.heap.size, 0, none⟩) T T)).drew) := Q3
      generalize ((x2.alloc (.cells (madeCells #[(.int .i64 0)] T) 3)).setCell ⟨w.heap.size + 1, 4, none⟩ (.slice (some ⟨x2.heap.size, 0, none⟩) T T)).drew = x3 at *
      clear dj fj djA fjA dvA drA dvB drB dv2 dr2
      go_wp2_with fail
      have dj := Q3.out.str.cell (i := 5) (by omega)
      have fj := Q3.out.str.frozen 5
      have djA := cell_alloc dj (.cells (madeCells #[(.int .i64 0)] T) 3)
      have fjA := frozen_alloc' (by show _ < _; have := Q3.out.str.lt; omega) fj (.cells (madeCells #[(.int .i64 0)] T) 3)
      have dvA := cell_alloc dv3 (.cells (madeCells #[(.int .i64 0)] T) 3)
      have drA := cell_alloc dr3 (.cells (madeCells #[(.int .i64 0)] T) 3)
      have dvB := cell_set dvA (q := ⟨w.heap.size + 1, 5, none⟩) (by simp) (.slice (some ⟨x3.heap.size, 0, none⟩) T T)
      have drB := cell_off drA (by decide : (1 : Nat) ≠ 5) (.slice (some ⟨x3.heap.size, 0, none⟩) T T)
      go_region_held3 (fun W => W.cell? ⟨w.heap.size + 2, 0, none⟩ = some (.pointer (some ⟨w.heap.size + 1, 0, none⟩)) ∧ W.cell? ⟨w.heap.size + 1, 1, none⟩ = some (.slice ra T rc)) (first | exact ⟨dv3, dr3⟩ | exact ⟨dvA, drA⟩ | exact ⟨dvB, drB⟩) (first | fail)
      have Q4 := hid (Q3.out.make (by rw [W0.out]; omega) 3 5 (.int .i64 0))
      have dv4 : ((x3.alloc (.cells (madeCells #[(.int .i64 0)] T) 3)).setCell ⟨w.heap.size + 1, 5, none⟩ (.slice (some ⟨x3.heap.size, 0, none⟩) T T)).drew.cell? ⟨w.heap.size + 2, 0, none⟩ = _ := dvB
      have dr4 : ((x3.alloc (.cells (madeCells #[(.int .i64 0)] T) 3)).setCell ⟨w.heap.size + 1, 5, none⟩ (.slice (some ⟨x3.heap.size, 0, none⟩) T T)).drew.cell? ⟨w.heap.size + 1, 1, none⟩ = _ := drB
      replace Q4 : Hid (PhC wB (w.heap.size + 1) T _ _ ((x3.alloc (.cells (madeCells #[(.int .i64 0)] T) 3)).setCell ⟨w.heap.size + 1, 5, none⟩ (.slice (some ⟨x3.heap.size, 0, none⟩) T T)).drew) := Q4
      generalize ((x3.alloc (.cells (madeCells #[(.int .i64 0)] T) 3)).setCell ⟨w.heap.size + 1, 5, none⟩ (.slice (some ⟨x3.heap.size, 0, none⟩) T T)).drew = x4 at *
      clear dj fj djA fjA dvA drA dvB drB dv3 dr3
      go_wp2_with fail
      have dj := Q4.out.str.cell (i := 6) (by omega)
      have fj := Q4.out.str.frozen 6
      have djA := cell_alloc dj (.cells (madeCells #[(.bool false)] T) 4)
      have fjA := frozen_alloc' (by show _ < _; have := Q4.out.str.lt; omega) fj (.cells (madeCells #[(.bool false)] T) 4)
      have dvA := cell_alloc dv4 (.cells (madeCells #[(.bool false)] T) 4)
      have drA := cell_alloc dr4 (.cells (madeCells #[(.bool false)] T) 4)
      have dvB := cell_set dvA (q := ⟨w.heap.size + 1, 6, none⟩) (by simp) (.slice (some ⟨x4.heap.size, 0, none⟩) T T)
      have drB := cell_off drA (by decide : (1 : Nat) ≠ 6) (.slice (some ⟨x4.heap.size, 0, none⟩) T T)
      go_region_held3 (fun W => W.cell? ⟨w.heap.size + 2, 0, none⟩ = some (.pointer (some ⟨w.heap.size + 1, 0, none⟩)) ∧ W.cell? ⟨w.heap.size + 1, 1, none⟩ = some (.slice ra T rc)) (first | exact ⟨dv4, dr4⟩ | exact ⟨dvA, drA⟩ | exact ⟨dvB, drB⟩) (first | fail)
      have Q5 := hid (Q4.out.make (by rw [W0.out]; omega) 4 6 (.bool false))
      have dv5 : ((x4.alloc (.cells (madeCells #[(.bool false)] T) 4)).setCell ⟨w.heap.size + 1, 6, none⟩ (.slice (some ⟨x4.heap.size, 0, none⟩) T T)).drew.cell? ⟨w.heap.size + 2, 0, none⟩ = _ := dvB
      have dr5 : ((x4.alloc (.cells (madeCells #[(.bool false)] T) 4)).setCell ⟨w.heap.size + 1, 6, none⟩ (.slice (some ⟨x4.heap.size, 0, none⟩) T T)).drew.cell? ⟨w.heap.size + 1, 1, none⟩ = _ := drB
      replace Q5 : Hid (PhC wB (w.heap.size + 1) T _ _ ((x4.alloc (.cells (madeCells #[(.bool false)] T) 4)).setCell ⟨w.heap.size + 1, 6, none⟩ (.slice (some ⟨x4.heap.size, 0, none⟩) T T)).drew) := Q5
      generalize ((x4.alloc (.cells (madeCells #[(.bool false)] T) 4)).setCell ⟨w.heap.size + 1, 6, none⟩ (.slice (some ⟨x4.heap.size, 0, none⟩) T T)).drew = x5 at *
      clear dj fj djA fjA dvA drA dvB drB dv4 dr4
      go_wp2_with fail
      have hs1 := Q1.out.size
      have hs2 := Q2.out.size
      have hs3 := Q3.out.size
      have hs4 := Q4.out.size
      have hs5 := Q5.out.size
      have hw := W0.out
      simp only [List.length_append, List.length_cons, List.length_nil, Nat.zero_add] at hs1 hs2 hs3 hs4 hs5
      have BAS := hid (Bas.of HB.out (by rw [← hw]; exact Q5.out) (by simp))
      have PD0 := hid (show PhD x5 T wr.heap.size [] x5 from PhC.jag (by rw [← hw]; exact Q5.out))
      have RU := hid (Q5.out.row 2 (by simp))
      have RW := hid (Q5.out.row 3 (by simp))
      have RP := hid (Q5.out.row 4 (by simp))
      have RIN := hid (refs_in (x := x5) HB.out (by rw [refs_length, HTT.out]) (fun k h1 h2 => by have := Q5.out.old k (by rw [hw]; exact h1) h2; rwa [hw] at this))
      simp only [List.getD, List.nil_append, List.cons_append, List.getElem?_cons_succ, List.getElem?_cons_zero, Option.getD_some] at RU RW RP
      have g0 := HS0.out
      obtain ⟨S5, hS5⟩ : ∃ S5, S5 = upd (upd (upd (upd (upd S0 2 (.slice (some ⟨wr.heap.size, 0, none⟩) T T)) 3 (.slice (some ⟨x1.heap.size, 0, none⟩) T T)) 4 (.slice (some ⟨x2.heap.size, 0, none⟩) T T)) 5 (.slice (some ⟨x3.heap.size, 0, none⟩) T T)) 6 (.slice (some ⟨x4.heap.size, 0, none⟩) T T) := ⟨_, rfl⟩
      have y0 : S5 0 = .slice (some ⟨w.heap.size, 0, none⟩) nds.length nds.length := by rw [hS5, ← g0]; rfl
      have y1 : S5 1 = .slice ra T rc := by rw [hS5, ← g0]; rfl
      have y2 : S5 2 = .slice (some ⟨wr.heap.size, 0, none⟩) T T := by rw [hS5]; rfl
      have y3 : S5 3 = .slice (some ⟨wr.heap.size + 1, 0, none⟩) T T := by rw [hS5, hs1, hw]; rfl
      have y4 : S5 4 = .slice (some ⟨wr.heap.size + 2, 0, none⟩) T T := by rw [hS5, hs2, hw]; rfl
      have y5 : S5 5 = .slice (some ⟨wr.heap.size + 3, 0, none⟩) T T := by rw [hS5, hs3, hw]; rfl
      have y6 : S5 6 = .slice (some ⟨wr.heap.size + 4, 0, none⟩) T T := by rw [hS5, hs4, hw]; rfl
      have y7 : S5 7 = .int .i64 0 := by rw [hS5, ← g0]; rfl
      rw [← hS5] at BAS
      have SY := hid (show S5 0 = _ ∧ S5 1 = _ ∧ S5 2 = _ ∧ S5 3 = _ ∧ S5 4 = _ ∧ S5 5 = _ ∧ S5 6 = _ ∧ S5 7 = _ from ⟨y0, y1, y2, y3, y4, y5, y6, y7⟩)
      rw [hw] at RU RW RP
      clear y0 y1 y2 y3 y4 y5 y6 y7 hS5 g0 Q0 Q1 Q2 Q3 Q4 Q5 hs1 hs2 hs3 hs4 dv5 dr5 hw W0 HB HS0 hmN hmI hmB
      generalize wr.heap.size = bN at *
      go_loopw [117] (fun i wr => ∃ k : Nat, k ≤ nds.length ∧ i = .int .i64 k ∧ PhD x5 T bN (edges nds k) wr) (fun i _ => nds.length - (intOf i).toNat)
      case atStart => exact ⟨0, Nat.zero_le _, rfl, PD0.out⟩
      case round =>
        obtain ⟨k, hk, rfl, hD⟩ := hrel
        have HD := hid hD
        clear hD PD0
        by_cases hlt : k < nds.length
        · have hfk := first_lt nds hlt (Nat.le_refl _)
          rw [HTT.out] at hfk
          have hck := cost_mono nds (show k + 1 ≤ nds.length from hlt)
          rw [← edges_length] at hck
          have ha := HN.out.addr (by omega)
          subst ha
          obtain ⟨u, v, n1, ⟨a1, b1, o1, c1, hu, hru⟩, n2, ⟨a2, b2, o2, c2, hv, hpv⟩, n3⟩ := HN.out.node k hlt
          subst hu hv
          have HRU := hid hru
          have HPV := hid hpv
          have hbel := BAS.out.below' HD.out.kept
          replace n1 := below_cell hbel n1
          replace n2 := below_cell hbel n2
          replace n3 := below_cell hbel n3
          clear hru hpv
          have i1 : (k : Int) < (nds.length : Int) := by omega
          have e1 : (nod nds k).parts.length = pl nds k := rfl
          rw [e1] at n2
          have HD1 := hid (HD.out.alloc (.cells #[.slice a1 (nod nds k).needs.length c1, .slice a2 (pl nds k) c2, .bool (nod nds k).lead] 45))
          have d1 := (BAS.out.srt HD1.out.kept).var
          have d2 := (BAS.out.srt HD1.out.kept).str.cell (i := 0) (by omega)
          rw [SY.out.1] at d2
          have d3 := (BAS.out.fst' HD1.out.kept).cell hlt
          have e2 : fst nds nds.length k = first nds k := by simp [fst, hlt]
          rw [e2] at d3
          clear e1 e2 hbel
          have NV : Hid ((wr.alloc (.cells #[.slice a1 (nod nds k).needs.length c1, .slice a2 (pl nds k) c2, .bool (nod nds k).lead] 45)).heap[wr.heap.size]? = some (.cells #[.slice a1 (nod nds k).needs.length c1, .slice a2 (pl nds k) c2, .bool (nod nds k).lead] 45 (0, 0))) := blk_new _ _
          have NM := hid (HNM.out k hlt)
          go_wp2_with fail
          generalize wr.heap.size = bn at NV ⊢
          go_loopw [132] (fun i wr' => ∃ j : Nat, j ≤ (nod nds k).needs.length ∧ i = .int .i64 j ∧ PhD x5 T bN (edges nds k ++ needEdges nds k j) wr' ∧ wr'.heap[bn]? = some (.cells #[.slice a1 (nod nds k).needs.length c1, .slice a2 (pl nds k) c2, .bool (nod nds k).lead] 45 (0, 0))) (fun i _ => (nod nds k).needs.length - (intOf i).toNat)
          case atStart => exact ⟨0, Nat.zero_le _, rfl, by rw [needEdges_zero, List.append_nil]; exact HD1.out, NV.out⟩
          case round =>
            obtain ⟨j, hj, rfl, hD, hnv⟩ := hrel
            have HDj := hid hD
            have HNV := hid hnv
            clear hD hnv NV
            by_cases hlj : j < (nod nds k).needs.length
            · have hok := NM.out.1 j hlj
              have ha1 := HRU.out.addr (by omega)
              subst ha1
              have hbel := BAS.out.below' HDj.out.kept
              have m1 := below_cell hbel (HRU.out.node j hlj)
              have m2 := below_cell hbel (HRU.out.part j hlj)
              have hnx := needEdges_succ nds k j hlj
              have hil := item_lt hok
              rw [HTT.out] at hil
              obtain ⟨hl1, hl2⟩ := len_needs nds k (nod nds k).needs.length (Nat.le_refl _)
              obtain ⟨hl3, hl4⟩ := len_needs nds k j hj
              have hel : (edges nds k ++ needEdges nds k j).length ≤ 1048576 := by omega
              have hnl : (nod nds k).needs.length ≤ 65536 := by omega
              clear hl1 hl2 hl3 hl4
              obtain ⟨o1', o2', o3', o4'⟩ := hok
              generalize (nod nds k).needs.getD j (0, 0) = rr at *
              obtain ⟨r1, r2⟩ := rr
              obtain ⟨q, rfl⟩ : ∃ q : Nat, r1 = (q : Int) := ⟨r1.toNat, by simp at o1'; omega⟩
              obtain ⟨p, rfl⟩ : ∃ p : Nat, r2 = (p : Int) := ⟨r2.toNat, by simp at o3'; omega⟩
              have hqn : q < nds.length := by simp at o2'; omega
              have eit : item nds ((q : Int), (p : Int)) = fst nds nds.length q + p := by simp [item, fst, hqn]
              rw [eit] at hil hnx
              have HNX := hid hnx
              have hlj' : (j : Int) < ((nod nds k).needs.length : Int) := by omega
              have HDa := hid (HDj.out.alloc (.cells #[.int .i64 (q : Int), .int .i64 (p : Int)] 49))
              have HKa := hid ((Kept.refl (bN + 5) bN (bN + 1) wr).alloc (by obtain ⟨U, V, hJ⟩ := HDj.out.jag; exact hJ.sz) (.cells #[.int .i64 (q : Int), .int .i64 (p : Int)] 49))
              clear hnx eit o1' o2' o3' o4' hbel
              generalize hfq : fst nds nds.length q = fq at hil HNX
              have HFQ := hid hfq
              clear hfq
              go_wp2_with (first
                | (go_at_call 44; refine (itemD BAS.out SY.out.1 HDa.out q p hqn (by rw [HFQ.out]; omega)).mono ?_; rintro e wA ⟨rfl, hDA, hKA⟩; have HDA := hid hDA; have HKA := hid hKA; clear hDA hKA; rw [HFQ.out])
                | (go_at_call 45; refine (addD BAS.out SY.out.2.2.1 SY.out.2.2.2.1 HDA.out (first nds k) (fq + p) (by omega) hil hel).mono ?_; rintro e wC ⟨rfl, hDC, hKC⟩; have HDC := hid hDC; have HKC := hid hKC; clear hDC hKC))
              go_roundw
              case rel =>
                refine ⟨j + 1, by omega, by go_num, by rw [HNX.out, ← List.append_assoc]; exact HDC.out, ?_⟩
                exact HKC.out.other _ _ _ _ (HKA.out.other _ _ _ _ (HKa.out.other _ _ _ _ HNV.out (by decide) (by decide)) (by decide) (by decide)) (by decide) (by decide)
              case measure => simp [intOf]; omega
            · have ej : j = (nod nds k).needs.length := by omega
              subst ej
              rw [needEdges_all] at HDj
              have v1 : wr.cell? ⟨bn, 1, none⟩ = some (.slice a2 (pl nds k) c2) := by simp [World.cell?, HNV.out]
              go_wp2_with fail
              go_loopw [146] (fun i wr' => ∃ i' : Nat, i' ≤ pl nds k ∧ i = .int .i64 i' ∧ PhD x5 T bN (edges nds k ++ upto nds k i') wr') (fun i _ => pl nds k - (intOf i).toNat)
              case atStart => exact ⟨0, Nat.zero_le _, rfl, HDj.out⟩
              case round =>
                obtain ⟨i', hi', rfl, hD⟩ := hrel
                have HDi := hid hD
                clear hD HDj HNV v1
                by_cases hli : i' < pl nds k
                · have ha2 := HPV.out.addr (by have : i' < (nod nds k).parts.length := hli; omega)
                  subst ha2
                  have hbel := BAS.out.below' HDi.out.kept
                  obtain ⟨vp, m1, ⟨a6, b6, o6, c6, hvp, hrp⟩⟩ := HPV.out.cell i' hli
                  subst hvp
                  replace m1 := below_cell hbel m1
                  have HRP := hid hrp
                  clear hrp
                  obtain ⟨hl1, hl2⟩ := len_parts nds k i' 0 hli (Nat.zero_le _)
                  obtain ⟨hl3, hl4⟩ := len_parts nds k i' ((nod nds k).parts.getD i' []).length hli (Nat.le_refl _)
                  have hpn : ((nod nds k).parts.getD i' []).length ≤ 65536 := by omega
                  have hel : (edges nds k ++ upto nds k i').length ≤ 1048576 := by simp only [List.length_append] at hl2 ⊢; omega
                  have q1 : IntKind.i64.wrap ((first nds k : Int) + 1) = ((first nds k + 1 : Nat) : Int) := by rw [IntKind.wrap_i64]; omega
                  have q2 : IntKind.i64.wrap (((first nds k + 1 : Nat) : Int) + (i' : Int)) = ((first nds k + 1 + i' : Nat) : Int) := by rw [IntKind.wrap_i64]; omega
                  have q3 : IntKind.i64.wrap ((first nds k : Int) + 1 + (i' : Int)) = ((first nds k + 1 + i' : Nat) : Int) := by rw [IntKind.wrap_i64]; omega
                  have i2 : (i' : Int) < (pl nds k : Int) := by omega
                  clear hl1 hl2 hl3 hl4 hbel
                  generalize hps : (nod nds k).parts.getD i' [] = ps at *
                  have HPS := hid hps
                  clear hps
                  go_wp2_with (first
                    | (go_at_call 45; refine (addD BAS.out SY.out.2.2.1 SY.out.2.2.2.1 HDi.out (first nds k + 1 + i') (first nds k) (by omega) (by omega) hel).mono ?_; rintro e wC ⟨rfl, hDC, hKC⟩; have HDC := hid hDC; clear hDC hKC))
                  rw [← partEdges_zero] at HDC
                  go_wp2_with fail
                  go_loopw [161] (fun i wr' => ∃ j : Nat, j ≤ ps.length ∧ i = .int .i64 j ∧ PhD x5 T bN (edges nds k ++ upto nds k i' ++ partEdges nds k i' j) wr') (fun i _ => ps.length - (intOf i).toNat)
                  case atStart => exact ⟨0, Nat.zero_le _, rfl, HDC.out⟩
                  case round =>
                    obtain ⟨j, hj, rfl, hD⟩ := hrel
                    have HDj := hid hD
                    clear hD HDC
                    by_cases hlj : j < ps.length
                    · have hok := NM.out.2 i' hli j (by rw [HPS.out]; exact hlj)
                      have ha1 := HRP.out.addr (by omega)
                      subst ha1
                      have hbel := BAS.out.below' HDj.out.kept
                      have m1 := below_cell hbel (HRP.out.node j hlj)
                      have m2 := below_cell hbel (HRP.out.part j hlj)
                      have hnx := partEdges_succ nds k i' j (by rw [HPS.out]; exact hlj)
                      have hil := item_lt hok
                      rw [HTT.out] at hil
                      obtain ⟨hl3, hl4⟩ := len_parts nds k i' j hli (by rw [HPS.out]; exact hj)
                      have hel : (edges nds k ++ upto nds k i' ++ partEdges nds k i' j).length ≤ 1048576 := by omega
                      clear hl3 hl4
                      obtain ⟨o1', o2', o3', o4'⟩ := hok
                      rw [HPS.out] at hil hnx o1' o2' o3' o4'
                      generalize ps.getD j (0, 0) = rr at *
                      obtain ⟨r1, r2⟩ := rr
                      obtain ⟨q, rfl⟩ : ∃ q : Nat, r1 = (q : Int) := ⟨r1.toNat, by simp at o1'; omega⟩
                      obtain ⟨p, rfl⟩ : ∃ p : Nat, r2 = (p : Int) := ⟨r2.toNat, by simp at o3'; omega⟩
                      have hqn : q < nds.length := by simp at o2'; omega
                      have eit : item nds ((q : Int), (p : Int)) = fst nds nds.length q + p := by simp [item, fst, hqn]
                      rw [eit] at hil hnx
                      have HNX := hid hnx
                      have hlj' : (j : Int) < (ps.length : Int) := by omega
                      have HDa := hid (HDj.out.alloc (.cells #[.int .i64 (q : Int), .int .i64 (p : Int)] 49))
                      clear hnx eit o1' o2' o3' o4' hbel
                      generalize hfq : fst nds nds.length q = fq at hil HNX
                      have HFQ := hid hfq
                      clear hfq
                      go_wp2_with (first
                        | (go_at_call 44; refine (itemD BAS.out SY.out.1 HDa.out q p hqn (by rw [HFQ.out]; omega)).mono ?_; rintro e wA ⟨rfl, hDA, hKA⟩; have HDA := hid hDA; clear hDA hKA; rw [HFQ.out])
                        | (go_at_call 45; refine (addD BAS.out SY.out.2.2.1 SY.out.2.2.2.1 HDA.out (first nds k + 1 + i') (fq + p) (by omega) hil hel).mono ?_; rintro e wC ⟨rfl, hDC, hKC⟩; have HDC := hid hDC; clear hDC hKC))
                      go_roundw
                      case rel => exact ⟨j + 1, by omega, by go_num, by rw [HNX.out, ← List.append_assoc]; exact HDC.out⟩
                      case measure => simp [intOf]; omega
                    · have ej : j = ps.length := by omega
                      subst ej
                      have hup := upto_succ nds k i' hli
                      rw [HPS.out] at hup
                      rw [List.append_assoc, ← hup] at HDj
                      clear hup
                      go_wp2_with fail
                      go_roundw
                      case rel => exact ⟨i' + 1, by omega, by go_num, HDj.out⟩
                      case measure => simp [intOf]; omega
                · have ei : i' = pl nds k := by omega
                  subst ei
                  rw [← upto_all] at HDi
                  go_wp2_with fail
                  go_roundw
                  case rel => exact ⟨k + 1, by omega, by go_num, HDi.out⟩
                  case measure => simp [intOf]; omega
        · have ek : k = nds.length := by omega
          subst ek
          obtain ⟨U, V, hJ⟩ := HD.out.jag
          have HJ := hid hJ
          have HK := hid HD.out.kept
          have hbb := BAS.out.hb
          have E0 := hid (PhE.start (T := T) (bN := bN) (RU.out.of_block (HK.out.low _ (by omega) (by omega) (by omega))) (RW.out.of_block (HK.out.low _ (by omega) (by omega) (by omega))))
          have RIN6 := hid (RIN.out.blk (y := wr) (fun k h1 h2 => HK.out.low k (by omega) (by omega) (by omega)))
          have SR := hid (BAS.out.srt HK.out)
          have FS := hid (BAS.out.fst' HK.out)
          have BL := hid (BAS.out.below' HK.out)
          have RP6 := hid (RP.out.of_block (HK.out.low _ (by omega) (by omega) (by omega)))
          clear hJ HD RU RW RP RIN BAS HK hk hlt
          obtain ⟨w6, hw6⟩ : ∃ w6, w6 = wr := ⟨_, rfl⟩
          subst hw6
          have c1 := SR.out.var
          have c2 := SR.out.str.cell (i := 1) (by omega)
          rw [SY.out.2.1] at c2
          go_wp2_with fail
          go_loopw [179] (fun i wr => ∃ k : Nat, k ≤ T ∧ i = .int .i64 k ∧ PhE w6 T bN (cut (unit nds nds.length) k) (fun _ => 0) wr) (fun i _ => T - (intOf i).toNat)
          case atStart => exact ⟨0, Nat.zero_le _, rfl, E0.out⟩
          case round =>
            obtain ⟨k, hk, rfl, hE⟩ := hrel
            have HE := hid hE
            clear hE E0 c1 c2
            by_cases hlt : k < T
            · obtain ⟨a', p', ha', hp', hk'⟩ := item_of nds (show k < first nds nds.length by rw [HTT.out]; exact hlt)
              have hrk := refs_at nds ha' hp'
              have huk := unit_at nds ha' hp'
              rw [← hk'] at hrk huk
              obtain ⟨g, hg1, hg2⟩ := RIN6.out
              have hlr := refs_length nds nds.length
              rw [HTT.out] at hlr
              obtain ⟨hra, hgl, hgh⟩ := hg1 (by omega)
              subst hra
              have dn := HE.out.cell (hg2 k (by omega)).1 (by simp; omega) (by simp; omega)
              rw [hrk] at dn
              have d1 := HE.out.cell SR.out.var (by simp; omega) (by simp; omega)
              have d0 := HE.out.cell (SR.out.str.cell (i := 0) (by omega)) (by simp; omega) (by simp; omega)
              have dr := HE.out.cell (SR.out.str.cell (i := 1) (by omega)) (by simp; omega) (by simp; omega)
              have d4 := HE.out.cell (SR.out.str.cell (i := 4) (by omega)) (by simp; omega) (by simp; omega)
              rw [SY.out.1] at d0
              rw [SY.out.2.1] at dr
              rw [SY.out.2.2.2.2.1] at d4
              have df := HE.out.cell (FS.out.cell ha') (by simp; omega) (by simp; omega)
              rw [show fst nds nds.length a' = first nds a' by simp [fst, ha']] at df
              have du := HE.out.unit.cell hlt
              have fu := HE.out.unit.frozen k
              have i1 : (k : Int) < (T : Int) := by omega
              have i2 : (a' : Int) < (nds.length : Int) := by omega
              have HU2 := hid (HE.out.setU k (first nds a'))
              rw [show upd (cut (unit nds nds.length) k) k (first nds a') = cut (unit nds nds.length) (k + 1) by rw [← huk, cut_succ]] at HU2
              clear hrk huk hk' hlr hg1 hg2 hp'
              simp only [] at dn
              go_wp2_with fail
              go_region_held3 (fun W => W.cell? ⟨w.heap.size + 2, 0, none⟩ = some (.pointer (some ⟨w.heap.size + 1, 0, none⟩)) ∧ W.cell? ⟨w.heap.size + 1, 0, none⟩ = some (.slice (some ⟨w.heap.size, 0, none⟩) nds.length nds.length) ∧ W.cell? ⟨w.heap.size + 1, 1, none⟩ = some (.slice (some ⟨g, 0, none⟩) T rc) ∧ W.cell? ⟨w.heap.size + 1, 4, none⟩ = some (.slice (some ⟨bN + 2, 0, none⟩) T T) ∧ W.cell? ⟨g, k * 2, none⟩ = some (.int .i64 (a' : Int)) ∧ W.cell? ⟨w.heap.size, a', none⟩ = some (.int .i64 ((first nds a' : Nat) : Int)))
                (first | exact ⟨d1, d0, dr, d4, dn, df⟩ | (refine ⟨cell_set d1 ?_ _, cell_set d0 ?_ _, cell_set dr ?_ _, cell_set d4 ?_ _, cell_set dn ?_ _, cell_set df ?_ _⟩ <;> simp <;> omega)) (first | fail)
              go_wp2_with fail
              go_roundw
              case rel => exact ⟨k + 1, by omega, by go_num, HU2.out.drew⟩
              case measure => simp [intOf]; omega
            · have ek : k = T := by omega
              subst ek
              have E1 := hid (show PhE w6 k bN (unit nds nds.length) (wt (unit nds nds.length) (rowEdges nds nds.length 0)) wr from ⟨HE.out.os, HE.out.tape, HE.out.output, HE.out.size, HE.out.blk, HE.out.unit.congr (fun j hj => by simp [cut, hj]), HE.out.wait⟩)
              have c1 := HE.out.cell SR.out.var (by simp; omega) (by simp; omega)
              have c2 := HE.out.cell (SR.out.str.cell (i := 2) (by omega)) (by simp; omega) (by simp; omega)
              rw [SY.out.2.2.1] at c2
              generalize hun : unit nds nds.length = un at E1
              have HUN := hid hun
              clear hun HE
              go_wp2_with fail
              go_loopw [208] (fun i wr => ∃ q : Nat, q ≤ k ∧ i = .int .i64 q ∧ PhE w6 k bN un (wt un (rowEdges nds nds.length q)) wr) (fun i _ => k - (intOf i).toNat)
              case atStart => exact ⟨0, Nat.zero_le _, rfl, E1.out⟩
              case round =>
                obtain ⟨q, hq, rfl, hE⟩ := hrel
                have HE := hid hE
                clear hE E1 c1 c2
                by_cases hlt : q < k
                · have hrs := rowEdges_succ nds nds.length q (by rw [HTT.out]; exact hlt)
                  have hnl := nb_length (edges nds nds.length) q
                  rw [edges_length] at hnl
                  have hnb := nb_lt HNM.out q
                  obtain ⟨ak, ck, gk, hU, hadr, hcell⟩ := row_open (HJ.out.ownN q hlt)
                  have dq := HE.out.cell (HJ.out.needs.cell hlt) (by simp) (by simp)
                  rw [hU] at dq
                  rw [HTT.out] at hnb
                  generalize nb (edges nds nds.length) q = row at *
                  have HRS := hid hrs
                  have HNB := hid hnb
                  have HADR := hid hadr
                  have HCELL := hid hcell
                  have i1 : (q : Int) < (k : Int) := by omega
                  have hel : (rowEdges nds nds.length q).length + row.length ≤ 65536 := by
                    have h1 : (rowEdges nds nds.length (q + 1)).length ≤ (edges nds nds.length).length := by
                      rw [← rowEdges_all nds nds.length]
                      exact rowEdges_mono nds nds.length (by rw [HTT.out]; exact hlt)
                    rw [HRS.out, edges_length] at h1
                    simp only [List.length_append, List.length_map] at h1
                    omega
                  clear hrs hnb hadr hcell hU
                  go_wp2_with fail
                  go_loopw [215] (fun i wr => ∃ j : Nat, j ≤ row.length ∧ i = .int .i64 j ∧ PhE w6 k bN un (wt un (rowEdges nds nds.length q ++ (row.take j).map (fun b => (q, b)))) wr) (fun i _ => row.length - (intOf i).toNat)
                  case atStart => exact ⟨0, Nat.zero_le _, rfl, by simpa using HE.out⟩
                  case round =>
                    obtain ⟨j, hj, rfl, hE⟩ := hrel
                    have HEj := hid hE
                    clear hE
                    by_cases hlj : j < row.length
                    · obtain ⟨hak, hgk⟩ := HADR.out (by omega)
                      subst hak
                      have hbT := HNB.out j hlj
                      have mr := HEj.out.cell (HCELL.out j hlj) (by simp; omega) (by simp; omega)
                      have d1 := HEj.out.cell SR.out.var (by simp; omega) (by simp; omega)
                      have d4 := HEj.out.cell (SR.out.str.cell (i := 4) (by omega)) (by simp; omega) (by simp; omega)
                      have d5 := HEj.out.cell (SR.out.str.cell (i := 5) (by omega)) (by simp; omega) (by simp; omega)
                      rw [SY.out.2.2.2.2.1] at d4
                      rw [SY.out.2.2.2.2.2.1] at d5
                      have uq := HEj.out.unit.cell hlt
                      have ub := HEj.out.unit.cell hbT
                      have hts : (row.take (j + 1)).map (fun b => (q, b)) = (row.take j).map (fun b => (q, b)) ++ [(q, row.getD j 0)] := by rw [take_snoc row 0 j hlj, List.map_append]; rfl
                      have HTS := hid hts
                      clear hts
                      generalize row.getD j 0 = bb at *
                      have i2 : (j : Int) < (row.length : Int) := by omega
                      have i3 : (bb : Int) < (k : Int) := by omega
                      have hjn : j ≤ 65536 := by omega
                      by_cases hne : un q = un bb
                      · have t1 : ((un q : Int) != (un bb : Int)) = false := by simp [hne]
                        have HW := hid (wt_miss un (rowEdges nds nds.length q ++ (row.take j).map (fun b => (q, b))) q bb hne)
                        clear hne
                        go_wp2_with fail
                        go_quiet (fail)
                        go_wp2_with fail
                        go_roundw
                        case rel => exact ⟨j + 1, by omega, by go_num, by rw [HTS.out, ← List.append_assoc, ← HW.out]; exact HEj.out.drewN _⟩
                        case measure => simp [intOf]; omega
                      · have t1 : ((un q : Int) != (un bb : Int)) = true := by simp; omega
                        have HW := hid (wt_hit un (rowEdges nds nds.length q ++ (row.take j).map (fun b => (q, b))) q bb hne)
                        have huq : un q < k := by
                          rw [← HUN.out]
                          obtain ⟨a', p', ha', hp', hk'⟩ := item_of nds (show q < first nds nds.length by rw [HTT.out]; exact hlt)
                          rw [hk', unit_at nds ha' hp', ← HTT.out]
                          exact first_lt nds ha' (Nat.zero_le _)
                        have hwl : wt un (rowEdges nds nds.length q ++ (row.take j).map (fun b => (q, b))) (un q) ≤ 65536 := by
                          refine Nat.le_trans (wt_length _ _ _) ?_
                          simp only [List.length_append, List.length_map, List.length_take]
                          omega
                        have dw := HEj.out.wait.cell huq
                        have fw := HEj.out.wait.frozen (un q)
                        have HEW := hid ((HEj.out.setW (un q) (wt un (rowEdges nds nds.length q ++ (row.take j).map (fun b => (q, b))) (un q) + 1)))
                        rw [HW.out, List.append_assoc, ← HTS.out] at HEW
                        generalize wt un (rowEdges nds nds.length q ++ (row.take j).map (fun b => (q, b))) (un q) = wv at *
                        have k9 : IntKind.i64.wrap ((wv : Int) + 1) = ((wv + 1 : Nat) : Int) := by rw [IntKind.wrap_i64]; omega
                        have i4 : (un q : Int) < (k : Int) := by omega
                        clear hne hwl
                        go_wp2_with fail
                        go_quiet (fail)
                        go_wp2_with fail
                        refine wp_region_held_drew (S := (fun W => W.cell? ⟨w.heap.size + 2, 0, none⟩ = some (.pointer (some ⟨w.heap.size + 1, 0, none⟩)) ∧ W.cell? ⟨w.heap.size + 1, 5, none⟩ = some (.slice (some ⟨bN + 3, 0, none⟩) k k) ∧ W.cell? ⟨w.heap.size + 1, 4, none⟩ = some (.slice (some ⟨bN + 2, 0, none⟩) k k) ∧ W.cell? ⟨bN + 2, q, none⟩ = some (.int .i64 ((un q : Nat) : Int)))) (by kernel_rfl) ⟨d1, d5, d4, uq⟩ (fun hHeld => ?_)
                        refine wpAnyH_take (i := 0) (oi := ?oi0y) (v := ?v0y) ?hi0y ?hn0y ?hf0y ?hr0y ?hq0y ?hy0y (by assumption) ?rest0y
                        case hi0y => (simp only [List.getElem?_toArray, List.getElem?_cons_zero]; rfl)
                        case hn0y => kernel_rfl
                        case hf0y => kernel_rfl
                        case hr0y => kernel_rfl
                        case hq0y => exact fun _ _ _ h => h
                        case hy0y => (refine Or.inl ⟨by rfl, ?_⟩; intro w hSw; go_simp; try with_reducible rfl)
                        try simp only [Act.put, List.setIfInBounds_toArray, List.set_cons_zero, List.set_cons_succ]
                        refine wpAnyH_take (i := 1) (oi := ?oi1y) (v := ?v1y) ?hi1y ?hn1y ?hf1y ?hr1y ?hq1y ?hy1y (by assumption) ?rest1y
                        case hi1y => (simp only [List.getElem?_toArray, List.getElem?_cons_zero, List.getElem?_cons_succ]; rfl)
                        case hn1y => kernel_rfl
                        case hf1y => kernel_rfl
                        case hr1y => kernel_rfl
                        case hq1y => exact fun _ _ _ h => h
                        case hy1y => (refine Or.inl ⟨by rfl, ?_⟩; intro w hSw; go_simp; try with_reducible rfl)
                        try simp only [Act.put, List.setIfInBounds_toArray, List.set_cons_zero, List.set_cons_succ]
                        refine wpAnyH_take (i := 2) (oi := ?oi2y) (v := ?v2y) ?hi2y ?hn2y ?hf2y ?hr2y ?hq2y ?hy2y (by assumption) ?rest2y
                        case hi2y => (simp only [List.getElem?_toArray, List.getElem?_cons_zero, List.getElem?_cons_succ]; rfl)
                        case hn2y => kernel_rfl
                        case hf2y => kernel_rfl
                        case hr2y => kernel_rfl
                        case hq2y => exact fun _ _ _ h => h
                        case hy2y => (refine Or.inl ⟨by rfl, ?_⟩; intro w hSw; go_simp; try with_reducible rfl)
                        try simp only [Act.put, List.setIfInBounds_toArray, List.set_cons_zero, List.set_cons_succ]
                        refine wpAnyH_take (i := 3) (oi := ?oi3y) (v := ?v3y) ?hi3y ?hn3y ?hf3y ?hr3y ?hq3y ?hy3y (by assumption) ?rest3y
                        case hi3y => (simp only [List.getElem?_toArray, List.getElem?_cons_zero, List.getElem?_cons_succ]; rfl)
                        case hn3y => kernel_rfl
                        case hf3y => kernel_rfl
                        case hr3y => kernel_rfl
                        case hq3y => exact fun _ _ _ h => h
                        case hy3y => (refine Or.inl ⟨by rfl, ?_⟩; intro w hSw; go_simp; try with_reducible rfl)
                        try simp only [Act.put, List.setIfInBounds_toArray, List.set_cons_zero, List.set_cons_succ]
                        refine wpAnyH_take (i := 4) (oi := ?oi4y) (v := ?v4y) ?hi4y ?hn4y ?hf4y ?hr4y ?hq4y ?hy4y (by assumption) ?rest4y
                        case hi4y => (simp only [List.getElem?_toArray, List.getElem?_cons_zero, List.getElem?_cons_succ]; rfl)
                        case hn4y => kernel_rfl
                        case hf4y => kernel_rfl
                        case hr4y => kernel_rfl
                        case hq4y => exact fun _ _ _ h => h
                        case hy4y => (refine Or.inl ⟨by rfl, ?_⟩; intro w hSw; go_simp; try with_reducible rfl)
                        try simp only [Act.put, List.setIfInBounds_toArray, List.set_cons_zero, List.set_cons_succ]
                        refine wpAnyH_take (i := 5) (oi := ?oi5y) (v := ?v5y) ?hi5y ?hn5y ?hf5y ?hr5y ?hq5y ?hy5y (by assumption) ?rest5y
                        case hi5y => (simp only [List.getElem?_toArray, List.getElem?_cons_zero, List.getElem?_cons_succ]; rfl)
                        case hn5y => kernel_rfl
                        case hf5y => kernel_rfl
                        case hr5y => kernel_rfl
                        case hq5y => exact fun _ _ _ h => h
                        case hy5y => (refine Or.inl ⟨by rfl, ?_⟩; intro w hSw; go_simp; try with_reducible rfl)
                        try simp only [Act.put, List.setIfInBounds_toArray, List.set_cons_zero, List.set_cons_succ]
                        refine wpAnyH_take (i := 6) (oi := ?oi6y) (v := ?v6y) ?hi6y ?hn6y ?hf6y ?hr6y ?hq6y ?hy6y (by assumption) ?rest6y
                        case hi6y => (simp only [List.getElem?_toArray, List.getElem?_cons_zero, List.getElem?_cons_succ]; rfl)
                        case hn6y => kernel_rfl
                        case hf6y => kernel_rfl
                        case hr6y => kernel_rfl
                        case hq6y => exact fun _ _ _ h => h
                        case hy6y => (refine Or.inl ⟨by rfl, ?_⟩; intro w hSw; go_simp; try with_reducible rfl)
                        try simp only [Act.put, List.setIfInBounds_toArray, List.set_cons_zero, List.set_cons_succ]
                        refine wpAnyH_take (i := 7) (oi := ?oi7y) (v := ?v7y) ?hi7y ?hn7y ?hf7y ?hr7y ?hq7y ?hy7y (by assumption) ?rest7y
                        case hi7y => (simp only [List.getElem?_toArray, List.getElem?_cons_zero, List.getElem?_cons_succ]; rfl)
                        case hn7y => kernel_rfl
                        case hf7y => kernel_rfl
                        case hr7y => kernel_rfl
                        case hq7y => exact fun _ _ _ h => h
                        case hy7y => (refine Or.inl ⟨by rfl, ?_⟩; intro w hSw; go_simp; try with_reducible rfl)
                        try simp only [Act.put, List.setIfInBounds_toArray, List.set_cons_zero, List.set_cons_succ]
                        refine wpAnyH_take (i := 8) (oi := ?oi8y) (v := ?v8y) ?hi8y ?hn8y ?hf8y ?hr8y ?hq8y ?hy8y (by assumption) ?rest8y
                        case hi8y => (simp only [List.getElem?_toArray, List.getElem?_cons_zero, List.getElem?_cons_succ]; rfl)
                        case hn8y => kernel_rfl
                        case hf8y => kernel_rfl
                        case hr8y => kernel_rfl
                        case hq8y => exact fun _ _ _ h => h
                        case hy8y => (refine Or.inl ⟨by rfl, ?_⟩; intro w hSw; go_simp; try with_reducible rfl)
                        try simp only [Act.put, List.setIfInBounds_toArray, List.set_cons_zero, List.set_cons_succ]
                        refine wpAnyH_take (i := 9) (oi := ?oi9y) (v := ?v9y) ?hi9y ?hn9y ?hf9y ?hr9y ?hq9y ?hy9y (by assumption) ?rest9y
                        case hi9y => (simp only [List.getElem?_toArray, List.getElem?_cons_zero, List.getElem?_cons_succ]; rfl)
                        case hn9y => kernel_rfl
                        case hf9y => kernel_rfl
                        case hr9y => kernel_rfl
                        case hq9y => exact fun _ _ _ h => h
                        case hy9y => (refine Or.inl ⟨by rfl, ?_⟩; intro w hSw; go_simp; try with_reducible rfl)
                        try simp only [Act.put, List.setIfInBounds_toArray, List.set_cons_zero, List.set_cons_succ]
                        refine wpAnyH_take (i := 10) (oi := ?oi10y) (v := ?v10y) ?hi10y ?hn10y ?hf10y ?hr10y ?hq10y ?hy10y (by assumption) ?rest10y
                        case hi10y => (simp only [List.getElem?_toArray, List.getElem?_cons_zero, List.getElem?_cons_succ]; rfl)
                        case hn10y => kernel_rfl
                        case hf10y => kernel_rfl
                        case hr10y => kernel_rfl
                        case hq10y => exact fun _ _ _ h => h
                        case hy10y => (refine Or.inl ⟨by rfl, ?_⟩; intro w hSw; go_simp; try with_reducible rfl)
                        try simp only [Act.put, List.setIfInBounds_toArray, List.set_cons_zero, List.set_cons_succ]
                        refine wpAnyH_take (i := 11) (oi := ?oi11y) (v := ?v11y) ?hi11y ?hn11y ?hf11y ?hr11y ?hq11y ?hy11y (by assumption) ?rest11y
                        case hi11y => (simp only [List.getElem?_toArray, List.getElem?_cons_zero, List.getElem?_cons_succ]; rfl)
                        case hn11y => kernel_rfl
                        case hf11y => kernel_rfl
                        case hr11y => kernel_rfl
                        case hq11y => exact fun _ _ _ h => h
                        case hy11y => (refine Or.inl ⟨by rfl, ?_⟩; intro w hSw; go_simp; try with_reducible rfl)
                        try simp only [Act.put, List.setIfInBounds_toArray, List.set_cons_zero, List.set_cons_succ]
                        refine wpAnyH_ready (rs := [12]) (by kernel_rfl) (by simp) ?_
                        refine AllReadyH.cons (o := ?oi12y) ?hi12y ?hk12y AllReadyH.nil
                        case hi12y => (simp only [List.getElem?_toArray, List.getElem?_cons_zero, List.getElem?_cons_succ]; rfl)
                        intro K hK
                        go_simp
                        refine hK.out _ _ hHeld (fun hHeld => ?_)
                        clear hK K
                        try simp only [Act.put, List.setIfInBounds_toArray, List.set_cons_zero, List.set_cons_succ]
                        refine wpAnyH_take (i := 13) (oi := ?oi13y) (v := ?v13y) ?hi13y ?hn13y ?hf13y ?hr13y ?hq13y ?hy13y (by assumption) ?rest13y
                        case hi13y => (simp only [List.getElem?_toArray, List.getElem?_cons_zero, List.getElem?_cons_succ]; rfl)
                        case hn13y => kernel_rfl
                        case hf13y => kernel_rfl
                        case hr13y => kernel_rfl
                        case hq13y => exact fun _ _ _ h => h
                        case hy13y => (refine Or.inl ⟨by rfl, ?_⟩; intro w hSw; go_simp; try with_reducible rfl)
                        try simp only [Act.put, List.setIfInBounds_toArray, List.set_cons_zero, List.set_cons_succ]
                        refine wpAnyH_take (i := 14) (oi := ?oi14y) (v := ?v14y) ?hi14y ?hn14y ?hf14y ?hr14y ?hq14y ?hy14y (by assumption) ?rest14y
                        case hi14y => (simp only [List.getElem?_toArray, List.getElem?_cons_zero, List.getElem?_cons_succ]; rfl)
                        case hn14y => kernel_rfl
                        case hf14y => kernel_rfl
                        case hr14y => kernel_rfl
                        case hq14y => exact fun _ _ _ h => h
                        case hy14y => (refine Or.inl ⟨by rfl, ?_⟩; intro w hSw; go_simp; try with_reducible rfl)
                        try simp only [Act.put, List.setIfInBounds_toArray, List.set_cons_zero, List.set_cons_succ]
                        refine wpAnyH_ready (rs := [15]) (by kernel_rfl) (by simp) ?_
                        refine AllReadyH.cons (o := ?oi15y) ?hi15y ?hk15y AllReadyH.nil
                        case hi15y => (simp only [List.getElem?_toArray, List.getElem?_cons_zero, List.getElem?_cons_succ]; rfl)
                        intro K hK
                        go_simp
                        refine hK.out _ _ ⟨cell_set hHeld.1 (by simp; omega) _, cell_set hHeld.2.1 (by simp; omega) _, cell_set hHeld.2.2.1 (by simp; omega) _, cell_set hHeld.2.2.2 (by simp) _⟩ (fun hHeld => ?_)
                        clear hK K
                        try simp only [Act.put]
                        refine wpAnyH_done (by kernel_rfl) ?_ _
                        go_wp2_with fail
                        go_roundw
                        case rel => exact ⟨j + 1, by omega, by go_num, (HEW.out.drewN _).drew⟩
                        case measure => simp [intOf]; omega
                    · have ej : j = row.length := by omega
                      subst ej
                      have hre := HRS.out
                      rw [List.take_length, ← hre] at HEj
                      clear hre
                      go_wp2_with fail
                      go_roundw
                      case rel => exact ⟨q + 1, by omega, by go_num, HEj.out⟩
                      case measure => simp [intOf]; omega
                · have eq : q = k := by omega
                  subst eq
                  have hra := rowEdges_all nds nds.length
                  rw [HTT.out] at hra
                  rw [hra] at HE
                  clear hra
                  have c1 := HE.out.cell SR.out.var (by simp; omega) (by simp; omega)
                  go_wp2_with fail
                  go_ret
                  have hBE : Below w.heap.size w wr := BL.out.trans ⟨HE.out.os, HE.out.tape, HE.out.output, Nat.le_of_eq HE.out.size.symm, fun z hz => HE.out.blk z (by omega) (by omega)⟩
                  refine ⟨bN, S5, ra, rc, U, V, rfl, ?_⟩
                  rw [HTT.out]
                  refine ⟨hBE, SR.out.str.of_block (HE.out.blk _ (by omega) (by omega)), SY.out, hbb, FS.out.of_block (HE.out.blk _ (by omega) (by omega)), RIN6.out.blk (fun z h1 h2 => HE.out.blk z (by omega) (by omega)), HJ.out.blk (fun z hz => HE.out.blk z (by omega) (by omega)) (Nat.le_of_eq HE.out.size.symm), ?_, ?_, RP6.out.of_block (HE.out.blk _ (by omega) (by omega))⟩
                  · rw [HUN.out]; exact HE.out.unit
                  · rw [HUN.out]; exact HE.out.wait
end Go.Proofs.Qxb6602369a
