/-
  SEAT b6602369a. 'Rows.FnNewSorterNumbersItemsAndTheirNeedsSaid': THE WALK.
-/
import Derived.Test.Qxb6602369aZZ
namespace Go.Proofs.Qxb6602369a
open Go.RowKit
namespace Law

theorem first_sizes {nds : List Nd} (h : Sizes nds) : ∀ k, k ≤ nds.length → first nds k ≤ k * 65537
  | 0, _ => Nat.le_refl _
  | k + 1, hk => by
    have h1 := first_sizes h k (by omega)
    have h2 := (h.2 k hk).2.1
    simp only [first]
    omega

theorem prev_less (nds : List Nd) {n k : Nat} (hk : k + 1 < first nds n) : ((refs nds n).getD k (0, 0)).1 < ((refs nds n).getD (k + 1) (0, 0)).1 ∨ (((refs nds n).getD k (0, 0)).1 = ((refs nds n).getD (k + 1) (0, 0)).1 ∧ ((refs nds n).getD k (0, 0)).2 < ((refs nds n).getD (k + 1) (0, 0)).2) := by
  obtain ⟨a, p, ha, hp, e⟩ := item_of nds (show k < first nds n by omega)
  obtain ⟨a', p', ha', hp', e'⟩ := item_of nds hk
  have r1 := refs_at nds ha hp
  have r2 := refs_at nds ha' hp'
  rw [← e] at r1
  rw [← e'] at r2
  rw [r1, r2]
  show a < a' ∨ (a = a' ∧ p < p')
  rcases Nat.lt_trichotomy a a' with q | q | q
  · exact .inl q
  · subst q; exact .inr ⟨rfl, by omega⟩
  · have := first_lt nds q hp'; omega

theorem pre_zero (nds : List Nd) (n k : Nat) : pre nds n k 0 = rowEdges nds n k := by simp [pre]
theorem pre_succ (nds : List Nd) (n k j : Nat) (hj : j < (nb (edges nds n) k).length) : pre nds n k (j + 1) = pre nds n k j ++ [(k, (nb (edges nds n) k).getD j 0)] := by
  unfold pre
  rw [take_snoc _ 0 _ hj, List.map_append, List.append_assoc]
  rfl
theorem pre_end (nds : List Nd) (n k : Nat) (h : k < first nds n) : pre nds n k (nb (edges nds n) k).length = rowEdges nds n (k + 1) := by
  unfold pre
  rw [List.take_length, rowEdges_succ nds n k h]
theorem seen_step (nds : List Nd) (q j bb x : Nat) : (if x = bb then Value.int .i64 (((mb (pre nds nds.length q j) bb).length + 1 : Nat) : Int) else .int .i64 (((mb (pre nds nds.length q j) x).length : Nat) : Int)) = .int .i64 (((mb (pre nds nds.length q j ++ [(q, bb)]) x).length : Nat) : Int) := by
  rw [← mb_push]
  by_cases e : x = bb
  · subst e
    rw [if_pos rfl, upd_same]
    simp
  · rw [if_neg e, upd_other _ _ _ e]
theorem others_le (own : Nat) (rs : List (Int × Int)) : others own rs ≤ rs.length := List.length_filter_le _ _
theorem sum_take_le (own : Nat) (ps : List (List (Int × Int))) (h : ∀ i, i < ps.length → (ps.getD i []).length ≤ 65536) : ∀ j, j ≤ ps.length → ((ps.take j).map (others own)).sum ≤ j * 65536
  | 0, _ => by simp
  | j + 1, hj => by
    rw [take_snoc ps [] j hj, List.map_append, List.sum_append]
    have h1 := sum_take_le own ps h j (by omega)
    have h2 := h j hj
    have h3 := others_le own (ps.getD j [])
    simp only [List.map_cons, List.map_nil, List.sum_cons, List.sum_nil]
    omega

set_option maxRecDepth 100000 in
set_option maxHeartbeats 8000000 in
theorem walk (nds : List Nd) (a : Option Addr) (b o c : Nat) (w : World) (hL : Lens nds) (hN : NodesAt w a b o nds) :
    Calls Try.prog 7 #[.slice a nds.length c] w fun e w' => e = .returned (.bool true) ∧ Below w.heap.size w w' := by
  have HN := hid hN
  have HL := hid hL
  clear hN hL
  go_enter Try.func7, Try.ntmps7
  go_wp2_with fail
  refine (bytes23_any nds a b o c w HL.out HN.out).mono ?_
  rintro e w1 ⟨β, rfl, hd1, _⟩
  have HD1 := hid hd1
  clear hd1
  cases β with
  | false =>
    go_wp2_with fail
    go_ret
    exact ⟨rfl, HD1.out.below _⟩
  | true =>
    go_wp2_with fail
    refine (bytes15_any nds a b o c w1 HL.out (HN.out.below (HD1.out.below _))).mono ?_
    rintro e w2 ⟨v, rfl, hd2, hv⟩
    have HD2 := hid (HD1.out.trans hd2)
    clear hd2
    by_cases hv1 : 1048576 < v
    · go_wp2_with fail
      go_ret
      exact ⟨rfl, HD2.out.below _⟩
    · obtain ⟨hZ, hC⟩ := hv (by omega)
      have HZ := hid hZ
      have hn := hZ.1
      clear hv hZ
      go_wp2_with fail
      refine (names24_any nds a b o c w2 HZ.out (HN.out.below (HD2.out.below _))).mono ?_
      rintro e w3 ⟨β, rfl, hd3, hNm⟩
      have HD3 := hid (HD2.out.trans hd3)
      clear hd3
      cases β with
      | false =>
        go_wp2_with fail
        go_ret
        exact ⟨rfl, HD3.out.below _⟩
      | true =>
        have HNM := hid (hNm rfl)
        clear hNm HD1 HD2
        have HN3 := hid (HN.out.below (HD3.out.below _))
        go_wp2_with fail
        go_loop [4, 5] (fun s i => ∃ k : Nat, k ≤ nds.length ∧ i = .int .i64 k ∧ s = .int .i64 ((nds.length + (first nds k - k) : Nat) : Int)) (fun _ i => nds.length - (intOf i).toNat)
        case atStart => exact ⟨0, Nat.zero_le _, rfl, rfl⟩
        case round =>
          obtain ⟨k, hk, rfl, rfl⟩ := hrel
          have hfk := first_sizes HZ.out k hk
          have hlf := le_first nds k
          by_cases hlt : k < nds.length
          · have ha := HN3.out.addr (by omega)
            subst ha
            obtain ⟨u, v, n1, ⟨a1, b1, o1, c1, hu, _⟩, n2, ⟨a2, b2, o2, c2, hv, _⟩, n3⟩ := HN3.out.node k hlt
            subst hu hv
            have e1 : (nod nds k).parts.length = pl nds k := rfl
            rw [e1] at n2
            have z2 := (HZ.out.2 k hlt).2.1
            have HF := hid (show nds.length + (first nds (k + 1) - (k + 1)) = nds.length + (first nds k - k) + pl nds k by simp only [first]; omega)
            have hb1 : first nds k - k ≤ 65536 * 65537 := by
              have : k * 65537 ≤ 65536 * 65537 := Nat.mul_le_mul_right _ (by omega)
              omega
            generalize first nds k - k = fk at *
            have k1 : IntKind.i64.wrap (((nds.length + fk : Nat) : Int) + (pl nds k : Int)) = ((nds.length + fk + pl nds k : Nat) : Int) := by rw [IntKind.wrap_i64]; omega
            have k2 : IntKind.i64.wrap ((nds.length : Int) + (fk : Int) + (pl nds k : Int)) = ((nds.length + fk + pl nds k : Nat) : Int) := by rw [IntKind.wrap_i64]; omega
            have i1 : (k : Int) < (nds.length : Int) := by omega
            clear e1 n1 n3
            go_wp2_with fail
            go_round
            case rel => exact ⟨k + 1, by omega, by go_num, by rw [HF.out]; first | rfl | go_num⟩
            case measure => simp [intOf]; omega
          · have ek : k = nds.length := by omega
            subst ek
            have e1 : nds.length + (first nds nds.length - nds.length) = first nds nds.length := by omega
            rw [e1]
            generalize hTT : first nds nds.length = T at *
            have HTT := hid hTT
            clear hTT e1
            by_cases hT : 65536 < T
            · go_wp2_with fail
              go_ret
              exact ⟨rfl, HD3.out.below _⟩
            · have hT' : T ≤ 65536 := by omega
              go_wp2_with fail
              refine (cloneNodes_any nds a b o c w3 HZ.out HN3.out).mono ?_
              rintro e w4 ⟨a3, b3, o3, c3, rfl, hN4, hb4⟩
              have HN4 := hid hN4
              have HB4 := hid ((HD3.out.below w.heap.size).trans (hb4.mono (by obtain ⟨q, hq⟩ := HD3.out; rw [hq]; exact Nat.le_refl _)))
              clear hN4 hb4 HN3 HN HD3
              go_wp2_with fail
              refine (toGraph_any nds a3 b3 o3 c3 w4 HZ.out HN4.out).mono ?_
              rintro e w5 ⟨a4, b4, o4, c4, rfl, hN5, hb5⟩
              have HN5 := hid hN5
              have HM5 := hid (HN4.out.below hb5)
              have HB5 := hid (HB4.out.trans (hb5.mono HB4.out.size))
              clear hN5 hb5 HN4 HB4
              go_wp2_with fail
              refine (zz_any nds a4 b4 o4 c4 w5 HN5.out (by rw [HTT.out]; exact hT') hC HNM.out).mono ?_
              rintro e w6 ⟨bN, S, ra, rc, U, V, rfl, hO⟩
              rw [HTT.out] at hO ⊢
              have HO := hid hO
              have HM6 := hid (HM5.out.below hO.below)
              have HB6 := hid (HB5.out.trans (hO.below.mono HB5.out.size))
              clear hO HM5 HB5 HN5 HL
              go_wp2_with fail
              go_loopw [14] (fun i wr => ∃ k : Nat, k ≤ T ∧ i = .int .i64 k ∧ Below w6.heap.size w6 wr) (fun i _ => T - (intOf i).toNat)
              case atStart => exact ⟨0, Nat.zero_le _, rfl, Below.refl _ _⟩
              case round =>
                obtain ⟨k, hk, rfl, hb⟩ := hrel
                have HB := hid hb
                clear hb
                by_cases hlt : k < T
                · obtain ⟨a', p', ha', hp', hk'⟩ := item_of nds (show k < first nds nds.length by rw [HTT.out]; exact hlt)
                  have hrk := refs_at nds ha' hp'
                  rw [← hk'] at hrk
                  have HK' := hid hk'
                  clear hk'
                  obtain ⟨g, hg1, hg2⟩ := HO.out.ref
                  have hlr := refs_length nds nds.length
                  rw [HTT.out] at hlr
                  obtain ⟨hra, hgl, hgh⟩ := hg1 (by omega)
                  subst hra
                  have i1 : (k : Int) < (T : Int) := by omega
                  have i2 : (a' : Int) < (nds.length : Int) := by omega
                  have ha3 := HM6.out.addr (by omega)
                  subst ha3
                  obtain ⟨u, v, n1, ⟨a1, b1, o1, c1, hu, hru⟩, n2, ⟨a2, b2, o2, c2, hv, hpv⟩, n3⟩ := HM6.out.node a' ha'
                  subst hu hv
                  have e1 : (nod nds a').parts.length = pl nds a' := rfl
                  rw [e1] at n2
                  have q0 := cell_alloc (below_cell HB.out (hg2 k (by omega)).1) (.cells #[.int .i64 (a' : Int), .int .i64 (p' : Int)] 49)
                  have q1 := cell_alloc (below_cell HB.out (hg2 k (by omega)).2) (.cells #[.int .i64 (a' : Int), .int .i64 (p' : Int)] 49)
                  have s0 := below_cell HB.out (hg2 k (by omega)).1
                  have s1 := below_cell HB.out (hg2 k (by omega)).2
                  rw [hrk] at q0 q1 s0 s1
                  simp only [] at q0 q1 s0 s1
                  have m2 := cell_alloc (below_cell HB.out n2) (.cells #[.int .i64 (a' : Int), .int .i64 (p' : Int)] 49)
                  have r0 := cell_new wr #[.int .i64 (a' : Int), .int .i64 (p' : Int)] 49 0 _ rfl
                  have r1 := cell_new wr #[.int .i64 (a' : Int), .int .i64 (p' : Int)] 49 1 _ rfl
                  have hszr := HB.out.size
                  have BA := hid (HB.out.alloc (by omega) (.cells #[.int .i64 (a' : Int), .int .i64 (p' : Int)] 49))
                  have t1 : decide ((a' : Int) < 0) = false := by simp
                  have t2 : decide (nds.length ≤ a') = false := by simp; omega
                  have t3 : decide ((p' : Int) < 0) = false := by simp
                  have t4 : decide (pl nds a' < p') = false := by simp; omega
                  cases k with
                  | zero =>
                    as_aux_lemma =>
                      clear hru hpv n1 n2 n3 e1 hrk
                      go_wp2_with fail
                      go_quiet (fail)
                      go_wp2_with fail
                      go_quiet (fail)
                      go_wp2_with fail
                      go_roundw
                      case rel => exact ⟨0 + 1, by omega, by go_num, BA.out.trans ⟨rfl, rfl, rfl, Nat.le_refl _, fun _ _ => rfl⟩⟩
                      case measure => simp [intOf]; omega
                  | succ k =>
                    as_aux_lemma =>
                      have hless := prev_less nds (n := nds.length) (k := k) (by rw [HTT.out]; exact hlt)
                      have x0 := cell_alloc (below_cell HB.out (hg2 k (by omega)).1) (.cells #[.int .i64 (a' : Int), .int .i64 (p' : Int)] 49)
                      have x1 := cell_alloc (below_cell HB.out (hg2 k (by omega)).2) (.cells #[.int .i64 (a' : Int), .int .i64 (p' : Int)] 49)
                      rw [hrk] at hless
                      generalize ((refs nds nds.length).getD k (0, 0)).1 = y0 at x0 hless
                      generalize ((refs nds nds.length).getD k (0, 0)).2 = y1 at x1 hless
                      have HLS := hid hless
                      have k5 : IntKind.i64.wrap (((k + 1 : Nat) : Int) - 1) = (k : Int) := by rw [IntKind.wrap_i64]; omega
                      have k6 : IntKind.i64.wrap ((k : Int) + 1 - 1) = (k : Int) := by rw [IntKind.wrap_i64]; omega
                      have k7 : IntKind.i64.wrap (k : Int) = (k : Int) := by rw [IntKind.wrap_i64]; omega
                      have i4 : (k : Int) < (T : Int) := by omega
                      have i5 : (0 : Int) ≤ (k : Int) := by omega
                      clear hru hpv n1 n2 n3 e1 hrk hless q0 q1
                      go_wp2_with fail
                      go_quiet (fail)
                      go_wp2_with fail
                      generalize wr.alloc (.cells #[.int .i64 (a' : Int), .int .i64 (p' : Int)] 49) = wq at *
                      go_region_held3 (fun W => W.cell? ⟨g, k * 2, none⟩ = some (.int .i64 (y0 : Int)) ∧ W.cell? ⟨g, k * 2 + 1, none⟩ = some (.int .i64 (y1 : Int)) ∧ W.cell? ⟨wr.heap.size, 0, none⟩ = some (.int .i64 (a' : Int)) ∧ W.cell? ⟨wr.heap.size, 1, none⟩ = some (.int .i64 (p' : Int)))
                        (first | exact ⟨x0, x1, r0, r1⟩ | exact ⟨below_cell hbl x0, below_cell hbl x1, below_cell hbl r0, below_cell hbl r1⟩)
                        (first | (go_at_call 26; refine (less26_any y0 y1 a' p' _ HLS.out).mono ?_; rintro e wl ⟨rfl, hbl⟩))
                      have BL := hid (BA.out.trans ((show Below wq.heap.size wq wl from ⟨hbl.os, hbl.tape, hbl.output, hbl.size, hbl.block⟩).mono BA.out.size))
                      clear hbl
                      go_wp2_with fail
                      go_roundw
                      case rel => exact ⟨k + 1 + 1, by omega, by go_num, BL.out⟩
                      case measure => simp [intOf]; omega
                · have ek : T = k := by omega
                  subst ek
                  go_wp2_with fail
                  go_loopw [16] (fun i wr => ∃ q : Nat, q ≤ nds.length ∧ i = .int .i64 q ∧ Below w6.heap.size w6 wr) (fun i _ => nds.length - (intOf i).toNat)
                  case atStart => exact ⟨0, Nat.zero_le _, rfl, HB.out⟩
                  case round =>
                    obtain ⟨q, hq, rfl, hb⟩ := hrel
                    have HB3 := hid hb
                    clear hb HB
                    by_cases hlq : q < nds.length
                    · as_aux_lemma =>
                        have hfq := first_lt nds hlq (Nat.zero_le (pl nds q))
                        rw [HTT.out, Nat.add_zero] at hfq
                        have hrk := refs_at nds hlq (Nat.zero_le (pl nds q))
                        rw [Nat.add_zero] at hrk
                        obtain ⟨g, hg1, hg2⟩ := HO.out.ref
                        have hlr := refs_length nds nds.length
                        rw [HTT.out] at hlr
                        obtain ⟨hra, hgl, hgh⟩ := hg1 (by omega)
                        subst hra
                        have m0 := below_cell HB3.out (HO.out.fst.cell hlq)
                        rw [show fst nds nds.length q = first nds q by simp [fst, hlq]] at m0
                        have m1 := below_cell HB3.out (hg2 (first nds q) (by omega)).1
                        have m2 := below_cell HB3.out (hg2 (first nds q) (by omega)).2
                        rw [hrk] at m1 m2
                        simp only [] at m1 m2
                        generalize first nds q = fq at *
                        have t1 : decide ((fq : Int) < 0) = false := by simp
                        have t2 : decide (T ≤ fq) = false := by simp; omega
                        have i1 : (q : Int) < (nds.length : Int) := by omega
                        have i2 : (fq : Int) < (T : Int) := by omega
                        clear hrk hlr hg1 hg2
                        go_wp2_with fail
                        go_roundw
                        case rel => exact ⟨q + 1, by omega, by go_num, HB3.out⟩
                        case measure => simp [intOf]; omega
                    · have eq : q = nds.length := by omega
                      subst eq
                      go_wp2_with fail
                      go_loopw [18] (fun i wr => ∃ k : Nat, k ≤ T ∧ i = .int .i64 k ∧ Below w6.heap.size w6 wr) (fun i _ => T - (intOf i).toNat)
                      case atStart => exact ⟨0, Nat.zero_le _, rfl, HB3.out⟩
                      case round =>
                        obtain ⟨k, hk, rfl, hb⟩ := hrel
                        have HB := hid hb
                        clear hb HB3
                        by_cases hlt : k < T
                        · obtain ⟨a', p', ha', hp', hk'⟩ := item_of nds (show k < first nds nds.length by rw [HTT.out]; exact hlt)
                          have hrk := refs_at nds ha' hp'
                          rw [← hk'] at hrk
                          have HK' := hid hk'
                          clear hk'
                          obtain ⟨g, hg1, hg2⟩ := HO.out.ref
                          have hlr := refs_length nds nds.length
                          rw [HTT.out] at hlr
                          obtain ⟨hra, hgl, hgh⟩ := hg1 (by omega)
                          subst hra
                          have i1 : (k : Int) < (T : Int) := by omega
                          have i2 : (a' : Int) < (nds.length : Int) := by omega
                          have ha3 := HM6.out.addr (by omega)
                          subst ha3
                          obtain ⟨u, v, n1, ⟨a1, b1, o1, c1, hu, hru⟩, n2, ⟨a2, b2, o2, c2, hv, hpv⟩, n3⟩ := HM6.out.node a' ha'
                          subst hu hv
                          have e1 : (nod nds a').parts.length = pl nds a' := rfl
                          rw [e1] at n2
                          by_cases hp0 : p' = 0
                          · as_aux_lemma =>
                              have hD : RefsAt w6 a1 b1 o1 (nod nds a').needs := hru
                              have hrow := row_zero nds ha'
                              obtain rfl : p' = 0 := hp0
                              have hz1 := (HZ.out.2 a' ha').1
                              have hok : ∀ j, j < (nod nds a').needs.length → RefOk nds ((nod nds a').needs.getD j (0, 0)) := (HNM.out a' ha').1
                              have hwt := wt_zero HNM.out ha'
                              rw [Nat.add_zero] at HK'
                              obtain ⟨ak, ck, gk, hU, hadr, hcell⟩ := row_open (HO.out.jag.ownN k hlt)
                              have dq0 := HO.out.jag.needs.cell hlt
                              rw [hU] at dq0
                              have mu0 := HO.out.unt.cell hlt
                              have mw0 := HO.out.wait.cell hlt
                              have mp0 := HO.out.placed.cell hlt
                              have mf0 := HO.out.fst.cell ha'
                              rw [show fst nds nds.length a' = first nds a' by simp [fst, ha']] at mf0
                              have huk := unit_at nds ha' hp'
                              rw [Nat.add_zero] at huk
                              rw [← HK'.out] at huk hwt hrow
                              rw [huk] at mu0
                              rw [hwt] at mw0
                              have hnb := nb_lt HNM.out k
                              rw [HTT.out] at hnb
                              have hcf := hg2 (first nds a') (by have := first_lt nds ha' (Nat.zero_le (pl nds a')); rw [HTT.out] at this; omega)
                              have hra0 := refs_at nds ha' (Nat.zero_le (pl nds a'))
                              rw [Nat.add_zero] at hra0
                              rw [hra0] at hcf
                              have hfT := first_lt nds ha' (Nat.zero_le (pl nds a'))
                              rw [HTT.out, Nat.add_zero] at hfT
                              generalize nb (edges nds nds.length) k = row at *
                              have hrl : row.length = 0 + (nod nds a').needs.length := by rw [hrow]; simp 
                              have HROW := hid hrow
                              have HNB := hid hnb
                              have HCELL := hid hcell
                              have HADR := hid hadr
                              have HOK := hid hok
                              have HRD := hid hD
                              have HPVX := hid hpv
                              have MU := hid mu0
                              have MW := hid mw0
                              have MP := hid mp0
                              have MF := hid mf0
                              have HCF := hid hcf
                              have HG2 := hid hg2
                              have s0 := below_cell HB.out (hg2 k (by omega)).1
                              have s1 := below_cell HB.out (hg2 k (by omega)).2
                              rw [hrk] at s0 s1
                              simp only [] at s0 s1
                              have r0a := cell_new wr #[.int .i64 (a' : Int), .int .i64 0] 49 0 _ rfl
                              have N1a := cell_alloc (below_cell HB.out n1) (.cells #[.int .i64 (a' : Int), .int .i64 0] 49)
                              have N2a := cell_alloc (below_cell HB.out n2) (.cells #[.int .i64 (a' : Int), .int .i64 0] 49)
                              have N3a := cell_alloc (below_cell HB.out n3) (.cells #[.int .i64 (a' : Int), .int .i64 0] 49)
                              have R0 := cell_alloc r0a (.cells #[.slice a1 (nod nds a').needs.length c1, .slice a2 (pl nds a') c2, .bool (nod nds a').lead] 40)
                              have R1 := cell_alloc (cell_new wr #[.int .i64 (a' : Int), .int .i64 0] 49 1 _ rfl) (.cells #[.slice a1 (nod nds a').needs.length c1, .slice a2 (pl nds a') c2, .bool (nod nds a').lead] 40)
                              have V0 := cell_new (wr.alloc (.cells #[.int .i64 (a' : Int), .int .i64 0] 49)) #[.slice a1 (nod nds a').needs.length c1, .slice a2 (pl nds a') c2, .bool (nod nds a').lead] 40 0 _ rfl
                              have V1 := cell_new (wr.alloc (.cells #[.int .i64 (a' : Int), .int .i64 0] 49)) #[.slice a1 (nod nds a').needs.length c1, .slice a2 (pl nds a') c2, .bool (nod nds a').lead] 40 1 _ rfl
                              have hszw : (wr.alloc (.cells #[.int .i64 (a' : Int), .int .i64 0] 49)).heap.size = wr.heap.size + 1 := by simp
                              rw [hszw] at V0 V1
                              have hszr := HB.out.size
                              have BA := hid ((HB.out.alloc (by omega) (.cells #[.int .i64 (a' : Int), .int .i64 0] 49)).alloc (by simp; omega) (.cells #[.slice a1 (nod nds a').needs.length c1, .slice a2 (pl nds a') c2, .bool (nod nds a').lead] 40))
                              have dq := below_cell BA.out dq0
                              have k1 : IntKind.i64.wrap ((0 : Int) + ((nod nds a').needs.length : Int)) = ((0 + (nod nds a').needs.length : Nat) : Int) := by rw [IntKind.wrap_i64]; omega
                              have t1 : ((row.length : Int) != ((0 + (nod nds a').needs.length : Nat) : Int)) = false := by rw [hrl]; exact bne_self_eq_false _
                              have HRL := hid hrl
                              clear hrl hrow hnb hcell hadr hok hD hpv hru mu0 mw0 mp0 mf0 hcf hg2 hg1 hrk hlr hra0 huk hwt hU n1 n2 n3 e1 dq0
                              generalize hqD : (nod nds a').needs = D at *
                              have HQD := hid hqD
                              clear hqD
                              go_wp2_with fail
                              generalize (wr.alloc (.cells #[.int .i64 (a' : Int), .int .i64 0] 49)).alloc (.cells #[.slice a1 D.length c1, .slice a2 (pl nds a') c2, .bool (nod nds a').lead] 40) = w8 at *
                              generalize hbr : wr.heap.size = br at *
                              clear hbr r0a N1a N2a N3a s0 s1 k1 t1
                              go_loop [24] (fun i => ∃ j : Nat, j ≤ row.length ∧ i = .int .i64 j) (fun i => row.length - (intOf i).toNat)
                              case atStart => exact ⟨0, Nat.zero_le _, rfl⟩
                              case round =>
                                obtain ⟨j, hj, rfl⟩ := hrel
                                by_cases hlj : j < row.length
                                · obtain ⟨hak, hgk⟩ := HADR.out (by omega)
                                  subst hak
                                  have mr := below_cell BA.out (HCELL.out j hlj)
                                  have hbT := HNB.out j hlj
                                  generalize row.getD j 0 = bb at *
                                  have t1 : decide ((bb : Int) < 0) = false := by simp
                                  have t2 : decide (T ≤ bb) = false := by simp; omega
                                  have i5 : (j : Int) < (row.length : Int) := by omega
                                  have hjb : j ≤ 131072 := by have := HRL.out; omega
                                  go_wp2_with fail
                                  go_round
                                  case rel => exact ⟨j + 1, by omega, by go_num⟩
                                  case measure => simp [intOf]; omega
                                · have ej : j = row.length := by omega
                                  subst ej
                                  go_wp2_with fail
                                  go_quiet (fail)
                                  go_wp2_with fail
                                  clear dq
                                  go_loopw [25] (fun i wr => ∃ j : Nat, j ≤ D.length ∧ i = .int .i64 j ∧ Below w8.heap.size w8 wr) (fun i _ => D.length - (intOf i).toNat)
                                  case atStart => exact ⟨0, Nat.zero_le _, rfl, ⟨rfl, rfl, rfl, Nat.le_refl _, fun _ _ => rfl⟩⟩
                                  case round =>
                                    obtain ⟨j, hj, rfl, hb⟩ := hrel
                                    have B6 := hid (BA.out.trans (hb.mono BA.out.size))
                                    have HBW := hid hb
                                    clear hb
                                    by_cases hlj : j < D.length
                                    · as_aux_lemma =>
                                        have hokj := HOK.out j hlj
                                        have haD := HRD.out.addr (by omega)
                                        subst haD
                                        have hri : row.getD j 0 = item nds (D.getD j (0, 0)) := by rw [HROW.out]; simp [List.getD, hlj]
                                        obtain ⟨hak, hgk⟩ := HADR.out (by have := HRL.out; omega)
                                        subst hak
                                        have mr := below_cell B6.out (HCELL.out j (by have := HRL.out; omega))
                                        rw [hri] at mr
                                        have hil := item_lt hokj
                                        rw [HTT.out] at hil
                                        have hlr := refs_length nds nds.length
                                        rw [HTT.out] at hlr
                                        have f0 := below_cell B6.out (HG2.out (item nds (D.getD j (0, 0))) (by omega)).1
                                        have f1 := below_cell B6.out (HG2.out (item nds (D.getD j (0, 0))) (by omega)).2
                                        rw [refs_item hokj] at f0 f1
                                        have d0 := below_cell B6.out (HRD.out.node j hlj)
                                        have d1 := below_cell B6.out (HRD.out.part j hlj)
                                        obtain ⟨o1', o2', o3', o4'⟩ := hokj
                                        clear hri
                                        generalize D.getD j (0, 0) = rr at *
                                        obtain ⟨x1, x2⟩ := rr
                                        obtain ⟨q, rfl⟩ : ∃ q : Nat, x1 = (q : Int) := ⟨x1.toNat, by simp at o1'; omega⟩
                                        obtain ⟨pp, rfl⟩ : ∃ pp : Nat, x2 = (pp : Int) := ⟨x2.toNat, by simp at o3'; omega⟩
                                        simp only [Int.toNat_natCast] at f0 f1 d0 d1
                                        generalize item nds ((q : Int), (pp : Int)) = it at *
                                        have d0' := cell_alloc d0 (.cells #[.int .i64 (q : Int), .int .i64 (pp : Int)] 49)
                                        have d1' := cell_alloc d1 (.cells #[.int .i64 (q : Int), .int .i64 (pp : Int)] 49)
                                        have b0 := cell_new wr #[.int .i64 (q : Int), .int .i64 (pp : Int)] 49 0 _ rfl
                                        have b1' := cell_new wr #[.int .i64 (q : Int), .int .i64 (pp : Int)] 49 1 _ rfl
                                        have hs8 := HBW.out.size
                                        have BW2 := hid (HBW.out.alloc (by omega) (.cells #[.int .i64 (q : Int), .int .i64 (pp : Int)] 49))
                                        have hDl : D.length ≤ 65536 := hz1
                                        have k1 : IntKind.i64.wrap (j : Int) = (j : Int) := by rw [IntKind.wrap_i64]; omega
                                        have i5 : (j : Int) < (row.length : Int) := by have := HRL.out; omega
                                        have i6 : (it : Int) < (T : Int) := by omega
                                        have i7' : (j : Int) < (D.length : Int) := by omega
                                        clear o1' o2' o3' o4' hlr d0 d1
                                        go_wp2_with fail
                                        go_quiet (fail)
                                        go_wp2_with fail
                                        go_roundw
                                        case rel => exact ⟨j + 1, by omega, by go_num, BW2.out.trans ⟨rfl, rfl, rfl, Nat.le_refl _, fun _ _ => rfl⟩⟩
                                        case measure => simp [intOf]; omega
                                    · as_aux_lemma =>
                                        have ej : j = D.length := by omega
                                        subst ej
                                        have mu := below_cell B6.out MU.out
                                        have mf := below_cell B6.out MF.out
                                        have mp := below_cell B6.out MP.out
                                        have mw := below_cell B6.out MW.out
                                        have rr0 := below_cell HBW.out R0
                                        have rr1 := below_cell HBW.out R1
                                        have vv0 := below_cell HBW.out V0
                                        have vv1 := below_cell HBW.out V1
                                        generalize hfa : first nds a' = fa at *
                                        have t9 : ((k : Int) != (fa : Int)) = false := by have := HK'.out; simp; omega
                                        have i9 : (a' : Int) < (nds.length : Int) := by omega
                                        go_wp2_with fail
                                        go_quiet (fail)
                                        go_wp2_with fail
                                        have B6d := hid (show Below w6.heap.size w6 (wr.drewN nq) from B6.out.trans ⟨rfl, rfl, rfl, Nat.le_refl _, fun _ _ => rfl⟩)
                                        refine (count27_any D a1 b1 o1 c1 a' _ hz1 (HRD.out.below B6d.out)).mono ?_
                                        rintro e wc ⟨rfl, rfl⟩
                                        go_wp2_with fail
                                        go_loopw [27, 28] (fun s i wr => ∃ j : Nat, j ≤ pl nds a' ∧ i = .int .i64 j ∧ s = .int .i64 ((others a' D + (((nod nds a').parts.take j).map (others a')).sum : Nat) : Int) ∧ Below w8.heap.size w8 wr) (fun _ i _ => pl nds a' - (intOf i).toNat)
                                        case atStart => exact ⟨0, Nat.zero_le _, rfl, by simp, HBW.out.trans ⟨rfl, rfl, rfl, Nat.le_refl _, fun _ _ => rfl⟩⟩
                                        case round =>
                                          obtain ⟨j, hj, rfl, rfl, hb⟩ := hrel
                                          have HB7 := hid hb
                                          have B7 := hid (BA.out.trans (hb.mono BA.out.size))
                                          clear hb mu mf mp mw rr0 rr1 vv0 vv1
                                          have v1' := below_cell HB7.out V1
                                          have r0' := below_cell HB7.out R0
                                          have hsl := sum_take_le a' (nod nds a').parts (HZ.out.2 a' ha').2.2 j hj
                                          have hdl := others_le a' D
                                          have hDl : D.length ≤ 65536 := hz1
                                          have hpl2 := (HZ.out.2 a' ha').2.1
                                          have hjm : j * 65536 ≤ 65536 * 65536 := Nat.mul_le_mul_right _ (by omega)
                                          by_cases hlj : j < pl nds a'
                                          · as_aux_lemma =>
                                              have ha2 := HPVX.out.addr (by have : j < (nod nds a').parts.length := hlj; omega)
                                              subst ha2
                                              obtain ⟨vp, q1, ⟨a6, b6, o6, c6, hvp, hrp⟩⟩ := HPVX.out.cell j hlj
                                              subst hvp
                                              have m6 := below_cell B7.out q1
                                              have HRP := hid ((hrp.below B7.out).below (w' := wr.drew) ⟨rfl, rfl, rfl, Nat.le_refl _, fun _ _ => rfl⟩)
                                              have hpj := (HZ.out.2 a' ha').2.2 j hlj
                                              have hts : (((nod nds a').parts.take (j + 1)).map (others a')).sum = (((nod nds a').parts.take j).map (others a')).sum + others a' ((nod nds a').parts.getD j []) := by rw [take_snoc _ [] _ hlj]; simp
                                              have hopl := others_le a' ((nod nds a').parts.getD j [])
                                              clear hrp q1
                                              generalize (nod nds a').parts.getD j [] = ps at *
                                              have HTS := hid hts
                                              clear hts
                                              generalize (((nod nds a').parts.take j).map (others a')).sum = ss at *
                                              have CC := hid (count27_any ps a6 b6 o6 c6 a' wr.drew hpj HRP.out)
                                              generalize others a' ps = op at *
                                              generalize others a' D = od at *
                                              have k1 : IntKind.i64.wrap (((od + ss : Nat) : Int) + (op : Int)) = ((od + ss + op : Nat) : Int) := by rw [IntKind.wrap_i64]; omega
                                              have k2 : IntKind.i64.wrap ((od : Int) + (ss : Int) + (op : Int)) = ((od + ss + op : Nat) : Int) := by rw [IntKind.wrap_i64]; omega
                                              have i8 : (j : Int) < (pl nds a' : Int) := by omega
                                              have HK7 := hid (show od + (ss + op) = od + ss + op by omega)
                                              go_wp2_with fail
                                              go_region_held3 (fun W => W.cell? ⟨br + 1, 1, none⟩ = some (.slice (some ⟨b2, o2, none⟩) (pl nds a') c2) ∧ W.cell? ⟨b2, o2 + j, none⟩ = some (.slice a6 ps.length c6) ∧ W.cell? ⟨br, 0, none⟩ = some (.int .i64 (a' : Int)))
                                                (first | exact ⟨v1', m6, r0'⟩ | (simp only [*]; exact ⟨trivial, trivial, trivial⟩))
                                                (first | (go_at_call 27; refine Calls.mono CC.out ?_; rintro e wc ⟨rfl, rfl⟩))
                                              go_wp2_with fail
                                              go_roundw
                                              case rel => exact ⟨j + 1, by omega, by go_num, by rw [HTS.out, HK7.out]; first | rfl | go_num, HB7.out.trans ⟨rfl, rfl, rfl, Nat.le_refl _, fun _ _ => rfl⟩⟩
                                              case measure => simp [intOf]; omega
                                          · have ej : j = pl nds a' := by omega
                                            subst ej
                                            have hoth : others a' D + (((nod nds a').parts.take (pl nds a')).map (others a')).sum = oth nds a' := by
                                              unfold oth
                                              rw [HQD.out, show (nod nds a').parts.take (pl nds a') = (nod nds a').parts from List.take_length ..]
                                            rw [hoth]
                                            have mw := below_cell B7.out MW.out
                                            clear hoth
                                            generalize oth nds a' = oo at *
                                            go_wp2_with fail
                                            go_roundw
                                            case rel => exact ⟨k + 1, by omega, by go_num, B7.out⟩
                                            case measure => simp [intOf]; omega
                          · as_aux_lemma =>
                              obtain ⟨p, hpe⟩ : ∃ p, p' = p + 1 := ⟨p' - 1, by omega⟩
                              have hpp : p < pl nds a' := by omega
                              obtain ⟨vp, nq, ⟨a6, b6, o6, c6, hvp, hD⟩⟩ := hpv.cell p hpp
                              subst hvp
                              have ha2 := hpv.addr (by have : p < (nod nds a').parts.length := hpp; omega)
                              subst ha2
                              have hrow := row_part nds ha' hpp
                              have hz1 := (HZ.out.2 a' ha').2.2 p hpp
                              have hok := (HNM.out a' ha').2 p hpp
                              have hwt := wt_part HNM.out hpp
                              have hz2 := (HZ.out.2 a' ha').2.1
                              have hk2 : k = first nds a' + (p + 1) := by rw [← hpe]; exact HK'.out
                              have tp0 : ((p' : Int) == 0) = false := by simp; omega
                              have tp1 : (p' : Int) ≠ 0 := by omega
                              have k7 : IntKind.i64.wrap ((p' : Int) - 1) = (p : Int) := by rw [IntKind.wrap_i64]; omega
                              obtain ⟨ak, ck, gk, hU, hadr, hcell⟩ := row_open (HO.out.jag.ownN k hlt)
                              have dq0 := HO.out.jag.needs.cell hlt
                              rw [hU] at dq0
                              have mu0 := HO.out.unt.cell hlt
                              have mw0 := HO.out.wait.cell hlt
                              have mp0 := HO.out.placed.cell hlt
                              have mf0 := HO.out.fst.cell ha'
                              rw [show fst nds nds.length a' = first nds a' by simp [fst, ha']] at mf0
                              have huk := unit_at nds ha' hp'
                              rw [← HK'.out] at huk
                              rw [← hk2] at hwt hrow
                              clear hk2 hpe
                              rw [huk] at mu0
                              rw [hwt] at mw0
                              have hnb := nb_lt HNM.out k
                              rw [HTT.out] at hnb
                              have hcf := hg2 (first nds a') (by have := first_lt nds ha' (Nat.zero_le (pl nds a')); rw [HTT.out] at this; omega)
                              have hra0 := refs_at nds ha' (Nat.zero_le (pl nds a'))
                              rw [Nat.add_zero] at hra0
                              rw [hra0] at hcf
                              have hfT := first_lt nds ha' (Nat.zero_le (pl nds a'))
                              rw [HTT.out, Nat.add_zero] at hfT
                              generalize nb (edges nds nds.length) k = row at *
                              have hrl : row.length = 1 + ((nod nds a').parts.getD p []).length := by rw [hrow]; simp [Nat.add_comm]
                              have HROW := hid hrow
                              have HNB := hid hnb
                              have HCELL := hid hcell
                              have HADR := hid hadr
                              have HOK := hid hok
                              have HRD := hid hD
                              have HPVX := hid hpv
                              have MU := hid mu0
                              have MW := hid mw0
                              have MP := hid mp0
                              have MF := hid mf0
                              have HCF := hid hcf
                              have HG2 := hid hg2
                              have s0 := below_cell HB.out (hg2 k (by omega)).1
                              have s1 := below_cell HB.out (hg2 k (by omega)).2
                              rw [hrk] at s0 s1
                              simp only [] at s0 s1
                              have r0a := cell_new wr #[.int .i64 (a' : Int), .int .i64 (p' : Int)] 49 0 _ rfl
                              have N1a := cell_alloc (below_cell HB.out n1) (.cells #[.int .i64 (a' : Int), .int .i64 (p' : Int)] 49)
                              have N2a := cell_alloc (below_cell HB.out n2) (.cells #[.int .i64 (a' : Int), .int .i64 (p' : Int)] 49)
                              have N3a := cell_alloc (below_cell HB.out n3) (.cells #[.int .i64 (a' : Int), .int .i64 (p' : Int)] 49)
                              have R0 := cell_alloc r0a (.cells #[.slice a1 (nod nds a').needs.length c1, .slice (some ⟨b2, o2, none⟩) (pl nds a') c2, .bool (nod nds a').lead] 40)
                              have R1 := cell_alloc (cell_new wr #[.int .i64 (a' : Int), .int .i64 (p' : Int)] 49 1 _ rfl) (.cells #[.slice a1 (nod nds a').needs.length c1, .slice (some ⟨b2, o2, none⟩) (pl nds a') c2, .bool (nod nds a').lead] 40)
                              have V0 := cell_new (wr.alloc (.cells #[.int .i64 (a' : Int), .int .i64 (p' : Int)] 49)) #[.slice a1 (nod nds a').needs.length c1, .slice (some ⟨b2, o2, none⟩) (pl nds a') c2, .bool (nod nds a').lead] 40 0 _ rfl
                              have V1 := cell_new (wr.alloc (.cells #[.int .i64 (a' : Int), .int .i64 (p' : Int)] 49)) #[.slice a1 (nod nds a').needs.length c1, .slice (some ⟨b2, o2, none⟩) (pl nds a') c2, .bool (nod nds a').lead] 40 1 _ rfl
                              have hszw : (wr.alloc (.cells #[.int .i64 (a' : Int), .int .i64 (p' : Int)] 49)).heap.size = wr.heap.size + 1 := by simp
                              rw [hszw] at V0 V1
                              have hszr := HB.out.size
                              have BA := hid ((HB.out.alloc (by omega) (.cells #[.int .i64 (a' : Int), .int .i64 (p' : Int)] 49)).alloc (by simp; omega) (.cells #[.slice a1 (nod nds a').needs.length c1, .slice (some ⟨b2, o2, none⟩) (pl nds a') c2, .bool (nod nds a').lead] 40))
                              have dq := below_cell BA.out dq0
                              have nqa := below_cell BA.out nq
                              have i7 : (p : Int) < (pl nds a' : Int) := by omega
                              have k1 : IntKind.i64.wrap ((1 : Int) + (((nod nds a').parts.getD p []).length : Int)) = ((1 + ((nod nds a').parts.getD p []).length : Nat) : Int) := by rw [IntKind.wrap_i64]; omega
                              have t1 : ((row.length : Int) != ((1 + ((nod nds a').parts.getD p []).length : Nat) : Int)) = false := by rw [hrl]; exact bne_self_eq_false _
                              have HRL := hid hrl
                              clear hrl hrow hnb hcell hadr hok hD hpv hru mu0 mw0 mp0 mf0 hcf hg2 hg1 hrk hlr hra0 huk hwt hU n1 n2 n3 e1 dq0
                              generalize hqD : ((nod nds a').parts.getD p []) = D at *
                              have HQD := hid hqD
                              clear hqD
                              go_wp2_with fail
                              generalize (wr.alloc (.cells #[.int .i64 (a' : Int), .int .i64 (p' : Int)] 49)).alloc (.cells #[.slice a1 (nod nds a').needs.length c1, .slice (some ⟨b2, o2, none⟩) (pl nds a') c2, .bool (nod nds a').lead] 40) = w8 at *
                              generalize hbr : wr.heap.size = br at *
                              clear hbr r0a N1a N2a N3a s0 s1 k1 t1
                              go_loop [24] (fun i => ∃ j : Nat, j ≤ row.length ∧ i = .int .i64 j) (fun i => row.length - (intOf i).toNat)
                              case atStart => exact ⟨0, Nat.zero_le _, rfl⟩
                              case round =>
                                obtain ⟨j, hj, rfl⟩ := hrel
                                by_cases hlj : j < row.length
                                · obtain ⟨hak, hgk⟩ := HADR.out (by omega)
                                  subst hak
                                  have mr := below_cell BA.out (HCELL.out j hlj)
                                  have hbT := HNB.out j hlj
                                  generalize row.getD j 0 = bb at *
                                  have t1 : decide ((bb : Int) < 0) = false := by simp
                                  have t2 : decide (T ≤ bb) = false := by simp; omega
                                  have i5 : (j : Int) < (row.length : Int) := by omega
                                  have hjb : j ≤ 131072 := by have := HRL.out; omega
                                  go_wp2_with fail
                                  go_round
                                  case rel => exact ⟨j + 1, by omega, by go_num⟩
                                  case measure => simp [intOf]; omega
                                · have ej : j = row.length := by omega
                                  subst ej
                                  obtain ⟨hak, hgk⟩ := HADR.out (by have := HRL.out; omega)
                                  subst hak
                                  have mr0 := below_cell BA.out (HCELL.out 0 (by have := HRL.out; omega))
                                  rw [show row.getD 0 0 = first nds a' by rw [HROW.out]; rfl] at mr0
                                  have mc0 := below_cell BA.out HCF.out.1
                                  have mc1 := below_cell BA.out HCF.out.2
                                  try simp only [] at mc0 mc1
                                  have hrp : 0 < row.length := by have := HRL.out; omega
                                  have i8 : (first nds a' : Int) < (T : Int) := by omega
                                  generalize hfa : first nds a' = fa at *
                                  go_wp2_with fail
                                  go_quiet (fail)
                                  go_wp2_with fail
                                  clear dq mr0 mc0 mc1 nqa
                                  go_loopw [25] (fun i wr => ∃ j : Nat, j ≤ D.length ∧ i = .int .i64 j ∧ Below w8.heap.size w8 wr) (fun i _ => D.length - (intOf i).toNat)
                                  case atStart => exact ⟨0, Nat.zero_le _, rfl, ⟨rfl, rfl, rfl, Nat.le_refl _, fun _ _ => rfl⟩⟩
                                  case round =>
                                    obtain ⟨j, hj, rfl, hb⟩ := hrel
                                    have B6 := hid (BA.out.trans (hb.mono BA.out.size))
                                    have HBW := hid hb
                                    clear hb
                                    by_cases hlj : j < D.length
                                    · as_aux_lemma =>
                                        have hokj := HOK.out j hlj
                                        have haD := HRD.out.addr (by omega)
                                        subst haD
                                        have hri : row.getD (1 + j) 0 = item nds (D.getD j (0, 0)) := by rw [HROW.out]; simp [List.getD, Nat.add_comm 1 j, hlj]
                                        have mr := below_cell B6.out (HCELL.out (1 + j) (by have := HRL.out; omega))
                                        rw [hri] at mr
                                        have hil := item_lt hokj
                                        rw [HTT.out] at hil
                                        have hlr := refs_length nds nds.length
                                        rw [HTT.out] at hlr
                                        have f0 := below_cell B6.out (HG2.out (item nds (D.getD j (0, 0))) (by omega)).1
                                        have f1 := below_cell B6.out (HG2.out (item nds (D.getD j (0, 0))) (by omega)).2
                                        rw [refs_item hokj] at f0 f1
                                        have d0 := below_cell B6.out (HRD.out.node j hlj)
                                        have d1 := below_cell B6.out (HRD.out.part j hlj)
                                        obtain ⟨o1', o2', o3', o4'⟩ := hokj
                                        clear hri
                                        generalize D.getD j (0, 0) = rr at *
                                        obtain ⟨x1, x2⟩ := rr
                                        obtain ⟨q, rfl⟩ : ∃ q : Nat, x1 = (q : Int) := ⟨x1.toNat, by simp at o1'; omega⟩
                                        obtain ⟨pp, rfl⟩ : ∃ pp : Nat, x2 = (pp : Int) := ⟨x2.toNat, by simp at o3'; omega⟩
                                        simp only [Int.toNat_natCast] at f0 f1 d0 d1
                                        generalize item nds ((q : Int), (pp : Int)) = it at *
                                        have d0' := cell_alloc d0 (.cells #[.int .i64 (q : Int), .int .i64 (pp : Int)] 49)
                                        have d1' := cell_alloc d1 (.cells #[.int .i64 (q : Int), .int .i64 (pp : Int)] 49)
                                        have b0 := cell_new wr #[.int .i64 (q : Int), .int .i64 (pp : Int)] 49 0 _ rfl
                                        have b1' := cell_new wr #[.int .i64 (q : Int), .int .i64 (pp : Int)] 49 1 _ rfl
                                        have hs8 := HBW.out.size
                                        have BW2 := hid (HBW.out.alloc (by omega) (.cells #[.int .i64 (q : Int), .int .i64 (pp : Int)] 49))
                                        have hDl : D.length ≤ 65536 := hz1
                                        have k1 : IntKind.i64.wrap (1 + (j : Int)) = ((1 + j : Nat) : Int) := by rw [IntKind.wrap_i64]; omega
                                        have k2 : (1 + (j : Int)).toNat = 1 + j := by omega
                                        have i5 : ((1 + j : Nat) : Int) < (row.length : Int) := by have := HRL.out; omega
                                        have i5' : 1 + (j : Int) < (row.length : Int) := by have := HRL.out; omega
                                        have i6 : (it : Int) < (T : Int) := by omega
                                        have i7' : (j : Int) < (D.length : Int) := by omega
                                        clear o1' o2' o3' o4' hlr d0 d1
                                        go_wp2_with fail
                                        go_quiet (fail)
                                        go_wp2_with fail
                                        go_roundw
                                        case rel => exact ⟨j + 1, by omega, by go_num, BW2.out.trans ⟨rfl, rfl, rfl, Nat.le_refl _, fun _ _ => rfl⟩⟩
                                        case measure => simp [intOf]; omega
                                    · as_aux_lemma =>
                                        have ej : j = D.length := by omega
                                        subst ej
                                        have mu := below_cell B6.out MU.out
                                        have mf := below_cell B6.out MF.out
                                        have mp := below_cell B6.out MP.out
                                        have mw := below_cell B6.out MW.out
                                        have rr0 := below_cell HBW.out R0
                                        have rr1 := below_cell HBW.out R1
                                        have vv0 := below_cell HBW.out V0
                                        have vv1 := below_cell HBW.out V1
                                        have t9 : ((fa : Int) != (fa : Int)) = false := by simp
                                        have i9 : (a' : Int) < (nds.length : Int) := by omega
                                        go_wp2_with fail
                                        go_quiet (fail)
                                        go_wp2_with fail
                                        go_roundw
                                        case rel => exact ⟨k + 1, by omega, by go_num, B6.out.trans ⟨rfl, rfl, rfl, Nat.le_refl _, fun _ _ => rfl⟩⟩
                                        case measure => simp [intOf]; omega
                        · have ek : T = k := by omega
                          subst ek
                          have hmS := run_make_row' (P := Try.prog) 28 3 _ 8 Try.underlying28 info3 rfl .i64 .i64 T (by omega) (by omega)
                          obtain ⟨w8, hw8⟩ : ∃ w8, w8 = wr := ⟨_, rfl⟩
                          subst hw8
                          have RM := hid (show (w8.alloc (.cells (madeCells #[.int .i64 0] T) 3)).rowIs w8.heap.size 3 T (fun x => .int .i64 (((mb (rowEdges nds nds.length 0) x).length : Nat) : Int)) from World.rowIs_made w8 (.int .i64 0) T 3)
                          have hs8 := HB.out.size
                          go_wp2_with fail
                          go_loopw [30] (fun i wr => ∃ q : Nat, q ≤ T ∧ i = .int .i64 q ∧ Below w8.heap.size w8 wr ∧ wr.rowIs w8.heap.size 3 T (fun x => .int .i64 (((mb (rowEdges nds nds.length q) x).length : Nat) : Int))) (fun i _ => T - (intOf i).toNat)
                          case atStart => exact ⟨0, Nat.zero_le _, rfl, (Below.refl _ _).alloc (Nat.le_refl _) _, RM.out⟩
                          case round =>
                            obtain ⟨q, hq, rfl, hb, hr⟩ := hrel
                            have HB8 := hid hb
                            have HR8 := hid hr
                            clear hb hr hmS RM
                            by_cases hlq : q < T
                            · as_aux_lemma =>
                                obtain ⟨ak, ck, gk, hU, hadr, hcell⟩ := row_open (HO.out.jag.ownN q hlq)
                                have B8 := hid (HB.out.trans (HB8.out.mono hs8))
                                have dq0 := HO.out.jag.needs.cell hlq
                                rw [hU] at dq0
                                have dq := below_cell B8.out dq0
                                have hnb := nb_lt HNM.out q
                                rw [HTT.out] at hnb
                                have hrl := nb_length (edges nds nds.length) q
                                rw [edges_length] at hrl
                                have hpe := pre_end nds nds.length q (by rw [HTT.out]; exact hlq)
                                have hp0 := pre_zero nds nds.length q
                                have hps := fun j hj => pre_succ nds nds.length q j hj
                                have hsa := fun j hj => seen_at nds nds.length q j (by rw [HTT.out]; exact hlq) hj
                                rw [← hp0] at HR8
                                generalize nb (edges nds nds.length) q = row at *
                                have HNB := hid hnb
                                have HCELL := hid hcell
                                have HADR := hid hadr
                                have HPE := hid hpe
                                have HPS := hid hps
                                have HSA := hid hsa
                                have i1 : (q : Int) < (T : Int) := by omega
                                clear hnb hcell hadr hpe hp0 hps hsa hU dq0
                                go_wp2_with fail
                                go_loopw [32] (fun i wr => ∃ j : Nat, j ≤ row.length ∧ i = .int .i64 j ∧ Below w8.heap.size w8 wr ∧ wr.rowIs w8.heap.size 3 T (fun x => .int .i64 (((mb (pre nds nds.length q j) x).length : Nat) : Int))) (fun i _ => row.length - (intOf i).toNat)
                                case atStart => exact ⟨0, Nat.zero_le _, rfl, HB8.out, HR8.out⟩
                                case round =>
                                  obtain ⟨j, hj, rfl, hb, hr⟩ := hrel
                                  have HB9 := hid hb
                                  have HR9 := hid hr
                                  have B9 := hid (HB.out.trans (hb.mono hs8))
                                  clear hb hr
                                  by_cases hlj : j < row.length
                                  · obtain ⟨hak, hgk⟩ := HADR.out (by omega)
                                    subst hak
                                    have hbT := HNB.out j hlj
                                    have mr := below_cell B9.out (HCELL.out j hlj)
                                    obtain ⟨sa1, sa2⟩ := HSA.out j hlj
                                    have hpj := HPS.out j hlj
                                    generalize row.getD j 0 = bb at *
                                    have ms := HR9.out.cell hbT
                                    have fs := HR9.out.frozen bb
                                    obtain ⟨av, cv, gv, hV, hadv, hcev⟩ := row_open (HO.out.jag.ownM bb hbT)
                                    have dv0 := HO.out.jag.by_.cell hbT
                                    rw [hV] at dv0
                                    have dv := below_cell B9.out dv0
                                    obtain ⟨hav, hgv⟩ := hadv (by omega)
                                    subst hav
                                    have mv := below_cell B9.out (hcev _ sa1)
                                    rw [sa2] at mv
                                    have hml := mb_length (edges nds nds.length) bb
                                    rw [edges_length] at hml
                                    have HST := hid (HR9.out.set bb (.int .i64 (((mb (pre nds nds.length q j) bb).length + 1 : Nat) : Int)))
                                    have HSTB := hid (HB9.out.setCell (p := ⟨w8.heap.size, bb, none⟩) (Nat.le_refl _) (.int .i64 (((mb (pre nds nds.length q j) bb).length + 1 : Nat) : Int)))
                                    have HCG := hid (seen_step nds q j bb)
                                    have HPJ := hid hpj
                                    clear hpj hV dv0 hadv hcev sa2
                                    generalize (mb (edges nds nds.length) bb).length = nv at *
                                    generalize hat : (mb (pre nds nds.length q j) bb).length = at' at *
                                    have HAT := hid hat
                                    clear hat
                                    have t1 : decide (nv ≤ at') = false := by simp; omega
                                    have k1 : IntKind.i64.wrap ((at' : Int) + 1) = ((at' + 1 : Nat) : Int) := by rw [IntKind.wrap_i64]; omega
                                    have i2 : (j : Int) < (row.length : Int) := by omega
                                    have i3 : (bb : Int) < (T : Int) := by omega
                                    have i4 : (at' : Int) < (nv : Int) := by omega
                                    have hjb : j ≤ 65536 := by omega
                                    go_wp2_with fail
                                    go_roundw
                                    case rel =>
                                      refine ⟨j + 1, by omega, by go_num, HSTB.out, HST.out.congr (fun x _ => ?_)⟩
                                      rw [HPJ.out]
                                      have := HCG.out x
                                      exact this
                                    case measure => simp [intOf]; omega
                                  · have ej : j = row.length := by omega
                                    subst ej
                                    rw [HPE.out] at HR9
                                    go_wp2_with fail
                                    go_roundw
                                    case rel => exact ⟨q + 1, by omega, by go_num, HB9.out, HR9.out⟩
                                    case measure => simp [intOf]; omega
                            · as_aux_lemma =>
                                have eq : T = q := by omega
                                subst eq
                                have hra := rowEdges_all nds nds.length
                                rw [HTT.out] at hra
                                rw [hra] at HR8
                                clear hra
                                have B8 := hid (HB.out.trans (HB8.out.mono hs8))
                                obtain ⟨w9, hw9⟩ : ∃ w9, w9 = wr := ⟨_, rfl⟩
                                subst hw9
                                go_wp2_with fail
                                go_loopw [35] (fun i wr => ∃ q : Nat, q ≤ T ∧ i = .int .i64 q ∧ Drew w9 wr) (fun i _ => T - (intOf i).toNat)
                                case atStart => exact ⟨0, Nat.zero_le _, rfl, Drew.refl _⟩
                                case round =>
                                  obtain ⟨q, hq, rfl, hd⟩ := hrel
                                  have HD9 := hid hd
                                  clear hd
                                  by_cases hlq : q < T
                                  · obtain ⟨av, cv, gv, hV, _, _⟩ := row_open (HO.out.jag.ownM q hlq)
                                    have dv0 := HO.out.jag.by_.cell hlq
                                    rw [hV] at dv0
                                    have dv := HD9.out.cell (below_cell B8.out dv0)
                                    have ms := HD9.out.cell (HR8.out.cell hlq)
                                    clear hV dv0
                                    generalize (mb (edges nds nds.length) q).length = nv at *
                                    have i1 : (q : Int) < (T : Int) := by omega
                                    go_wp2_with fail
                                    go_quiet (fail)
                                    go_wp2_with fail
                                    go_roundw
                                    case rel => exact ⟨q + 1, by omega, by go_num, HD9.out.drewN _⟩
                                    case measure => simp [intOf]; omega
                                  · go_wp2_with fail
                                    go_ret
                                    exact ⟨rfl, (HB6.out.trans (B8.out.mono HB6.out.size)).trans (HD9.out.below _)⟩
end Law
end Go.Proofs.Qxb6602369a
