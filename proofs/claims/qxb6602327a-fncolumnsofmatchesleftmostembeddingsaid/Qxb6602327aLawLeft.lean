/-
  SEAT b6602327a. 'Rows.FnColumnsOfMatchesLeftmostEmbeddingSaid', PROVED.
-/
import Derived.Test.Qxb6602327aZZcols
import Derived.Test.Qxb6602327aSubs
import Derived.Test.Qxb6602327aOpen
import Derived.OpenShut
import Derived.ChangeOld
namespace Go.Proofs.Qxb6602327a
open Go.ChangeShapes Go.WideShapes Go.ChangeAt Go.RowKit
namespace Left

set_option maxRecDepth 100000 in
set_option maxHeartbeats 2000000 in
theorem walk (xs hs : List ByteArray) (z : Int) (a1 a2 : Option Addr) (b1 o1 c1 b2 o2 c2 : Nat) (w : World) (hn : xs.length ≤ maxLen) (hm : hs.length ≤ maxLen) (h1 : StrsIn w a1 b1 o1 xs) (h2 : StrsIn w a2 b2 o2 hs) :
    Calls Try.prog 3 #[.slice a1 xs.length c1, .slice a2 hs.length c2, .int .i64 z] w fun e w' => e = .returned (.bool true) ∧ Below w.heap.size w w' := by
  have H1 := hid h1
  have H2 := hid h2
  have G6 := hid (bytes6_any xs hs a1 a2 b1 o1 c1 b2 o2 c2 z w hn hm h1 h2)
  have G7 := hid (fit7_any xs hs a1 a2 b1 o1 c1 b2 o2 c2 0 w hn hm h1 h2)
  unfold maxLen at hn hm
  clear h1 h2
  go_enter Try.func3, Try.ntmps3
  go_wp2_with fail
  refine Calls.mono G6.out ?_
  rintro e w' ⟨β, rfl, rfl, _⟩
  cases β with
  | false =>
    go_wp2
    go_ret
    exact ⟨rfl, Below.refl _ _⟩
  | true =>
    go_wp2_with fail
    refine Calls.mono G7.out ?_
    rintro e w' ⟨β, rfl, rfl, hfit⟩
    cases β with
    | false =>
      go_wp2
      go_ret
      exact ⟨rfl, Below.refl _ _⟩
    | true =>
      obtain ⟨f1, f2, _, _⟩ := hfit rfl
      clear hfit G7 G6
      by_cases q1 : z < 0
      · go_wp2
        go_ret
        exact ⟨rfl, Below.refl _ _⟩
      · by_cases q2 : (hs.length : Int) < z
        · go_wp2
          go_ret
          exact ⟨rfl, Below.refl _ _⟩
        · obtain ⟨zn, rfl⟩ : ∃ zn : Nat, z = (zn : Int) := ⟨z.toNat, by omega⟩
          obtain ⟨r, hr⟩ : ∃ r, hs.length = r + zn := ⟨hs.length - zn, by omega⟩
          have HRR := hid hr
          have hrn : r ≤ hs.length := by omega
          have k1 : IntKind.i64.wrap ((hs.length : Int) - (zn : Int)) = (r : Int) := by rw [IntKind.wrap_i64]; omega
          have t1 : decide ((zn : Int) < 0) = false := by simp
          have t2 : decide (hs.length < zn) = false := by simp; omega
          have hnil := fun W => Lib.run_eql_slice_nil (P := Try.prog) W 25 3 none 0 0 0 0 Try.underlying25
          clear hr q1 q2
          go_wp2_with fail
          refine (clone8_any xs a1 b1 o1 c1 _ f1 H1.out).mono ?_
          rintro e w1 ⟨a3, b3, c3, rfl, s3, hc3, hb3', hB1⟩
          have S3 := hid s3
          have HB1 := hid hB1
          have K2 := hid (H2.out.below hB1 (fun h => H2.out.lt h) hB1.size)
          clear s3 hB1 H2 H1
          go_wp2_with fail
          refine (clone8_any hs a2 b2 o2 c2 _ f2 K2.out).mono ?_
          rintro e w2 ⟨a4, b4, c4, rfl, s4, hc4, hb4', hB2⟩
          have S4 := hid s4
          have S3' := hid (S3.out.below hB2 (fun h => S3.out.lt h) hB2.size)
          have HB2 := hid (HB1.out.trans (hB2.mono HB1.out.size))
          clear s4 hB2 K2 S3 HB1
          have HC := hid (zzcolumns_any xs hs r zn HRR.out a3 a4 b3 0 c3 b4 0 c4 w2 f1 f2 hc3 hc4 S3'.out S4.out)
          go_wp2_with fail
          refine Calls.mono HC.out ?_
          intro e w6 hp
          have HI := hid (columns_some_iff (xs := xs) (hs := hs) (r := r))
          cases hC : columns xs hs r with
          | none =>
            rw [hC] at hp HI
            obtain ⟨rfl, hB6⟩ := hp
            have S5 := hid (S3'.out.below hB6 (fun h => S3'.out.lt h) hB6.size)
            have S6 := hid (S4.out.below hB6 (fun h => S4.out.lt h) hB6.size)
            have HB6 := hid (HB2.out.trans (hB6.mono HB2.out.size))
            clear HC hC hB6 HB2 S3' S4
            have P10 := hid (prefix10_any xs hs r hrn a3 a4 b3 0 c3 b4 0 c4 w6 f1 f2 S5.out S6.out)
            by_cases e10 : r ≤ xs.length ∧ xs.take r = hs.take r
            · rw [decide_eq_true e10] at P10
              have P11 := hid (fun W (hd : Drew w6 W) => tail11_any xs hs r e10.1 hrn a3 a4 b3 0 c3 b4 0 c4 W f1 f2 (S5.out.drew hd) (S6.out.drew hd))
              have HN := hid (show ¬ (xs.drop r).Sublist (hs.drop r) from fun q => by simpa using HI.out.2 ⟨e10, q⟩)
              clear e10 HI
              go_wp2_with fail
              refine Calls.mono P10.out ?_
              rintro e w7 ⟨rfl, hd7⟩
              have HD7 := hid hd7
              go_wp2_with fail
              refine Calls.mono (P11.out _ HD7.out) ?_
              rintro e w8 ⟨β, rfl, hβ, hd8⟩
              obtain rfl : β = false := Bool.eq_false_iff.2 (fun q => HN.out (hβ.1 q))
              have HD8 := hid hd8
              clear hβ hd8 hd7 P11 P10 HN
              go_wp2_with fail
              go_ret
              exact ⟨rfl, HB6.out.trans ((HD7.out.trans HD8.out).below _)⟩
            · rw [decide_eq_false e10] at P10
              clear e10 HI
              go_wp2_with fail
              refine Calls.mono P10.out ?_
              rintro e w7 ⟨rfl, hd7⟩
              have HD7 := hid hd7
              clear hd7 P10
              go_wp2_with fail
              go_ret
              exact ⟨rfl, HB6.out.trans (HD7.out.below _)⟩
          | some cs =>
            have LM := hid (columns_spec hC)
            rw [hC] at hp HI
            obtain ⟨⟨hrx, htk⟩, hsub⟩ := HI.out.1 rfl
            have HSUB := hid hsub
            obtain ⟨b6, rfl, hb6, hb6', hc6, hB6⟩ := hp
            have C6 := hid hc6
            have S5 := hid (S3'.out.below hB6 (fun h => S3'.out.lt h) hB6.size)
            have S6 := hid (S4.out.below hB6 (fun h => S4.out.lt h) hB6.size)
            have HB6 := hid (HB2.out.trans (hB6.mono HB2.out.size))
            clear HC hC hB6 HB2 S3' S4 hc6 hsub HI
            have P10 := hid (prefix10_any xs hs r hrn a3 a4 b3 0 c3 b4 0 c4 w6 f1 f2 S5.out S6.out)
            rw [decide_eq_true ⟨hrx, htk⟩] at P10
            have P11 := hid (fun W (hd : Drew w6 W) => tail11_any xs hs r hrx hrn a3 a4 b3 0 c3 b4 0 c4 W f1 f2 (S5.out.drew hd) (S6.out.drew hd))
            clear htk
            go_wp2_with fail
            refine Calls.mono P10.out ?_
            rintro e w7 ⟨rfl, hd7⟩
            have HD7 := hid hd7
            go_wp2_with fail
            refine Calls.mono (P11.out _ HD7.out) ?_
            rintro e w8 ⟨β, rfl, hβ, hd8⟩
            obtain rfl : β = true := hβ.2 HSUB.out
            have HD8 := hid (HD7.out.trans hd8)
            have hlen := LM.out.len
            have t5 : ((cs.length : Int) != (xs.length : Int)) = false := by simp [hlen]
            have CL := hid hlen
            clear hβ hd8 hd7 HD7 P11 P10 hlen
            go_wp2_with fail
            go_loop [11] (fun i => ∃ k : Nat, k ≤ r ∧ i = .int .i64 k) (fun i => r - (intOf i).toNat)
            case atStart => exact ⟨0, Nat.zero_le _, rfl⟩
            case round =>
              obtain ⟨k, hk, rfl⟩ := hrel
              by_cases hlt : k < r
              · have hkc : k < cs.length := by rw [CL.out]; omega
                have i1 : (k : Int) < (cs.length : Int) := by omega
                have s1 := HD8.out.cell (C6.out k hkc)
                rw [LM.out.low k hlt] at s1
                have t6 : decide (k < r) = true := by simp; omega
                go_wp2_with fail
                go_round
                case rel => exact ⟨k + 1, by omega, by go_num⟩
                case measure => simp [intOf]; omega
              · have t6 : decide (k < r) = false := by simp; omega
                go_wp2_with fail
                go_loopw [12, 13] (fun l i wr => ∃ k : Nat, r ≤ k ∧ k ≤ xs.length ∧ i = .int .i64 k ∧ l = .int .i64 ((lo cs r k : Nat) : Int) ∧ Drew w8 wr) (fun _ i _ => xs.length - (intOf i).toNat)
                case atStart => exact ⟨r, Nat.le_refl _, hrx, rfl, by unfold lo; rw [if_pos rfl], Drew.refl _⟩
                case round =>
                  obtain ⟨k, hrk, hk, rfl, rfl, hd⟩ := hrel
                  have HD := hid (HD8.out.trans hd)
                  have HD9 := hid hd
                  clear hd
                  by_cases hlt : k < xs.length
                  · have hkc : k < cs.length := by rw [CL.out]; omega
                    have i1 : (k : Int) < (cs.length : Int) := by omega
                    obtain ⟨l1, l2, l3, l4⟩ := LM.out.high k hrk hlt
                    have s1 := HD.out.cell (C6.out k hkc)
                    have s3 : wr.cell? ⟨b3, k, none⟩ = some (.string (xs.getD k str0)) := by
                      have := (S5.out.drew HD.out).cell k hlt
                      simpa using this
                    have s4 : wr.cell? ⟨b4, cs.getD k 0, none⟩ = some (.string (hs.getD (cs.getD k 0) str0)) := by
                      have := (S6.out.drew HD.out).cell _ l2
                      simpa using this
                    rw [l3] at s4
                    have ha3 := S5.out.addr (by omega)
                    have ha4 := S6.out.addr (by omega)
                    subst ha3 ha4
                    have L4 := hid l4
                    have HLO := hid (show lo cs r (k + 1) = cs.getD k 0 + 1 by unfold lo; rw [if_neg (by omega), Nat.add_sub_cancel])
                    have t7 : decide (cs.getD k 0 < lo cs r k) = false := decide_eq_false (by omega)
                    have t8 : decide (hs.length ≤ cs.getD k 0) = false := decide_eq_false (by omega)
                    have i2 : ((cs.getD k 0 : Nat) : Int) < (hs.length : Int) := by omega
                    clear l4 l3
                    generalize cs.getD k 0 = c at *
                    generalize lo cs r k = l at *
                    generalize hx : xs.getD k str0 = x at *
                    have HX := hid hx
                    clear hx
                    go_wp2_with fail
                    go_quiet (fail)
                    go_wp2_with fail
                    go_loopw [15] (fun j wr => ∃ m : Nat, l ≤ m ∧ m ≤ c ∧ j = .int .i64 m ∧ Drew w6 wr ∧ Drew w8 wr) (fun j _ => c - (intOf j).toNat)
                    case atStart => exact ⟨l, Nat.le_refl _, l1, rfl, HD.out.drewN _, HD9.out.drewN _⟩
                    case round =>
                      obtain ⟨m, hm1, hm2, rfl, hd, hd'⟩ := hrel
                      have HDD := hid hd
                      have HDD' := hid hd'
                      clear hd hd'
                      by_cases hmc : m < c
                      · have s5 : wr.cell? ⟨b4, m, none⟩ = some (.string (hs.getD m str0)) := by
                          have := (S6.out.drew HDD.out).cell m (by omega)
                          simpa using this
                        have s6 : wr.cell? ⟨b3, k, none⟩ = some (.string (xs.getD k str0)) := by
                          have := (S5.out.drew HDD.out).cell k hlt
                          simpa using this
                        rw [HX.out] at s6
                        have hne := L4.out m hm1 hmc
                        have t9 : decide (m < c) = true := by simp; omega
                        have t10 : ((hs.getD m str0).toList == x.toList) = false := by rw [beq_str]; exact decide_eq_false hne
                        have i3 : (m : Int) < (hs.length : Int) := by omega
                        have i4 : (k : Int) < (xs.length : Int) := by omega
                        clear hne
                        generalize hs.getD m str0 = y at *
                        go_wp2_with fail
                        go_quiet (fail)
                        go_wp2_with fail
                        go_roundw
                        case rel => exact ⟨m + 1, by omega, by omega, by go_num, HDD.out.drewN _, HDD'.out.drewN _⟩
                        case measure => simp [intOf]; omega
                      · have t9 : decide (m < c) = false := by simp; omega
                        go_wp2_with fail
                        go_roundw
                        case rel => exact ⟨k + 1, by omega, by omega, by go_num, by rw [HLO.out]; go_num, HDD'.out⟩
                        case measure => simp [intOf]; omega
                  · have t7 : decide (k < xs.length) = false := by simp; omega
                    go_wp2_with fail
                    go_ret
                    exact ⟨rfl, HB6.out.trans ((HD.out).below _)⟩

theorem own : ownKnob Try.prog.godebug = none := by kernel_rfl
theorem laidOut : laidOutB Try.prog = true := by kernel_rfl

set_option maxRecDepth 100000 in
theorem lifted (os : Os) (started : os.Started) (H : Type) (enc : TypeId × Value → H) :
    ReturnsInHanded {} Try.checked os 3 .any (Rows.fnColumnsOfMatchesLeftmostEmbeddingSpec.pre6 enc Try.prog Try.f3 Rows.fnColumnsOfMatchesLeftmostEmbeddingRow.domain false) (Rows.fnColumnsOfMatchesLeftmostEmbeddingSpec.post enc Try.prog Try.f3 false true false false) := by
  refine returnsInHanded_of_change (C := Try.checked) own started (by kernel_rfl) Try.func3
    (ChangeSpec.witness6 (enc := enc) (C := Try.checked) false ⟨#[], #[.slice none 0 0, .slice none 0 0, .int .i64 0], []⟩ 8 (by kernel_rfl) (by kernel_rfl) (by kernel_rfl) (by kernel_rfl)) ?_
  intro W base args ds gs before hval0 hW hcnd _
  have hval : ∀ (j : Nat) t v, Try.f3.params[j]? = some t → args[j]? = some v → Value.okWide Try.prog W .any base t v := hval0
  have hW' := hW
  obtain ⟨p, q, hA0, hV, rfl, hfz, hnd⟩ := hW
  have hA : DataW.TrodAll enc Try.prog W 0 (fun _ => true) true Try.f3.params.toList args.toList ds p := hA0
  rw [Try.params3] at hA hval
  obtain ⟨v0, vs0, d0, ds0, p0, q0, hargs, rfl, rfl, h0, r0⟩ := trodAll_cons hA
  obtain ⟨v1, vs1, d1, ds1, p1, q1, rfl, rfl, rfl, h1, r1⟩ := trodAll_cons r0
  obtain ⟨v2, vs2, d2, ds2, p2, q2, rfl, rfl, rfl, h2, r2⟩ := trodAll_cons r1
  obtain ⟨rfl, rfl, rfl⟩ := trodAll_nil r2
  obtain rfl : args = #[v0, v1, v2] := by cases args; simp_all
  obtain ⟨rfl, rfl⟩ := trodVars_none hV
  obtain ⟨a0, len0, cap0, rfl⟩ := okWide_slice Try.underlying22 (hval 0 22 v0 rfl rfl)
  obtain ⟨a1, len1, cap1, rfl⟩ := okWide_slice Try.underlying22 (hval 1 22 v1 rfl rfl)
  obtain ⟨z, rfl, rfl, rfl, wz⟩ := open_int Try.underlying3 (hval 2 3 v2 rfl rfl) h2
  have lt0 : ∀ x ∈ p0, x.block < W.heap.size := by obtain ⟨m, hm⟩ := h0; exact DataW.trod_lt m _ _ _ hm
  have lt1 : ∀ x ∈ p1, x.block < W.heap.size := by obtain ⟨m, hm⟩ := h1; exact DataW.trod_lt m _ _ _ hm
  obtain ⟨xs, b0, o0, rfl, hx1, hx2⟩ := Open.strs_open h0
  obtain ⟨ys, b1, o1, rfl, hy1, hy2⟩ := Open.strs_open h1
  clear hA0 hval0
  refine (walk xs ys z a0 a1 b0 o0 cap0 b1 o1 cap1 W hx1 hy1 hx2 hy2).mono fun e W' ⟨he, bel⟩ => ?_
  subst he
  exact ⟨_, rfl, _, _, _, [], _, [], hW', trodAll_mk1 (shut_bool Try.underlying4 _), (trodAll_cons_mk (Below.trod laidOut (by kernel_rfl) (of_decide_eq_true (by kernel_rfl)) h0 bel lt0) (trodAll_cons_mk (Below.trod laidOut (by kernel_rfl) (of_decide_eq_true (by kernel_rfl)) h1 bel lt1) (trodAll_cons_mk (shut_int Try.underlying3 wz) trodAll_mk0))), rfl, bel.frame _, fun h => by cases h⟩
end Left

/-- THE STATEMENT. -/
theorem fnColumnsOfMatchesLeftmostEmbedding_proved : Rows.FnColumnsOfMatchesLeftmostEmbeddingSaid :=
  OpenClaim.holds_of_wide 3 Try.f3 rfl rfl rfl rfl rfl rfl rfl ⟨rfl, rfl, rfl, rfl, rfl⟩ rfl rfl rfl rfl rfl (by kernel_rfl) Try.func3 (by kernel_rfl)
    (of_decide_eq_true (by kernel_rfl)) (by unfold Func.isWrapper; first | (rw [if_pos (by decide +kernel)]; kernel_rfl) | (rw [if_neg (by decide +kernel)]; exact ⟨rfl, rfl⟩))
    (fun os started H enc _ => Left.lifted os started H enc)
end Go.Proofs.Qxb6602327a
