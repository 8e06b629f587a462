/-
  SEAT b6601938a. 'Rows.FnSameWritesMatchesFilteredComparisonSaid', PROVED.
-/
import Derived.Test.Qxb6601938aMopsOf
import Derived.Test.Qxb6601938aOpenMops
import Derived.Test.Qxb6601938aFilter
import Derived.OpenShut
import Derived.ChangeOld
namespace Go.Proofs.Qxb6601938a
open Go.ChangeShapes Go.WideShapes Go.ChangeAt Go.RowKit

namespace Filtered
theorem own : ownKnob Try.prog.godebug = none := by kernel_rfl
theorem laidOut : laidOutB Try.prog = true := by kernel_rfl

set_option maxHeartbeats 2000000 in
theorem walk (xs ys : List Mop5) (a1 a2 : Option Addr) (b1 o1 c1 b2 o2 c2 : Nat) (w : World) (hn1 : xs.length ≤ maxLen) (hn2 : ys.length ≤ maxLen) (h1 : MopsIn w a1 b1 o1 xs) (h2 : MopsIn w a2 b2 o2 ys) (l1 : Lists w xs) (l2 : Lists w ys) :
    Calls Try.prog 6 #[.slice a1 xs.length c1, .slice a2 ys.length c2] w fun e w' => e = .returned (.bool true) ∧ Below w.heap.size w w' := by
  have H1 : Hid (MopsIn w a1 b1 o1 xs) := h1
  have H2 : Hid (MopsIn w a2 b2 o2 ys) := h2
  have L1 : Hid (Lists w xs) := l1
  have L2 : Hid (Lists w ys) := l2
  have HB := bytes17_any xs ys a1 a2 b1 o1 c1 b2 o2 c2 w hn1 hn2 h1 h2 l1 l2
  have HBH : Hid _ := HB
  unfold maxLen at hn1 hn2
  clear h1 h2 l1 l2 HB
  by_cases q1 : xs.length ≤ 32768
  · by_cases q2 : ys.length ≤ 32768
    · have t1 : decide ((32768 : Int) < xs.length) = false := by simp; omega
      have t2 : decide ((32768 : Int) < ys.length) = false := by simp; omega
      go_enter Try.func6, Try.ntmps6
      go_wp2_with fail
      refine Calls.mono HBH.out ?_
      rintro e w' ⟨β, rfl, rfl, hβ⟩
      cases β with
      | false =>
        go_wp2
        go_ret
        exact ⟨rfl, Below.refl _ _⟩
      | true =>
        obtain ⟨s1, s2⟩ := hβ rfl
        have S1 : Hid (Short xs) := s1
        have S2 : Hid (Short ys) := s2
        clear hβ s1 s2 HBH
        go_wp2_with fail
        refine (mopBytes_any xs a1 b1 o1 c1 _ q1 H1.out L1.out).mono ?_
        rintro e w1 ⟨n1, rfl, rfl, n10, n11⟩
        go_wp2_with fail
        refine (mopBytes_any ys a2 b2 o2 c2 _ q2 H2.out L2.out).mono ?_
        rintro e w2 ⟨n2, rfl, rfl, n20, n21⟩
        by_cases q3 : 1048576 < n1 + n2
        · go_wp2
          go_ret
          exact ⟨rfl, Below.refl _ _⟩
        · go_wp2_with fail
          refine (mopsOf_any xs a1 b1 o1 c1 _ q1 H1.out L1.out S1.out).mono ?_
          rintro e w3 ⟨a3, b3, zs, rfl, hz, hi3, hb3⟩
          have hz1 : zs.length ≤ 32768 := by omega
          have HI3 : Hid _ := hi3
          clear hi3 hz
          go_wp2_with fail
          refine (mopsOf_any ys a2 b2 o2 c2 _ q2 (H2.out.below hb3) (L2.out.below hb3) S2.out).mono ?_
          rintro e w4 ⟨a4, b4, us, rfl, hu, hi4, hb4⟩
          have hu1 : us.length ≤ 32768 := by omega
          have HI4 : Hid _ := hi4
          have HI3' : Hid _ := HI3.out.below hb4
          clear hi4 hu HI3
          go_wp2_with fail
          refine (zzsame_any zs us a3 a4 b3 0 zs.length b4 0 us.length _ hz1 hu1 HI3'.out HI4.out).mono ?_
          rintro e w6 ⟨rfl, hb6⟩
          go_wp2_with fail
          refine (Filter.byFilter_any zs us a3 a4 b3 0 zs.length b4 0 us.length _ hz1 hu1 (HI3'.out.below hb6) (HI4.out.below hb6)).mono ?_
          rintro e w7 ⟨rfl, hb7⟩
          go_wp2
          go_ret
          have k4 := hb3.trans (hb4.mono hb3.size)
          have k6 := k4.trans (hb6.mono k4.size)
          have k7 := k6.trans (hb7.mono k6.size)
          exact ⟨ret_bool (by simp), k7⟩
    · have t1 : decide ((32768 : Int) < xs.length) = false := by simp; omega
      have t2 : decide ((32768 : Int) < ys.length) = true := by simp; omega
      go_enter Try.func6, Try.ntmps6
      go_wp2_with fail
      refine Calls.mono HBH.out ?_
      rintro e w' ⟨β, rfl, rfl, hβ⟩
      clear hβ HBH
      cases β with
      | false =>
        go_wp2
        go_ret
        exact ⟨rfl, Below.refl _ _⟩
      | true =>
        go_wp2
        go_ret
        exact ⟨rfl, Below.refl _ _⟩
  · have t1 : decide ((32768 : Int) < xs.length) = true := by simp; omega
    go_enter Try.func6, Try.ntmps6
    go_wp2_with fail
    refine Calls.mono HBH.out ?_
    rintro e w' ⟨β, rfl, rfl, hβ⟩
    clear hβ HBH
    cases β with
    | false =>
      go_wp2
      go_ret
      exact ⟨rfl, Below.refl _ _⟩
    | true =>
      go_wp2
      go_ret
      exact ⟨rfl, Below.refl _ _⟩

set_option maxRecDepth 100000 in
theorem lifted (os : Os) (started : os.Started) (H : Type) (enc : TypeId × Value → H) :
    ReturnsInHanded {} Try.checked os 6 .any (Rows.fnSameWritesMatchesFilteredComparisonSpec.pre6 enc Try.prog Try.f6 Rows.fnSameWritesMatchesFilteredComparisonRow.domain false) (Rows.fnSameWritesMatchesFilteredComparisonSpec.post enc Try.prog Try.f6 false true false false) := by
  refine returnsInHanded_of_change (C := Try.checked) own started (by kernel_rfl) Try.func6
    (ChangeSpec.witness6 (enc := enc) (C := Try.checked) false ⟨#[], #[.slice none 0 0, .slice none 0 0], []⟩ 8 (by kernel_rfl) (by kernel_rfl) (by kernel_rfl) (by kernel_rfl)) ?_
  intro W base args ds gs before hval0 hW hcnd _
  have hval : ∀ (j : Nat) t v, Try.f6.params[j]? = some t → args[j]? = some v → Value.okWide Try.prog W .any base t v := hval0
  have hW' := hW
  obtain ⟨p, q, hA0, hV, rfl, hfz, hnd⟩ := hW
  have hA : DataW.TrodAll enc Try.prog W 0 (fun _ => true) true Try.f6.params.toList args.toList ds p := hA0
  rw [Try.params6] at hA hval
  obtain ⟨v0, vs0, d0, ds0, p0, q0, hargs, rfl, rfl, h0, r0⟩ := trodAll_cons hA
  obtain ⟨v1, vs1, d1, ds1, p1, q1, rfl, rfl, rfl, h1, r1⟩ := trodAll_cons r0
  obtain ⟨rfl, rfl, rfl⟩ := trodAll_nil r1
  obtain rfl : args = #[v0, v1] := by cases args; simp_all
  obtain ⟨rfl, rfl⟩ := trodVars_none hV
  obtain ⟨a0, len0, cap0, rfl⟩ := okWide_slice Try.underlying34 (hval 0 34 v0 rfl rfl)
  obtain ⟨a1, len1, cap1, rfl⟩ := okWide_slice Try.underlying34 (hval 1 34 v1 rfl rfl)
  have lt0 : ∀ x ∈ p0, x.block < W.heap.size := by obtain ⟨m, hm⟩ := h0; exact DataW.trod_lt m _ _ _ hm
  have lt1 : ∀ x ∈ p1, x.block < W.heap.size := by obtain ⟨m, hm⟩ := h1; exact DataW.trod_lt m _ _ _ hm
  obtain ⟨xs, b0, o0, rfl, hx1, hx2, hx3⟩ := OpenMops.mops_open h0
  obtain ⟨ys, b1, o1, rfl, hy1, hy2, hy3⟩ := OpenMops.mops_open h1
  clear hA0 hval0
  refine (walk xs ys a0 a1 b0 o0 cap0 b1 o1 cap1 W hx1 hy1 hx2 hy2 hx3 hy3).mono fun e W' ⟨he, bel⟩ => ?_
  subst he
  exact ⟨_, rfl, _, _, _, [], _, [], hW', trodAll_mk1 (shut_bool Try.underlying4 _), (trodAll_cons_mk (Below.trod laidOut (by kernel_rfl) (of_decide_eq_true (by kernel_rfl)) h0 bel lt0) (trodAll_cons_mk (Below.trod laidOut (by kernel_rfl) (of_decide_eq_true (by kernel_rfl)) h1 bel lt1) trodAll_mk0)), rfl, bel.frame _, fun h => by cases h⟩
end Filtered

/-- THE STATEMENT. -/
theorem fnSameWritesMatchesFilteredComparison_proved : Rows.FnSameWritesMatchesFilteredComparisonSaid :=
  OpenClaim.holds_of_wide 6 Try.f6 rfl rfl rfl rfl rfl rfl rfl ⟨rfl, rfl, rfl, rfl, rfl⟩ rfl rfl rfl rfl rfl (by kernel_rfl) Try.func6 (by kernel_rfl)
    (of_decide_eq_true (by kernel_rfl)) (by unfold Func.isWrapper; first | (rw [if_pos (by decide +kernel)]; kernel_rfl) | (rw [if_neg (by decide +kernel)]; exact ⟨rfl, rfl⟩))
    (fun os started H enc _ => Filtered.lifted os started H enc)
end Go.Proofs.Qxb6601938a
