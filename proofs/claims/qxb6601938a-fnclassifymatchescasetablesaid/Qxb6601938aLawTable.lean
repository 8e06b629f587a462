/-
  SEAT b6601938a. 'Rows.FnClassifyMatchesCaseTableSaid', PROVED.
-/
import Derived.Test.Qxb6601938aArcsOf
import Derived.Test.Qxb6601938aOpen
import Derived.OpenShut
import Derived.ChangeOld
namespace Go.Proofs.Qxb6601938a
open Go.ChangeShapes Go.WideShapes Go.ChangeAt Go.RowKit

namespace CaseTable
set_option maxHeartbeats 400000 in
theorem walk (xs : List Arc9) (a : Option Addr) (cap : Nat) (w : World) (hm : xs.length ≤ maxLen) (hin : ArcsIn w a xs) :
    Calls Try.prog 3 #[.slice a xs.length cap] w fun e w' => e = .returned (.bool true) ∧ Below w.heap.size w w' := by
  have hm' := hm
  unfold maxLen at hm'
  by_cases h1 : xs.length ≤ 1048576
  · have hd : decide (xs.length ≤ 1048576) = true := by simp [h1]
    by_cases h2 : xs.length ≤ 16384
    · go_enter Try.func3, Try.ntmps3
      go_wp2_with fail
      refine (bytes10_any a xs.length cap _ hm).mono ?_
      rintro e w' ⟨rfl, rfl⟩
      go_wp2_with fail
      refine (arcsOf_any xs a cap _ (by omega) hin).mono ?_
      rintro e w1 ⟨a1, rfl, hin1, hb1⟩
      go_wp2_with fail
      refine (zzclassify_any xs a1 xs.length _ (by omega) hin1).mono ?_
      rintro e w2 ⟨rfl, hb2⟩
      go_wp2_with fail
      refine (table_any xs a cap _ (by omega) ((hin.below hb1).below hb2)).mono ?_
      rintro e w3 ⟨rfl, rfl⟩
      go_wp2
      go_ret
      exact ⟨by simp, hb1.trans (hb2.mono hb1.size)⟩
    · go_enter Try.func3, Try.ntmps3
      go_wp2_with fail
      refine (bytes10_any a xs.length cap _ hm).mono ?_
      rintro e w' ⟨rfl, rfl⟩
      go_wp2
      go_ret
      exact ⟨rfl, Below.refl _ _⟩
  · have hd : decide (xs.length ≤ 1048576) = false := by simp [h1]
    go_enter Try.func3, Try.ntmps3
    go_wp2_with fail
    refine (bytes10_any a xs.length cap _ hm).mono ?_
    rintro e w' ⟨rfl, rfl⟩
    go_wp2
    go_ret
    exact ⟨rfl, Below.refl _ _⟩

set_option maxRecDepth 100000 in
theorem lifted (os : Os) (started : os.Started) (H : Type) (enc : TypeId × Value → H) :
    ReturnsInHanded {} Try.checked os 3 .any (Rows.fnClassifyMatchesCaseTableSpec.pre6 enc Try.prog Try.f3 Rows.fnClassifyMatchesCaseTableRow.domain false) (Rows.fnClassifyMatchesCaseTableSpec.post enc Try.prog Try.f3 false true false false) := by
  refine returnsInHanded_of_change (C := Try.checked) Try.own started (by kernel_rfl) Try.func3
    (ChangeSpec.witness6 (enc := enc) (C := Try.checked) false ⟨#[], #[.slice none 0 0], []⟩ 8 (by kernel_rfl) (by kernel_rfl) (by kernel_rfl) (by kernel_rfl)) ?_
  intro W base args ds gs before hval0 hW hcnd _
  have hval : ∀ (j : Nat) t v, Try.f3.params[j]? = some t → args[j]? = some v → Value.okWide Try.prog W .any base t v := hval0
  have hW' := hW
  obtain ⟨p, q, hA0, hV, rfl, hfz, hnd⟩ := hW
  have hA : DataW.TrodAll enc Try.prog W 0 (fun _ => true) true Try.f3.params.toList args.toList ds p := hA0
  rw [Try.params3] at hA hval
  obtain ⟨v0, vs0, d0, ds0, p0, q0, hargs, rfl, rfl, h0, r0⟩ := trodAll_cons hA
  obtain ⟨rfl, rfl, rfl⟩ := trodAll_nil r0
  obtain rfl : args = #[v0] := by cases args; simp_all
  obtain ⟨rfl, rfl⟩ := trodVars_none hV
  obtain ⟨a0, len0, cap0, rfl⟩ := okWide_slice Try.underlying22 (hval 0 22 v0 rfl rfl)
  have lt0 : ∀ x ∈ p0, x.block < W.heap.size := by obtain ⟨m, hm⟩ := h0; exact DataW.trod_lt m _ _ _ hm
  obtain ⟨xs, rfl, hmax, hin⟩ := arcs_open h0
  clear hA0 hval0
  refine (walk xs a0 cap0 W hmax hin).mono fun e W' ⟨he, bel⟩ => ?_
  subst he
  exact ⟨_, rfl, _, _, _, [], _, [], hW', trodAll_mk1 (shut_bool Try.underlying4 _), (trodAll_cons_mk (Below.trod Try.laidOut (by kernel_rfl) (of_decide_eq_true (by kernel_rfl)) h0 bel lt0) trodAll_mk0), rfl, bel.frame _, fun h => by cases h⟩
end CaseTable

/-- THE STATEMENT. -/
theorem fnClassifyMatchesCaseTable_proved : Rows.FnClassifyMatchesCaseTableSaid :=
  OpenClaim.holds_of_wide 3 Try.f3 rfl rfl rfl rfl rfl rfl rfl ⟨rfl, rfl, rfl, rfl, rfl⟩ rfl rfl rfl rfl rfl (by kernel_rfl) Try.func3 (by kernel_rfl)
    (of_decide_eq_true (by kernel_rfl)) (by unfold Func.isWrapper; first | (rw [if_pos (by decide +kernel)]; kernel_rfl) | (rw [if_neg (by decide +kernel)]; exact ⟨rfl, rfl⟩))
    (fun os started H enc _ => CaseTable.lifted os started H enc)
end Go.Proofs.Qxb6601938a
