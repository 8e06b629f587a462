/-
  SEAT b6601938a. 'Rows.FnClaimActsAsAnOwnershipMapSaid', PROVED.
-/
import Derived.Test.Qxb6601938aClaimWalk
import Derived.Test.Qxb6601938aOpenSteps
import Derived.OpenShut
import Derived.ChangeOld
namespace Go.Proofs.Qxb6601938a
open Go.ChangeShapes Go.WideShapes Go.ChangeAt Go.RowKit

namespace Claims
theorem own : ownKnob Try.prog.godebug = none := by kernel_rfl
theorem laidOut : laidOutB Try.prog = true := by kernel_rfl

theorem walk_large (a : Option Addr) (n cap : Nat) (w : World) (hm : n ≤ maxLen) (hn : 32768 < n) :
    Calls Try.prog 9 #[.slice a n cap] w fun e w' => e = .returned (.bool true) ∧ Below w.heap.size w w' := by
  by_cases h : n ≤ 1048576
  · have hd : decide (n ≤ 1048576) = true := by simp; omega
    have t1 : decide ((32768 : Int) < n) = true := by simp; omega
    go_enter Try.func9, Try.ntmps9
    go_wp2_with (go_at_call 24; refine (bytes24_any a n cap _ hm).mono ?_; rintro e w' ⟨rfl, rfl⟩)
    go_ret
    exact ⟨rfl, Below.refl _ _⟩
  · have hd : decide (n ≤ 1048576) = false := by simp; omega
    go_enter Try.func9, Try.ntmps9
    go_wp2_with (go_at_call 24; refine (bytes24_any a n cap _ hm).mono ?_; rintro e w' ⟨rfl, rfl⟩)
    go_ret
    exact ⟨rfl, Below.refl _ _⟩

theorem walk (xs : List Step3) (a : Option Addr) (b off cap : Nat) (w : World) (hm : xs.length ≤ maxLen) (hin : StepsIn w a b off xs) :
    Calls Try.prog 9 #[.slice a xs.length cap] w fun e w' => e = .returned (.bool true) ∧ Below w.heap.size w w' := by
  by_cases hn : xs.length ≤ 32768
  · exact walk_some xs a b off cap w hn hin
  · exact walk_large a xs.length cap w hm (by omega)

theorem lifted (os : Os) (started : os.Started) (H : Type) (enc : TypeId × Value → H) :
    ReturnsInHanded {} Try.checked os 9 .any (Rows.fnClaimActsAsAnOwnershipMapSpec.pre6 enc Try.prog Try.f9 Rows.fnClaimActsAsAnOwnershipMapRow.domain false) (Rows.fnClaimActsAsAnOwnershipMapSpec.post enc Try.prog Try.f9 false true false false) := by
  refine returnsInHanded_of_change (C := Try.checked) own started (by kernel_rfl) Try.func9
    (ChangeSpec.witness6 (enc := enc) (C := Try.checked) false ⟨#[], #[.slice none 0 0], []⟩ 8 (by kernel_rfl) (by kernel_rfl) (by kernel_rfl) (by kernel_rfl)) ?_
  intro W base args ds gs before hval0 hW hcnd _
  have hval : ∀ (j : Nat) t v, Try.f9.params[j]? = some t → args[j]? = some v → Value.okWide Try.prog W .any base t v := hval0
  have hW' := hW
  obtain ⟨p, q, hA0, hV, rfl, hfz, hnd⟩ := hW
  have hA : DataW.TrodAll enc Try.prog W 0 (fun _ => true) true Try.f9.params.toList args.toList ds p := hA0
  rw [Try.params9] at hA hval
  obtain ⟨v0, vs0, d0, ds0, p0, q0, hargs, rfl, rfl, h0, r0⟩ := trodAll_cons hA
  obtain ⟨rfl, rfl, rfl⟩ := trodAll_nil r0
  obtain rfl : args = #[v0] := by cases args; simp_all
  obtain ⟨rfl, rfl⟩ := trodVars_none hV
  obtain ⟨a0, len0, cap0, rfl⟩ := okWide_slice Try.underlying41 (hval 0 41 v0 rfl rfl)
  have lt0 : ∀ x ∈ p0, x.block < W.heap.size := by obtain ⟨m, hm⟩ := h0; exact DataW.trod_lt m _ _ _ hm
  obtain ⟨xs, b0, o0, rfl, hx1, hx2⟩ := steps_open h0
  clear hA0 hval0
  refine (walk xs a0 b0 o0 cap0 W hx1 hx2).mono fun e W' ⟨he, bel⟩ => ?_
  subst he
  exact ⟨_, rfl, _, _, _, [], _, [], hW', trodAll_mk1 (shut_bool Try.underlying4 _), (trodAll_cons_mk (Below.trod laidOut (by kernel_rfl) (of_decide_eq_true (by kernel_rfl)) h0 bel lt0) trodAll_mk0), rfl, bel.frame _, fun h => by cases h⟩
end Claims

/-- THE STATEMENT. -/
theorem fnClaimActsAsAnOwnershipMap_proved : Rows.FnClaimActsAsAnOwnershipMapSaid :=
  OpenClaim.holds_of_wide 9 Try.f9 rfl rfl rfl rfl rfl rfl rfl ⟨rfl, rfl, rfl, rfl, rfl⟩ rfl rfl rfl rfl rfl (by kernel_rfl) Try.func9 (by kernel_rfl)
    (of_decide_eq_true (by kernel_rfl)) (by unfold Func.isWrapper; first | (rw [if_pos (by decide +kernel)]; kernel_rfl) | (rw [if_neg (by decide +kernel)]; exact ⟨rfl, rfl⟩))
    (fun os started H enc _ => Claims.lifted os started H enc)
end Go.Proofs.Qxb6601938a
