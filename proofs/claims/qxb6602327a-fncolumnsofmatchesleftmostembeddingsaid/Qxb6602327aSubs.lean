/-
  SEAT b6602327a. zzColsPrefixEqual AND zzColsTailIsSubsequence.
-/
import Derived.Test.Qxb6602327aPlain
import Derived.BigQuiet
namespace Go.Proofs.Qxb6602327a
open Go.RowKit

theorem take_ne {xs ys : List ByteArray} {k r : Nat} (hk : k < r) (h : xs.getD k str0 ≠ ys.getD k str0) : xs.take r ≠ ys.take r := by
  intro e
  have h1 : (xs.take r)[k]? = (ys.take r)[k]? := by rw [e]
  simp only [List.getElem?_take, hk, if_true] at h1
  exact h (by simp [List.getD, h1])

theorem prefix10_any (xs hs : List ByteArray) (r : Nat) (hr : r ≤ hs.length) (a1 a2 : Option Addr) (b1 o1 c1 b2 o2 c2 : Nat) (w : World) (hn : xs.length ≤ 65536) (hm : hs.length ≤ 65536) (h1 : StrsIn w a1 b1 o1 xs) (h2 : StrsIn w a2 b2 o2 hs) :
    Calls Try.prog 10 #[.slice a1 xs.length c1, .slice a2 hs.length c2, .int .i64 r] w fun e w' => e = .returned (.bool (decide (r ≤ xs.length ∧ xs.take r = hs.take r))) ∧ Drew w w' := by
  have H1 := hid h1
  have H2 := hid h2
  clear h1 h2
  by_cases q1 : xs.length < r
  · have t1 : decide (xs.length < r) = true := by simp; omega
    have q2 : ¬ (r ≤ xs.length ∧ xs.take r = hs.take r) := fun h => by omega
    rw [decide_eq_false q2]
    clear q2
    go_enter Try.func10, Try.ntmps10
    go_wp2_with fail
    go_ret
    exact ⟨rfl, Drew.refl _⟩
  · have t1 : decide (xs.length < r) = false := by simp; omega
    have t2 : decide (hs.length < r) = false := by simp; omega
    have hrx : r ≤ xs.length := by omega
    generalize hβ : decide (r ≤ xs.length ∧ xs.take r = hs.take r) = β
    have HQ := hid hβ
    clear hβ
    go_enter Try.func10, Try.ntmps10
    go_wp2_with fail
    go_loopw [7] (fun i wr => Drew w wr ∧ ∃ k : Nat, k ≤ r ∧ i = .int .i64 k ∧ xs.take k = hs.take k) (fun i _ => r - (intOf i).toNat)
    case atStart => exact ⟨Drew.refl _, 0, Nat.zero_le _, rfl, rfl⟩
    case round =>
      obtain ⟨hd, k, hk, rfl, he⟩ := hrel
      have HD := hid hd
      have HE := hid he
      clear hd he
      by_cases hlt : k < r
      · have hx : k < xs.length := by omega
        have hy : k < hs.length := by omega
        have ha1 := H1.out.addr (by omega)
        have ha2 := H2.out.addr (by omega)
        subst ha1 ha2
        have s1 := HD.out.cell (H1.out.cell k hx)
        have s2 := HD.out.cell (H2.out.cell k hy)
        have i1 : (k : Int) < (xs.length : Int) := by omega
        have i2 : (k : Int) < (hs.length : Int) := by omega
        by_cases e : xs.getD k str0 = hs.getD k str0
        · have HN := hid (take_succ_eq hx hy HE.out e)
          rw [e] at s1
          clear e
          generalize hs.getD k str0 = y at *
          go_wp2_with fail
          go_quiet (fail)
          go_wp2_with fail
          go_roundw
          case rel => exact ⟨HD.out.drewN _, k + 1, by omega, by go_num, HN.out⟩
          case measure => simp [intOf]; omega
        · have HN := hid (take_ne hlt e)
          have t3 : ((xs.getD k str0).toList == (hs.getD k str0).toList) = false := by rw [beq_str]; exact decide_eq_false e
          clear e
          generalize xs.getD k str0 = x at *
          generalize hs.getD k str0 = y at *
          go_wp2_with fail
          go_quiet (fail)
          go_wp2_with fail
          go_ret
          refine ⟨?_, HD.out.drewN _⟩
          rw [← HQ.out, decide_eq_false (fun h => HN.out h.2)]
          rfl
      · have ek : k = r := by omega
        subst ek
        have t3 : decide (k < k) = false := by simp
        go_wp2_with fail
        go_ret
        refine ⟨?_, HD.out⟩
        rw [← HQ.out, decide_eq_true ⟨hrx, HE.out⟩]
        rfl

/-- The tail of xs is a subsequence of the tail of hs: told by the bool. -/
def TailPost (w : World) (xs hs : List ByteArray) (r : Nat) (e : Ending) (w' : World) : Prop := ∃ β : Bool, e = .returned (.bool β) ∧ (β = true ↔ (xs.drop r).Sublist (hs.drop r)) ∧ Drew w w'

theorem tail11_any (xs hs : List ByteArray) (r : Nat) (hrx : r ≤ xs.length) (hr : r ≤ hs.length) (a1 a2 : Option Addr) (b1 o1 c1 b2 o2 c2 : Nat) (w : World) (hn : xs.length ≤ 65536) (hm : hs.length ≤ 65536) (h1 : StrsIn w a1 b1 o1 xs) (h2 : StrsIn w a2 b2 o2 hs) :
    Calls Try.prog 11 #[.slice a1 xs.length c1, .slice a2 hs.length c2, .int .i64 r] w (TailPost w xs hs r) := by
  have H1 := hid h1
  have H2 := hid h2
  clear h1 h2
  have k1 : IntKind.i64.wrap ((xs.length : Int) - 1) = (xs.length : Int) - 1 := by rw [IntKind.wrap_i64]; omega
  have k2 : IntKind.i64.wrap ((hs.length : Int) - 1) = (hs.length : Int) - 1 := by rw [IntKind.wrap_i64]; omega
  go_enter Try.func11, Try.ntmps11
  go_wp2_with fail
  go_loopw [7, 8] (fun i j wr => Drew w wr ∧ ∃ (p q : Nat) (y z : Int), r ≤ p ∧ p ≤ xs.length ∧ r ≤ q ∧ q ≤ hs.length ∧ i = .int .i64 y ∧ j = .int .i64 z ∧ y = (p : Int) - 1 ∧ z = (q : Int) - 1 ∧ ((xs.drop r).Sublist (hs.drop r) ↔ (mid xs r p).Sublist (mid hs r q))) (fun _ j _ => (intOf j + 1).toNat)
  case atStart => exact ⟨Drew.refl _, xs.length, hs.length, _, _, hrx, Nat.le_refl _, hr, Nat.le_refl _, rfl, rfl, rfl, rfl, by rw [mid_all, mid_all]⟩
  case round =>
    obtain ⟨hd, p, q, y, z, p1, p2, q1, q2, rfl, rfl, hy, hz, he⟩ := hrel
    have HD := hid hd
    have HE := hid he
    clear hd he
    by_cases hp : r < p
    · obtain ⟨p, rfl⟩ : ∃ p', p = p' + 1 := ⟨p - 1, by omega⟩
      obtain rfl : y = (p : Int) := by omega
      clear hy
      have t1 : decide (r ≤ p) = true := by simp; omega
      by_cases hq : r < q
      · obtain ⟨q, rfl⟩ : ∃ q', q = q' + 1 := ⟨q - 1, by omega⟩
        obtain rfl : z = (q : Int) := by omega
        clear hz
        have t2 : decide (r ≤ q) = true := by simp; omega
        have ha1 := H1.out.addr (by omega)
        have ha2 := H2.out.addr (by omega)
        subst ha1 ha2
        have s1 := HD.out.cell (H1.out.cell p (by omega))
        have s2 := HD.out.cell (H2.out.cell q (by omega))
        have i1 : (p : Int) < (xs.length : Int) := by omega
        have i2 : (q : Int) < (hs.length : Int) := by omega
        have k3 : IntKind.i64.wrap ((p : Int) - 1) = (p : Int) - 1 := by rw [IntKind.wrap_i64]; omega
        have k4 : IntKind.i64.wrap ((q : Int) - 1) = (q : Int) - 1 := by rw [IntKind.wrap_i64]; omega
        have HE2 := hid (show (xs.drop r).Sublist (hs.drop r) ↔ (mid xs r p ++ [xs.getD p str0]).Sublist (mid hs r q ++ [hs.getD q str0]) by rw [HE.out, mid_snoc xs r p (by omega) (by omega), mid_snoc hs r q (by omega) (by omega)])
        by_cases e : xs.getD p str0 = hs.getD q str0
        · rw [e] at s1 HE2
          have HN := hid (HE2.out.trans snoc_same)
          clear HE2 HE e
          generalize hs.getD q str0 = x at *
          go_wp2_with fail
          go_quiet (fail)
          go_wp2_with fail
          go_roundw
          case rel => exact ⟨HD.out.drewN _, p, q, _, _, by omega, by omega, by omega, by omega, rfl, rfl, rfl, rfl, HN.out⟩
          case measure => simp [intOf]
        · have HN := hid ((HE2.out.trans (snoc_other e)).trans (by rw [← mid_snoc xs r p (by omega) (by omega)]))
          have t3 : ((xs.getD p str0).toList == (hs.getD q str0).toList) = false := by rw [beq_str]; exact decide_eq_false e
          clear HE2 HE e
          generalize hs.getD q str0 = x at *
          generalize xs.getD p str0 = x' at *
          go_wp2_with fail
          go_quiet (fail)
          go_wp2_with fail
          go_roundw
          case rel => exact ⟨HD.out.drewN _, p + 1, q, _, _, by omega, by omega, by omega, by omega, rfl, rfl, by omega, rfl, HN.out⟩
          case measure => simp [intOf]
      · have t2 : decide ((r : Int) ≤ z) = false := by simp; omega
        have t4 : decide (p < r) = false := by simp; omega
        have hq' : q = r := by omega
        subst hq'
        have HN := hid (show ¬ (xs.drop q).Sublist (hs.drop q) by
          rw [HE.out, mid_nil hs q q (Nat.le_refl _), List.sublist_nil]
          exact mid_pos xs q (p + 1) (by omega) p2)
        clear HE hz
        go_wp2_with fail
        go_ret
        exact ⟨false, rfl, by simp [HN.out], HD.out⟩
    · have t1 : decide ((r : Int) ≤ y) = false := by simp; omega
      have t4 : decide (y < (r : Int)) = true := by simp; omega
      have HN := hid (show (xs.drop r).Sublist (hs.drop r) by
        rw [HE.out, mid_nil xs r p (by omega)]
        exact List.nil_sublist _)
      clear HE hz hy
      go_wp2_with fail
      go_ret
      exact ⟨true, rfl, by simp [HN.out], HD.out⟩
end Go.Proofs.Qxb6602327a
