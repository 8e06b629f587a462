/-
  SEAT b6602369a. nodesNameItems, refLess, countOthers.
-/
import Derived.Test.Qxb6602369aGuards
import Derived.Test.Qxb6602369aPlainLaw
namespace Go.Proofs.Qxb6602369a
open Go.RowKit

set_option maxRecDepth 100000 in
set_option maxHeartbeats 1000000 in
theorem names38_any (rs : List (Int × Int)) (a1 : Option Addr) (b1 o1 c1 : Nat) (nds : List Nd) (a : Option Addr) (b o c : Nat) (w : World) (hr : rs.length ≤ 65536) (hn : nds.length ≤ 65536) (h1 : RefsAt w a1 b1 o1 rs) (hN : NodesAt w a b o nds) :
    Calls Try.prog 38 #[.slice a1 rs.length c1, .slice a nds.length c] w (Guard w (∀ j, j < rs.length → RefOk nds (rs.getD j (0, 0)))) := by
  have HN := hid hN
  have H1 := hid h1
  clear hN h1
  go_enter Try.func38, Try.ntmps38
  go_wp2_with fail
  go_loopw [5] (fun i wr => ∃ k : Nat, k ≤ rs.length ∧ i = .int .i64 k ∧ (∀ j, j < k → RefOk nds (rs.getD j (0, 0))) ∧ Drew w wr) (fun i _ => rs.length - (intOf i).toNat)
  case atStart => exact ⟨0, Nat.zero_le _, rfl, fun j hj => by omega, Drew.refl _⟩
  case round =>
    obtain ⟨k, hk, rfl, hO, hD⟩ := hrel
    have HO := hid hO
    have HD := hid hD
    clear hO hD
    by_cases hlt : k < rs.length
    · have ha1 := H1.out.addr (by omega)
      subst ha1
      have m1 := HD.out.cell (H1.out.node k hlt)
      have m2 := HD.out.cell (H1.out.part k hlt)
      have i1 : (k : Int) < (rs.length : Int) := by omega
      have HX := hid (fun (h : RefOk nds (rs.getD k (0, 0))) j (hj : j < k + 1) => show RefOk nds (rs.getD j (0, 0)) from if e : j = k then by rw [e]; exact h else HO.out j (by omega))
      generalize rs.getD k (0, 0) = r at *
      obtain ⟨x, p⟩ := r
      simp only [] at m1 m2
      by_cases q1 : x < 0
      · have t1 : decide (x < 0) = true := by simp; omega
        go_wp2_with fail
        go_ret
        exact Guard.no HD.out
      · have t1 : decide (x < 0) = false := by simp; omega
        by_cases q2 : (nds.length : Int) ≤ x
        · have t2 : decide ((nds.length : Int) ≤ x) = true := by simp; omega
          go_wp2_with fail
          go_ret
          exact Guard.no HD.out
        · have t2 : decide ((nds.length : Int) ≤ x) = false := by simp; omega
          obtain ⟨q, rfl⟩ : ∃ q : Nat, x = (q : Int) := ⟨x.toNat, by omega⟩
          have hq : q < nds.length := by omega
          have ha := HN.out.addr (by omega)
          subst ha
          obtain ⟨u, v, n1, ⟨a6, b6, o6, c6, hu, _⟩, n2, ⟨a2, b2, o2, c2, hv, hpv⟩, n3⟩ := HN.out.node q hq
          subst hu hv
          have e1 : (nod nds q).parts.length = pl nds q := rfl
          rw [e1] at n2
          replace n2 := HD.out.cell n2
          clear n1 n3 hpv e1
          have i2 : (q : Int) < (nds.length : Int) := by omega
          have t2' : decide (nds.length ≤ q) = false := by simp; omega
          by_cases q3 : p < 0
          · have t3 : decide (p < 0) = true := by simp; omega
            go_wp2_with fail
            go_quiet (fail)
            go_wp2_with fail
            go_ret
            exact Guard.no (HD.out.drewN _)
          · have t3 : decide (p < 0) = false := by simp; omega
            by_cases q4 : (pl nds q : Int) < p
            · have t4 : decide ((pl nds q : Int) < p) = true := by simp; omega
              go_wp2_with fail
              go_quiet (fail)
              go_wp2_with fail
              go_ret
              exact Guard.no (HD.out.drewN _)
            · have t4 : decide ((pl nds q : Int) < p) = false := by simp; omega
              have HOK := hid (HX.out ⟨by omega, by omega, by show 0 ≤ p; omega, by show p ≤ _; simp; omega⟩)
              go_wp2_with fail
              go_quiet (fail)
              go_wp2_with fail
              go_roundw
              case rel => exact ⟨k + 1, by omega, by go_num, HOK.out, HD.out.drewN _⟩
              case measure => simp [intOf]; omega
    · have ek : k = rs.length := by omega
      subst ek
      go_wp2_with fail
      go_ret
      exact Guard.yes HD.out HO.out

/-- Named, up to node k. -/
def NamedTo (nds : List Nd) (k : Nat) : Prop := ∀ q, q < k → (∀ j, j < (nod nds q).needs.length → RefOk nds ((nod nds q).needs.getD j (0, 0))) ∧ ∀ i, i < pl nds q → ∀ j, j < ((nod nds q).parts.getD i []).length → RefOk nds (((nod nds q).parts.getD i []).getD j (0, 0))

set_option maxRecDepth 100000 in
set_option maxHeartbeats 1000000 in
theorem names24_any (nds : List Nd) (a : Option Addr) (b o c : Nat) (w : World) (hZ : Sizes nds) (hN : NodesAt w a b o nds) :
    Calls Try.prog 24 #[.slice a nds.length c] w (Guard w (Named nds)) := by
  have HN := hid hN
  have HZ := hid hZ
  have hn := hZ.1
  clear hN hZ
  go_enter Try.func24, Try.ntmps24
  go_wp2_with fail
  go_loopw [3] (fun i wr => ∃ k : Nat, k ≤ nds.length ∧ i = .int .i64 k ∧ NamedTo nds k ∧ Drew w wr) (fun i _ => nds.length - (intOf i).toNat)
  case atStart => exact ⟨0, Nat.zero_le _, rfl, fun j hj => by omega, Drew.refl _⟩
  case round =>
    obtain ⟨k, hk, rfl, hO, hD⟩ := hrel
    have HO := hid hO
    have HD := hid hD
    clear hO hD
    by_cases hlt : k < nds.length
    · have ha := HN.out.addr (by omega)
      subst ha
      obtain ⟨u, v, n1, ⟨a1, b1, o1, c1, hu, hru⟩, n2, ⟨a2, b2, o2, c2, hv, hpv⟩, n3⟩ := HN.out.node k hlt
      subst hu hv
      obtain ⟨z1, z2, z3⟩ := HZ.out.2 k hlt
      have HRU := hid hru
      have HPV := hid hpv
      have Z3 := hid z3
      have e1 : (nod nds k).parts.length = pl nds k := rfl
      rw [e1] at n2
      have N2 := hid n2
      replace n1 := HD.out.cell n1
      have i1 : (k : Int) < (nds.length : Int) := by omega
      clear hru hpv z3 e1 n2 n3
      go_wp2_with fail
      refine (names38_any (nod nds k).needs a1 b1 o1 c1 nds (some ⟨b, o, none⟩) b o c wr z1 hn (HRU.out.below (HD.out.below _)) (HN.out.below (HD.out.below _))).mono ?_
      rintro e w1 ⟨β, rfl, hd1, hF1⟩
      have HD1 := hid (HD.out.trans hd1)
      have HF1 := hid hF1
      clear hd1 hF1
      cases β with
      | false =>
        go_wp2_with fail
        go_ret
        exact Guard.no HD1.out
      | true =>
        go_wp2_with fail
        go_loopw [4] (fun i wr => ∃ j : Nat, j ≤ pl nds k ∧ i = .int .i64 j ∧ (∀ q, q < j → ∀ r, r < ((nod nds k).parts.getD q []).length → RefOk nds (((nod nds k).parts.getD q []).getD r (0, 0))) ∧ Drew w wr) (fun i _ => pl nds k - (intOf i).toNat)
        case atStart => exact ⟨0, Nat.zero_le _, rfl, fun j hj => by omega, HD1.out⟩
        case round =>
          obtain ⟨j, hj, rfl, hP, hD'⟩ := hrel
          have HP := hid hP
          have HD' := hid hD'
          clear hP hD'
          have n2 := HD'.out.cell N2.out
          by_cases hlj : j < pl nds k
          · have ha2 := HPV.out.addr (by have : j < (nod nds k).parts.length := hlj; omega)
            subst ha2
            obtain ⟨vp, p1, ⟨a6, b6, o6, c6, hvp, hrp⟩⟩ := HPV.out.cell j hlj
            subst hvp
            replace p1 := HD'.out.cell p1
            have HRP := hid hrp
            have l4 := Z3.out j hlj
            have i2 : (j : Int) < (pl nds k : Int) := by omega
            have HX := hid (fun (h : ∀ r, r < ((nod nds k).parts.getD j []).length → RefOk nds (((nod nds k).parts.getD j []).getD r (0, 0))) q (hq : q < j + 1) => show ∀ r, r < ((nod nds k).parts.getD q []).length → RefOk nds (((nod nds k).parts.getD q []).getD r (0, 0)) from if e : q = j then by rw [e]; exact h else HP.out q (by omega))
            clear hrp
            generalize (nod nds k).parts.getD j [] = ps at p1 HRP l4 HX
            go_wp2_with fail
            refine (names38_any ps a6 b6 o6 c6 nds (some ⟨b, o, none⟩) b o c wr l4 hn (HRP.out.below (HD'.out.below _)) (HN.out.below (HD'.out.below _))).mono ?_
            rintro e w2 ⟨β, rfl, hd2, hF2⟩
            have HD2 := hid (HD'.out.trans hd2)
            have HF2 := hid hF2
            clear hd2 hF2
            cases β with
            | false =>
              go_wp2_with fail
              go_ret
              exact Guard.no HD2.out
            | true =>
              go_wp2_with fail
              go_roundw
              case rel => exact ⟨j + 1, by omega, by go_num, HX.out (HF2.out trivial), HD2.out⟩
              case measure => simp [intOf]; omega
          · have ej : j = pl nds k := by omega
            subst ej
            go_wp2_with fail
            go_roundw
            case rel =>
              refine ⟨k + 1, by omega, by go_num, fun q hq => ?_, HD'.out⟩
              by_cases e : q = k
              · subst e
                exact ⟨HF1.out trivial, HP.out⟩
              · exact HO.out q (by omega)
            case measure => simp [intOf]; omega
    · have ek : k = nds.length := by omega
      subst ek
      go_wp2_with fail
      go_ret
      exact Guard.yes HD.out HO.out

/-- refLess, at two Refs that rise. -/
theorem less26_any (x1 p1 x2 p2 : Nat) (w : World) (h : x1 < x2 ∨ (x1 = x2 ∧ p1 < p2)) :
    Calls Try.prog 26 #[.agg #[.int .i64 x1, .int .i64 p1], .agg #[.int .i64 x2, .int .i64 p2]] w fun e w' => e = .returned (.bool true) ∧ Below w.heap.size w w' := by
  by_cases h1 : x1 < x2
  · have t1 : decide (x1 < x2) = true := by simp; omega
    go_enter Try.func26, Try.ntmps26
    go_wp2_with fail
    go_ret
    exact ⟨rfl, ((Below.refl _ _).alloc (Nat.le_refl _) _).alloc (by simp) _⟩
  · have h2 : x1 = x2 ∧ p1 < p2 := by omega
    obtain ⟨rfl, h3⟩ := h2
    have t1 : decide (x1 < x1) = false := by simp
    have t2 : decide (p1 < p2) = true := by simp; omega
    go_enter Try.func26, Try.ntmps26
    go_wp2_with fail
    go_ret
    exact ⟨rfl, ((Below.refl _ _).alloc (Nat.le_refl _) _).alloc (by simp) _⟩


theorem count27_any (rs : List (Int × Int)) (a1 : Option Addr) (b1 o1 c1 own : Nat) (w : World) (hr : rs.length ≤ 65536) (h1 : RefsAt w a1 b1 o1 rs) :
    Calls Try.prog 27 #[.slice a1 rs.length c1, .int .i64 own] w fun e w' => e = .returned (.int .i64 ((others own rs : Nat) : Int)) ∧ w' = w := by
  have H1 := hid h1
  clear h1
  go_enter Try.func27, Try.ntmps27
  go_wp2_with fail
  go_loop [5, 6] (fun s i => ∃ k : Nat, k ≤ rs.length ∧ i = .int .i64 k ∧ s = .int .i64 ((others own (rs.take k) : Nat) : Int)) (fun _ i => rs.length - (intOf i).toNat)
  case atStart => exact ⟨0, Nat.zero_le _, rfl, rfl⟩
  case round =>
    obtain ⟨k, hk, rfl, rfl⟩ := hrel
    have hol : others own (rs.take k) ≤ 65536 := by
      refine Nat.le_trans (List.length_filter_le _ _) ?_
      simp; omega
    by_cases hlt : k < rs.length
    · have ha1 := H1.out.addr (by omega)
      subst ha1
      have m1 := H1.out.node k hlt
      have i1 : (k : Int) < (rs.length : Int) := by omega
      have HT := hid (show others own (rs.take (k + 1)) = others own (rs.take k) + (if (rs.getD k (0, 0)).1 = (own : Int) then 0 else 1) by
        rw [take_snoc rs (0, 0) k hlt, others_append]
        congr 1
        by_cases e : (rs.getD k (0, 0)).1 = (own : Int)
        · rw [if_pos e]; simp only [others, List.filter, e]; simp
        · rw [if_neg e]
          have : ((rs.getD k (0, 0)).1 != (own : Int)) = true := by simp only [bne_iff_ne]; exact e
          simp only [others, List.filter, this]; rfl)
      generalize (rs.getD k (0, 0)).1 = x at *
      generalize others own (rs.take k) = s at *
      by_cases e : x = (own : Int)
      · have t1 : (x != (own : Int)) = false := by simp [e]
        rw [if_pos e] at HT
        clear e
        go_wp2_with fail
        go_round
        case rel => exact ⟨k + 1, by omega, by go_num, by rw [HT.out]; rfl⟩
        case measure => simp [intOf]; omega
      · have t1 : (x != (own : Int)) = true := by simp only [bne_iff_ne]; exact e
        rw [if_neg e] at HT
        clear e
        go_wp2_with fail
        go_round
        case rel => exact ⟨k + 1, by omega, by go_num, by rw [HT.out]; go_num⟩
        case measure => simp [intOf]; omega
    · have ek : k = rs.length := by omega
      subst ek
      go_wp2_with fail
      go_ret
      exact ⟨rfl, rfl⟩
end Go.Proofs.Qxb6602369a
