/-
  SEAT b6602369a. THE GUARDS.
-/
import Derived.Test.Qxb6602369aCopy
namespace Go.Proofs.Qxb6602369a
open Go.RowKit

/-- Only the tape has moved on. -/
def Drew (w w' : World) : Prop := ∃ n, w' = w.drewN n
theorem Drew.refl (w : World) : Drew w w := ⟨0, rfl⟩
theorem Drew.drewN {w w' : World} (h : Drew w w') (m : Nat) : Drew w (w'.drewN m) := by
  obtain ⟨n, rfl⟩ := h
  exact ⟨n + m, by simp [World.drewN, Nat.add_assoc]⟩
theorem Drew.trans {w w' w'' : World} (h : Drew w w') (h' : Drew w' w'') : Drew w w'' := by
  obtain ⟨n, rfl⟩ := h'
  exact h.drewN n
theorem Drew.cell {w w' : World} (h : Drew w w') {p : Addr} {v : Value} (hc : w.cell? p = some v) : w'.cell? p = some v := by
  obtain ⟨n, rfl⟩ := h
  exact hc
theorem Drew.below {w w' : World} (h : Drew w w') (B : Nat) : Below B w w' := by
  obtain ⟨n, rfl⟩ := h
  exact ⟨rfl, rfl, rfl, Nat.le_refl _, fun _ _ => rfl⟩

/-- What the arguments' form gives. -/
def Lens (nds : List Nd) : Prop := nds.length ≤ maxLen ∧ ∀ k, k < nds.length → (nod nds k).needs.length ≤ maxLen ∧ pl nds k ≤ maxLen ∧ ∀ i, i < pl nds k → ((nod nds k).parts.getD i []).length ≤ maxLen

/-- A guard answers some bool, and if it is true then F. -/
def Guard (w : World) (F : Prop) (e : Ending) (w' : World) : Prop := ∃ β : Bool, e = .returned (.bool β) ∧ Drew w w' ∧ (β = true → F)
theorem Guard.no {w w' : World} {F : Prop} (h : Drew w w') : Guard w F (.returned (.bool false)) w' := ⟨false, rfl, h, fun h => by cases h⟩
theorem Guard.yes {w w' : World} {F : Prop} (h : Drew w w') (hF : F) : Guard w F (.returned (.bool true)) w' := ⟨true, rfl, h, fun _ => hF⟩

set_option maxRecDepth 100000 in
set_option maxHeartbeats 1000000 in
theorem bytes23_any (nds : List Nd) (a : Option Addr) (b o c : Nat) (w : World) (hL : Lens nds) (hN : NodesAt w a b o nds) :
    Calls Try.prog 23 #[.slice a nds.length c] w (Guard w True) := by
  have HN := hid hN
  have HL := hid hL
  have hn := hL.1
  unfold maxLen at hn
  clear hN hL
  by_cases q1 : 1048576 < nds.length
  · go_enter Try.func23, Try.ntmps23
    go_wp2
    go_ret
    exact Guard.no (Drew.refl _)
  · go_enter Try.func23, Try.ntmps23
    go_wp2_with fail
    go_loop [3, 4] (fun s i => ∃ (k : Nat) (m : Int), k ≤ nds.length ∧ i = .int .i64 k ∧ s = .int .i64 m ∧ 0 ≤ m ∧ m ≤ 1048576) (fun _ i => nds.length - (intOf i).toNat)
    case atStart => exact ⟨0, _, Nat.zero_le _, rfl, rfl, by omega, by omega⟩
    case round =>
      obtain ⟨k, m, hk, rfl, rfl, hm0, hm1⟩ := hrel
      by_cases hlt : k < nds.length
      · have ha := HN.out.addr (by omega)
        subst ha
        obtain ⟨u, v, n1, ⟨a1, b1, o1, c1, hu, _⟩, n2, ⟨a2, b2, o2, c2, hv, hpv⟩, n3⟩ := HN.out.node k hlt
        subst hu hv
        obtain ⟨l1, l2, l3⟩ := HL.out.2 k hlt
        have HPV := hid hpv
        have L3 := hid l3
        unfold maxLen at l1 l2
        have e1 : (nod nds k).parts.length = pl nds k := rfl
        rw [e1] at n2
        clear l3 hpv e1
        generalize (nod nds k).needs.length = nl at *
        by_cases x1 : 1048576 < nl
        · go_wp2
          go_ret
          exact Guard.no (Drew.refl _)
        · by_cases x2 : 1048576 < m + nl
          · go_wp2
            go_ret
            exact Guard.no (Drew.refl _)
          · by_cases x3 : 1048576 < pl nds k
            · go_wp2
              go_ret
              exact Guard.no (Drew.refl _)
            · by_cases x4 : 1048576 < m + nl + pl nds k
              · go_wp2
                go_ret
                exact Guard.no (Drew.refl _)
              · go_wp2_with fail
                go_loop [3, 5] (fun s i => ∃ (j : Nat) (m : Int), j ≤ pl nds k ∧ i = .int .i64 j ∧ s = .int .i64 m ∧ 0 ≤ m ∧ m ≤ 1048576) (fun _ i => pl nds k - (intOf i).toNat)
                case atStart => exact ⟨0, _, Nat.zero_le _, rfl, rfl, by omega, by omega⟩
                case round =>
                  obtain ⟨j, m, hj, rfl, rfl, hm0, hm1⟩ := hrel
                  by_cases hlj : j < pl nds k
                  · have ha2 := HPV.out.addr (by have : j < (nod nds k).parts.length := hlj; omega)
                    subst ha2
                    obtain ⟨vp, q1, ⟨a6, b6, o6, c6, hvp, _⟩⟩ := HPV.out.cell j hlj
                    subst hvp
                    have l4 := L3.out j hlj
                    unfold maxLen at l4
                    have i2 : (j : Int) < (pl nds k : Int) := by omega
                    generalize ((nod nds k).parts.getD j []).length = pn at *
                    by_cases y1 : 1048576 < pn
                    · go_wp2
                      go_ret
                      exact Guard.no (Drew.refl _)
                    · by_cases y2 : 1048576 < m + pn
                      · go_wp2
                        go_ret
                        exact Guard.no (Drew.refl _)
                      · go_wp2_with fail
                        go_round
                        case rel => exact ⟨j + 1, _, by omega, by go_num, rfl, by omega, by omega⟩
                        case measure => simp [intOf]; omega
                  · go_wp2_with fail
                    go_round
                    case rel => exact ⟨k + 1, m, by omega, by go_num, rfl, by omega, by omega⟩
                    case measure => simp [intOf]; omega
      · go_wp2_with fail
        go_ret
        exact Guard.yes (Drew.refl _) trivial

/-- Sizes of the first k nodes, and their cost. -/
def SizedTo (nds : List Nd) (k : Nat) : Prop := ∀ q, q < k → (nod nds q).needs.length ≤ 65536 ∧ pl nds q ≤ 65536 ∧ ∀ i, i < pl nds q → ((nod nds q).parts.getD i []).length ≤ 65536
def pcost (nds : List Nd) (k i : Nat) : Nat := (((nod nds k).parts.take i).map List.length).sum
theorem pcost_succ (nds : List Nd) (k i : Nat) (h : i < pl nds k) : pcost nds k (i + 1) = pcost nds k i + ((nod nds k).parts.getD i []).length := by
  unfold pcost
  rw [take_snoc _ [] _ h]
  simp
theorem sum_succ (ps : List (List (Int × Int))) : (ps.map (fun p => p.length + 1)).sum = (ps.map List.length).sum + ps.length := by
  induction ps with
  | nil => rfl
  | cons p ps ih => simp [ih]; omega
theorem cost_succ (nds : List Nd) (k : Nat) : cost nds (k + 1) = cost nds k + ((nod nds k).needs.length + (pcost nds k (pl nds k) + pl nds k)) := by
  simp only [cost, sum_succ, pcost, pl, List.take_length]

def BytesPost (nds : List Nd) (w : World) (e : Ending) (w' : World) : Prop := ∃ v : Int, e = .returned (.int .i64 v) ∧ Drew w w' ∧ (v ≤ 1048576 → Sizes nds ∧ cost nds nds.length ≤ 65536)
theorem BytesPost.no {nds : List Nd} {w w' : World} (h : Drew w w') : BytesPost nds w (.returned (.int .i64 1048577)) w' := ⟨1048577, rfl, h, fun h => by omega⟩

set_option maxRecDepth 100000 in
set_option maxHeartbeats 1000000 in
theorem bytes15_any (nds : List Nd) (a : Option Addr) (b o c : Nat) (w : World) (hL : Lens nds) (hN : NodesAt w a b o nds) :
    Calls Try.prog 15 #[.slice a nds.length c] w (BytesPost nds w) := by
  have HN := hid hN
  have HL := hid hL
  have hn := hL.1
  unfold maxLen at hn
  clear hN hL
  by_cases q1 : 1048576 < nds.length
  · go_enter Try.func15, Try.ntmps15
    go_wp2
    go_ret
    exact BytesPost.no (Drew.refl _)
  · by_cases q2 : 1048576 < nds.length * 56
    · go_enter Try.func15, Try.ntmps15
      go_wp2
      go_ret
      exact BytesPost.no (Drew.refl _)
    · go_enter Try.func15, Try.ntmps15
      go_wp2_with fail
      go_loopw [3, 4] (fun s i wr => ∃ (k : Nat) (m : Int), k ≤ nds.length ∧ i = .int .i64 k ∧ s = .int .i64 m ∧ 56 * (nds.length : Int) + 16 * (cost nds k : Int) ≤ m ∧ m ≤ 1048576 ∧ SizedTo nds k ∧ Drew w wr) (fun _ i _ => nds.length - (intOf i).toNat)
      case atStart => exact ⟨0, _, Nat.zero_le _, rfl, rfl, by simp [cost]; omega, by omega, fun q hq => by omega, Drew.refl _⟩
      case round =>
        obtain ⟨k, m, hk, rfl, rfl, hm0, hm1, hS, hD⟩ := hrel
        have HS := hid hS
        have HD := hid hD
        clear hS hD
        by_cases hlt : k < nds.length
        · have ha := HN.out.addr (by omega)
          subst ha
          obtain ⟨u, v, n1, ⟨a1, b1, o1, c1, hu, _⟩, n2, ⟨a2, b2, o2, c2, hv, hpv⟩, n3⟩ := HN.out.node k hlt
          subst hu hv
          obtain ⟨l1, l2, l3⟩ := HL.out.2 k hlt
          have HPV := hid hpv
          have L3 := hid l3
          unfold maxLen at l1 l2
          have e1 : (nod nds k).parts.length = pl nds k := rfl
          rw [e1] at n2
          have N2 := hid n2
          replace n1 := HD.out.cell n1
          replace n2 := HD.out.cell n2
          clear l3 hpv e1 n3
          have HCS := hid (cost_succ nds k)
          have HNL := hid (show (nod nds k).needs.length = (nod nds k).needs.length from rfl)
          generalize hnl : (nod nds k).needs.length = nl at *
          have HNL2 := hid hnl
          clear hnl HNL
          have i1 : (k : Int) < (nds.length : Int) := by omega
          by_cases x1 : 1048576 < nl
          · have t1 : decide ((1048576 : Int) < nl) = true := by simp; omega
            go_wp2_with fail
            go_ret
            exact BytesPost.no HD.out
          · have t1 : decide ((1048576 : Int) < nl) = false := by simp; omega
            by_cases x3 : 1048576 < pl nds k
            · have t2 : decide ((1048576 : Int) < pl nds k) = true := by simp; omega
              go_wp2_with fail
              go_ret
              exact BytesPost.no HD.out
            · have t2 : decide ((1048576 : Int) < pl nds k) = false := by simp; omega
              have k1 : IntKind.i64.wrap ((nl : Int) * 16) = (nl : Int) * 16 := by rw [IntKind.wrap_i64]; omega
              have k2 : IntKind.i64.wrap ((pl nds k : Int) * 24) = (pl nds k : Int) * 24 := by rw [IntKind.wrap_i64]; omega
              have k3 : IntKind.i64.wrap ((nl : Int) * 16 + (pl nds k : Int) * 24) = (nl : Int) * 16 + (pl nds k : Int) * 24 := by rw [IntKind.wrap_i64]; omega
              have k4 : IntKind.i64.wrap (m + ((nl : Int) * 16 + (pl nds k : Int) * 24)) = m + ((nl : Int) * 16 + (pl nds k : Int) * 24) := by rw [IntKind.wrap_i64]; omega
              by_cases x4 : 1048576 < m + (nl * 16 + pl nds k * 24)
              · go_wp2_with fail
                go_quiet (fail)
                go_wp2_with fail
                go_ret
                exact BytesPost.no (HD.out.drewN _)
              · go_wp2_with fail
                go_quiet (fail)
                go_wp2_with fail
                go_loopw [3, 5] (fun s i wr => ∃ (j : Nat) (m : Int), j ≤ pl nds k ∧ i = .int .i64 j ∧ s = .int .i64 m ∧ 56 * (nds.length : Int) + 16 * ((cost nds k : Int) + nl + pl nds k + pcost nds k j) ≤ m ∧ m ≤ 1048576 ∧ (∀ q, q < j → ((nod nds k).parts.getD q []).length ≤ 65536) ∧ Drew w wr) (fun _ i _ => pl nds k - (intOf i).toNat)
                case atStart => exact ⟨0, _, Nat.zero_le _, rfl, rfl, by simp [pcost]; omega, by omega, fun q hq => by omega, HD.out.drewN _⟩
                case round =>
                  obtain ⟨j, m', hj, rfl, rfl, hm0', hm1', hS', hD'⟩ := hrel
                  have HS' := hid hS'
                  have HD' := hid hD'
                  clear hS' hD'
                  have n2' := HD'.out.cell N2.out
                  by_cases hlj : j < pl nds k
                  · have ha2 := HPV.out.addr (by have : j < (nod nds k).parts.length := hlj; omega)
                    subst ha2
                    obtain ⟨vp, p1, ⟨a6, b6, o6, c6, hvp, _⟩⟩ := HPV.out.cell j hlj
                    subst hvp
                    replace p1 := HD'.out.cell p1
                    have l4 := L3.out j hlj
                    unfold maxLen at l4
                    have i2 : (j : Int) < (pl nds k : Int) := by omega
                    have hps := pcost_succ nds k j hlj
                    have HX := hid (fun (h : ((nod nds k).parts.getD j []).length ≤ 65536) q (hq : q < j + 1) => show ((nod nds k).parts.getD q []).length ≤ 65536 from if e : q = j then by rw [e]; exact h else HS'.out q (by omega))
                    generalize ((nod nds k).parts.getD j []).length = pn at *
                    have HPS := hid hps
                    clear hps
                    by_cases y1 : 1048576 < pn
                    · go_wp2_with fail
                      go_ret
                      exact BytesPost.no HD'.out
                    · by_cases y2 : 1048576 < m' + pn * 16
                      · go_wp2_with fail
                        go_ret
                        exact BytesPost.no HD'.out
                      · go_wp2_with fail
                        go_roundw
                        case rel => exact ⟨j + 1, _, by omega, by go_num, rfl, by rw [HPS.out]; omega, by omega, HX.out (by omega), HD'.out⟩
                        case measure => simp [intOf]; omega
                  · have ej : j = pl nds k := by omega
                    subst ej
                    go_wp2_with fail
                    go_roundw
                    case rel =>
                      refine ⟨k + 1, m', by omega, by go_num, rfl, by rw [HCS.out]; omega, by omega, fun q hq => ?_, HD'.out⟩
                      by_cases e : q = k
                      · subst e
                        exact ⟨by rw [HNL2.out]; omega, by omega, HS'.out⟩
                      · exact HS.out q (by omega)
                    case measure => simp [intOf]; omega
        · have ek : k = nds.length := by omega
          subst ek
          go_wp2_with fail
          go_ret
          exact ⟨m, rfl, HD.out, fun _ => ⟨⟨by omega, HS.out⟩, by omega⟩⟩
end Go.Proofs.Qxb6602369a
