/-
  SEAT b6602327a. THE SIZE GUARDS.
-/
import Derived.Test.Qxb6602327aStrs
namespace Go.Proofs.Qxb6602327a
open Go.RowKit

/-- A guard answers some bool, and if it is true then F. -/
def Guard (w : World) (F : Prop) (e : Ending) (w' : World) : Prop := ∃ β : Bool, e = .returned (.bool β) ∧ w = w' ∧ (β = true → F)
theorem Guard.no {w : World} {F : Prop} : Guard w F (.returned (.bool false)) w := ⟨false, rfl, rfl, fun h => by cases h⟩
theorem Guard.yes {w : World} {F : Prop} (h : F) : Guard w F (.returned (.bool true)) w := ⟨true, rfl, rfl, fun _ => h⟩

theorem bytes14_any (xs : List ByteArray) (a1 a2 : Option Addr) (b1 o1 c1 n2 c2 : Nat) (z : Int) (w : World) (hn : xs.length ≤ maxLen) (hm : n2 ≤ maxLen) (h1 : StrsIn w a1 b1 o1 xs) :
    Calls Try.prog 14 #[.slice a1 xs.length c1, .int .i64 z, .slice a2 n2 c2] w (Guard w True) := by
  unfold maxLen at hn hm
  have H1 := hid h1
  clear h1
  by_cases q1 : 1048576 < xs.length
  · go_enter Try.func14, Try.ntmps14
    go_wp2
    go_ret
    exact Guard.no
  · go_enter Try.func14, Try.ntmps14
    go_wp2
    go_loop [7, 8] (fun n i => ∃ (k : Nat) (m : Int), k ≤ xs.length ∧ i = .int .i64 k ∧ n = .int .i64 m ∧ 0 ≤ m ∧ m ≤ 1048576) (fun _ i => xs.length - (intOf i).toNat)
    case atStart => exact ⟨0, _, Nat.zero_le _, rfl, rfl, by omega, by omega⟩
    case round =>
      obtain ⟨k, m, hk, rfl, rfl, hm0, hm1⟩ := hrel
      by_cases hlt : k < xs.length
      · have ha := H1.out.addr (by omega)
        subst ha
        have s1 := H1.out.cell k hlt
        generalize xs.getD k str0 = x at *
        by_cases hx1 : 1048576 < x.size
        · go_wp2
          go_ret
          exact Guard.no
        · by_cases hx2 : 1048576 < m + x.size
          · go_wp2
            go_ret
            exact Guard.no
          · go_wp2
            go_round
            case rel => exact ⟨k + 1, _, by omega, by go_num, rfl, by omega, by omega⟩
            case measure => simp [intOf]; omega
      · by_cases hx1 : 1048576 < n2
        · go_wp2
          go_ret
          exact Guard.no
        · by_cases hx2 : 1048576 < m + n2
          · go_wp2
            go_ret
            exact Guard.no
          · go_wp2
            go_ret
            exact Guard.yes trivial

theorem bytes6_any (xs ys : List ByteArray) (a1 a2 : Option Addr) (b1 o1 c1 b2 o2 c2 : Nat) (z : Int) (w : World) (hn : xs.length ≤ maxLen) (hm : ys.length ≤ maxLen) (h1 : StrsIn w a1 b1 o1 xs) (h2 : StrsIn w a2 b2 o2 ys) :
    Calls Try.prog 6 #[.slice a1 xs.length c1, .slice a2 ys.length c2, .int .i64 z] w (Guard w True) := by
  unfold maxLen at hn hm
  have H1 := hid h1
  have H2 := hid h2
  clear h1 h2
  by_cases q1 : 1048576 < xs.length
  · go_enter Try.func6, Try.ntmps6
    go_wp2
    go_ret
    exact Guard.no
  · go_enter Try.func6, Try.ntmps6
    go_wp2
    go_loop [7, 8] (fun n i => ∃ (k : Nat) (m : Int), k ≤ xs.length ∧ i = .int .i64 k ∧ n = .int .i64 m ∧ 0 ≤ m ∧ m ≤ 1048576) (fun _ i => xs.length - (intOf i).toNat)
    case atStart => exact ⟨0, _, Nat.zero_le _, rfl, rfl, by omega, by omega⟩
    case round =>
      obtain ⟨k, m, hk, rfl, rfl, hm0, hm1⟩ := hrel
      by_cases hlt : k < xs.length
      · have ha := H1.out.addr (by omega)
        subst ha
        have s1 := H1.out.cell k hlt
        generalize xs.getD k str0 = x at *
        by_cases hx1 : 1048576 < x.size
        · go_wp2
          go_ret
          exact Guard.no
        · by_cases hx2 : 1048576 < m + x.size
          · go_wp2
            go_ret
            exact Guard.no
          · go_wp2
            go_round
            case rel => exact ⟨k + 1, _, by omega, by go_num, rfl, by omega, by omega⟩
            case measure => simp [intOf]; omega
      · by_cases hx1 : 1048576 < ys.length
        · go_wp2
          go_ret
          exact Guard.no
        · by_cases hx2 : 1048576 < m + ys.length
          · go_wp2
            go_ret
            exact Guard.no
          · go_wp2
            go_loop [7, 9] (fun n i => ∃ (k : Nat) (m : Int), k ≤ ys.length ∧ i = .int .i64 k ∧ n = .int .i64 m ∧ 0 ≤ m ∧ m ≤ 1048576) (fun _ i => ys.length - (intOf i).toNat)
            case atStart => exact ⟨0, _, Nat.zero_le _, rfl, rfl, by omega, by omega⟩
            case round =>
              obtain ⟨k, m, hk, rfl, rfl, hm0, hm1⟩ := hrel
              by_cases hlt : k < ys.length
              · have ha := H2.out.addr (by omega)
                subst ha
                have s1 := H2.out.cell k hlt
                generalize ys.getD k str0 = x at *
                by_cases hx1 : 1048576 < x.size
                · go_wp2
                  go_ret
                  exact Guard.no
                · by_cases hx2 : 1048576 < m + x.size
                  · go_wp2
                    go_ret
                    exact Guard.no
                  · go_wp2
                    go_round
                    case rel => exact ⟨k + 1, _, by omega, by go_num, rfl, by omega, by omega⟩
                    case measure => simp [intOf]; omega
              · go_wp2
                go_ret
                exact Guard.yes trivial

def Fit (n m : Nat) (z : Int) : Prop := n ≤ 65536 ∧ m ≤ 65536 ∧ 0 ≤ z ∧ z ≤ 65536

theorem fit7_any (xs ys : List ByteArray) (a1 a2 : Option Addr) (b1 o1 c1 b2 o2 c2 : Nat) (z : Int) (w : World) (hn : xs.length ≤ maxLen) (hm : ys.length ≤ maxLen) (h1 : StrsIn w a1 b1 o1 xs) (h2 : StrsIn w a2 b2 o2 ys) :
    Calls Try.prog 7 #[.slice a1 xs.length c1, .slice a2 ys.length c2, .int .i64 z] w (Guard w (Fit xs.length ys.length z)) := by
  unfold maxLen at hn hm
  have H1 := hid h1
  have H2 := hid h2
  clear h1 h2
  by_cases q1 : 65536 < xs.length
  · have t1 : decide ((65536 : Int) < xs.length) = true := by simp; omega
    go_enter Try.func7, Try.ntmps7
    go_wp2
    go_ret
    exact Guard.no
  · have t1 : decide ((65536 : Int) < xs.length) = false := by simp; omega
    by_cases q2 : 65536 < ys.length
    · have t2 : decide ((65536 : Int) < ys.length) = true := by simp; omega
      go_enter Try.func7, Try.ntmps7
      go_wp2
      go_ret
      exact Guard.no
    · have t2 : decide ((65536 : Int) < ys.length) = false := by simp; omega
      by_cases q3 : z < 0
      · have t3 : decide (z < 0) = true := by simp; omega
        go_enter Try.func7, Try.ntmps7
        go_wp2
        go_ret
        exact Guard.no
      · have t3 : decide (z < 0) = false := by simp; omega
        by_cases q4 : 65536 < z
        · have t4 : decide (65536 < z) = true := by simp; omega
          go_enter Try.func7, Try.ntmps7
          go_wp2
          go_ret
          exact Guard.no
        · have t4 : decide (65536 < z) = false := by simp; omega
          by_cases q5 : 1048576 < 16 * (xs.length : Int) + 16 * ys.length + z
          · go_enter Try.func7, Try.ntmps7
            go_wp2
            go_ret
            exact Guard.no
          · go_enter Try.func7, Try.ntmps7
            go_wp2
            go_loop [7, 8] (fun n i => ∃ (k : Nat) (m : Int), k ≤ xs.length ∧ i = .int .i64 k ∧ n = .int .i64 m ∧ 0 ≤ m ∧ m ≤ 1048576) (fun _ i => xs.length - (intOf i).toNat)
            case atStart => exact ⟨0, _, Nat.zero_le _, rfl, rfl, by omega, by omega⟩
            case round =>
              obtain ⟨k, m, hk, rfl, rfl, hm0, hm1⟩ := hrel
              by_cases hlt : k < xs.length
              · have ha := H1.out.addr (by omega)
                subst ha
                have s1 := H1.out.cell k hlt
                generalize xs.getD k str0 = x at *
                by_cases hx1 : 1048576 < x.size
                · go_wp2
                  go_ret
                  exact Guard.no
                · by_cases hx2 : 1048576 < m + x.size
                  · go_wp2
                    go_ret
                    exact Guard.no
                  · go_wp2
                    go_round
                    case rel => exact ⟨k + 1, _, by omega, by go_num, rfl, by omega, by omega⟩
                    case measure => simp [intOf]; omega
              · go_wp2
                go_loop [7, 9] (fun n i => ∃ (k : Nat) (m : Int), k ≤ ys.length ∧ i = .int .i64 k ∧ n = .int .i64 m ∧ 0 ≤ m ∧ m ≤ 1048576) (fun _ i => ys.length - (intOf i).toNat)
                case atStart => exact ⟨0, _, Nat.zero_le _, rfl, rfl, by omega, by omega⟩
                case round =>
                  obtain ⟨k, m, hk, rfl, rfl, hm0, hm1⟩ := hrel
                  by_cases hlt : k < ys.length
                  · have ha := H2.out.addr (by omega)
                    subst ha
                    have s1 := H2.out.cell k hlt
                    generalize ys.getD k str0 = x at *
                    by_cases hx1 : 1048576 < x.size
                    · go_wp2
                      go_ret
                      exact Guard.no
                    · by_cases hx2 : 1048576 < m + x.size
                      · go_wp2
                        go_ret
                        exact Guard.no
                      · go_wp2
                        go_round
                        case rel => exact ⟨k + 1, _, by omega, by go_num, rfl, by omega, by omega⟩
                        case measure => simp [intOf]; omega
                  · go_wp2
                    go_ret
                    exact Guard.yes ⟨by omega, by omega, by omega, by omega⟩
end Go.Proofs.Qxb6602327a
