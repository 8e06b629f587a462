/-
  SEAT b6601938a. The size guards over micro-operations, and mopsOf: a deep copy.
-/
import Derived.Test.Qxb6601938aMop
namespace Go.Proofs.Qxb6601938a
open Go.RowKit

/-- The list behind a micro-operation that came in. -/
structure ListIn (w : World) (x : Mop5) (b o : Nat) : Prop where
  max : x.ll ≤ maxLen
  addr : 0 < x.ll → x.la = some ⟨b, o, none⟩
  lt : 0 < x.ll → b < w.heap.size
  ints : ∀ j, j < x.ll → ∃ v : Int, w.cell? ⟨b, o + j, none⟩ = some (.int .i64 v)

def Lists (w : World) (xs : List Mop5) : Prop := ∀ i, i < xs.length → ∃ b o, ListIn w (xs.getD i mop0) b o

theorem Lists.below {w w' : World} {xs : List Mop5} (h : Lists w xs) (hb : Below w.heap.size w w') : Lists w' xs := by
  intro i hi
  obtain ⟨b, o, h1, h2, h3, h4⟩ := h i hi
  refine ⟨b, o, h1, h2, fun h0 => Nat.lt_of_lt_of_le (h3 h0) hb.size, fun j hj => ?_⟩
  obtain ⟨v, hv⟩ := h4 j hj
  exact ⟨v, by rw [hb.cell (p := ⟨b, _, none⟩) (h3 (by omega))]; exact hv⟩

def Short (xs : List Mop5) : Prop := ∀ i, i < xs.length → (xs.getD i mop0).ll ≤ 1048576

/-! ### The size guards -/
def BytesPost (xs ys : List Mop5) (w : World) (e : Ending) (w' : World) : Prop := ∃ β : Bool, e = .returned (.bool β) ∧ w' = w ∧ (β = true → Short xs ∧ Short ys)
theorem BytesPost.no {xs ys : List Mop5} {w : World} : BytesPost xs ys w (.returned (.bool false)) w := ⟨false, rfl, rfl, fun h => by cases h⟩
theorem BytesPost.yes {xs ys : List Mop5} {w : World} (h1 : Short xs) (h2 : Short ys) : BytesPost xs ys w (.returned (.bool true)) w := ⟨true, rfl, rfl, fun _ => ⟨h1, h2⟩⟩
def IntPost (w : World) (e : Ending) (w' : World) : Prop := ∃ n : Int, e = .returned (.int .i64 n) ∧ w' = w ∧ 0 ≤ n ∧ n ≤ 4194304
theorem IntPost.mk {w : World} {n : Int} (h0 : 0 ≤ n) (h1 : n ≤ 4194304) : IntPost w (.returned (.int .i64 n)) w := ⟨n, rfl, rfl, h0, h1⟩
set_option maxHeartbeats 1000000 in
theorem bytes22_any (xs ys : List Mop5) (a1 a2 : Option Addr) (b1 o1 c1 b2 o2 c2 : Nat) (w : World) (hn1 : xs.length ≤ maxLen) (hn2 : ys.length ≤ maxLen) (h1 : MopsIn w a1 b1 o1 xs) (h2 : MopsIn w a2 b2 o2 ys) (l1 : Lists w xs) (l2 : Lists w ys) :
    Calls Try.prog 22 #[.slice a1 xs.length c1, .slice a2 ys.length c2] w (BytesPost xs ys w) := by
  unfold maxLen at hn1 hn2
  have H1 : Hid _ := h1
  have H2 : Hid _ := h2
  have L1 : Hid _ := l1
  have L2 : Hid _ := l2
  clear h1 h2 l1 l2
  by_cases q1 : 1048576 < xs.length
  · go_enter Try.func22, Try.ntmps22
    go_wp2
    go_ret
    exact BytesPost.no
  go_enter Try.func22, Try.ntmps22
  go_wp2
  go_loop [5, 6] (fun n i => ∃ (k : Nat) (m : Int), k ≤ xs.length ∧ i = .int .i64 k ∧ n = .int .i64 m ∧ 0 ≤ m ∧ m ≤ 1048576 ∧ (∀ i, i < k → (xs.getD i mop0).ll ≤ 1048576)) (fun _ i => xs.length - (intOf i).toNat)
  case atStart => exact ⟨0, _, Nat.zero_le _, rfl, rfl, by omega, by omega, fun i hi => by omega⟩
  case round =>
    obtain ⟨k, m, hk, rfl, rfl, hm0, hm1, hall⟩ := hrel
    have HA : Hid _ := hall
    clear hall
    by_cases hlt : k < xs.length
    · have ha := H1.out.addr (by omega)
      subst ha
      obtain ⟨_, _, _, _, f4⟩ := mop_cells (H1.out.mops k hlt)
      have hmx : (xs.getD k mop0).ll ≤ 9223372036854775807 := by obtain ⟨_, _, hL⟩ := L1.out k hlt; exact hL.max
      obtain ⟨x, hx⟩ : ∃ x, x = xs.getD k mop0 := ⟨_, rfl⟩
      rw [← hx] at f4 hmx
      have HX : Hid _ := hx
      clear hx
      by_cases hx1 : 1048576 < x.ll
      · go_wp2
        go_ret
        exact BytesPost.no
      · by_cases hx2 : 1048576 < m + x.ll
        · go_wp2
          go_ret
          exact BytesPost.no
        · go_wp2
          go_round
          case rel =>
            refine ⟨k + 1, m + x.ll, by omega, by go_num, rfl, by omega, by omega, fun i hi => ?_⟩
            by_cases e : i = k
            · subst e; rw [← HX.out]; omega
            · exact HA.out i (by omega)
          case measure => simp [intOf]; omega
    · obtain rfl : k = xs.length := by omega
      have S1 : Hid (Short xs) := HA.out
      clear HA
      by_cases q2 : 1048576 < ys.length
      · go_wp2
        go_ret
        exact BytesPost.no
      · by_cases q3 : 1048576 < m + ys.length
        · go_wp2
          go_ret
          exact BytesPost.no
        · go_wp2
          go_loop [5, 7] (fun n i => ∃ (k : Nat) (m : Int), k ≤ ys.length ∧ i = .int .i64 k ∧ n = .int .i64 m ∧ 0 ≤ m ∧ m ≤ 1048576 ∧ (∀ i, i < k → (ys.getD i mop0).ll ≤ 1048576)) (fun _ i => ys.length - (intOf i).toNat)
          case atStart => exact ⟨0, _, Nat.zero_le _, rfl, rfl, by omega, by omega, fun i hi => by omega⟩
          case round =>
            clear hm0 hm1 q3
            obtain ⟨k, m, hk, rfl, rfl, hm0, hm1, hall⟩ := hrel
            have HA : Hid _ := hall
            clear hall
            by_cases hlt : k < ys.length
            · have ha := H2.out.addr (by omega)
              subst ha
              obtain ⟨_, _, _, _, f4⟩ := mop_cells (H2.out.mops k hlt)
              have hmx : (ys.getD k mop0).ll ≤ 9223372036854775807 := by obtain ⟨_, _, hL⟩ := L2.out k hlt; exact hL.max
              obtain ⟨x, hx⟩ : ∃ x, x = ys.getD k mop0 := ⟨_, rfl⟩
              rw [← hx] at f4 hmx
              have HX : Hid _ := hx
              clear hx
              by_cases hx1 : 1048576 < x.ll
              · go_wp2
                go_ret
                exact BytesPost.no
              · by_cases hx2 : 1048576 < m + x.ll
                · go_wp2
                  go_ret
                  exact BytesPost.no
                · go_wp2
                  go_round
                  case rel =>
                    refine ⟨k + 1, m + x.ll, by omega, by go_num, rfl, by omega, by omega, fun i hi => ?_⟩
                    by_cases e : i = k
                    · subst e; rw [← HX.out]; omega
                    · exact HA.out i (by omega)
                  case measure => simp [intOf]; omega
            · obtain rfl : k = ys.length := by omega
              have S2 : Hid (Short ys) := HA.out
              clear HA
              go_wp2
              go_ret
              exact BytesPost.yes S1.out S2.out

set_option maxHeartbeats 1000000 in
theorem bytes17_any (xs ys : List Mop5) (a1 a2 : Option Addr) (b1 o1 c1 b2 o2 c2 : Nat) (w : World) (hn1 : xs.length ≤ maxLen) (hn2 : ys.length ≤ maxLen) (h1 : MopsIn w a1 b1 o1 xs) (h2 : MopsIn w a2 b2 o2 ys) (l1 : Lists w xs) (l2 : Lists w ys) :
    Calls Try.prog 17 #[.slice a1 xs.length c1, .slice a2 ys.length c2] w (BytesPost xs ys w) := by
  unfold maxLen at hn1 hn2
  have H1 : Hid _ := h1
  have H2 : Hid _ := h2
  have L1 : Hid _ := l1
  have L2 : Hid _ := l2
  clear h1 h2 l1 l2
  by_cases q1 : 1048576 < xs.length
  · go_enter Try.func17, Try.ntmps17
    go_wp2
    go_ret
    exact BytesPost.no
  go_enter Try.func17, Try.ntmps17
  go_wp2
  go_loop [5, 6] (fun n i => ∃ (k : Nat) (m : Int), k ≤ xs.length ∧ i = .int .i64 k ∧ n = .int .i64 m ∧ 0 ≤ m ∧ m ≤ 1048576 ∧ (∀ i, i < k → (xs.getD i mop0).ll ≤ 1048576)) (fun _ i => xs.length - (intOf i).toNat)
  case atStart => exact ⟨0, _, Nat.zero_le _, rfl, rfl, by omega, by omega, fun i hi => by omega⟩
  case round =>
    obtain ⟨k, m, hk, rfl, rfl, hm0, hm1, hall⟩ := hrel
    have HA : Hid _ := hall
    clear hall
    by_cases hlt : k < xs.length
    · have ha := H1.out.addr (by omega)
      subst ha
      obtain ⟨_, _, _, _, f4⟩ := mop_cells (H1.out.mops k hlt)
      have hmx : (xs.getD k mop0).ll ≤ 9223372036854775807 := by obtain ⟨_, _, hL⟩ := L1.out k hlt; exact hL.max
      obtain ⟨x, hx⟩ : ∃ x, x = xs.getD k mop0 := ⟨_, rfl⟩
      rw [← hx] at f4 hmx
      have HX : Hid _ := hx
      clear hx
      by_cases hx1 : 1048576 < x.ll
      · go_wp2
        go_ret
        exact BytesPost.no
      · by_cases hx2 : 1048576 < m + x.ll
        · go_wp2
          go_ret
          exact BytesPost.no
        · go_wp2
          go_round
          case rel =>
            refine ⟨k + 1, m + x.ll, by omega, by go_num, rfl, by omega, by omega, fun i hi => ?_⟩
            by_cases e : i = k
            · subst e; rw [← HX.out]; omega
            · exact HA.out i (by omega)
          case measure => simp [intOf]; omega
    · obtain rfl : k = xs.length := by omega
      have S1 : Hid (Short xs) := HA.out
      clear HA
      by_cases q2 : 1048576 < ys.length
      · go_wp2
        go_ret
        exact BytesPost.no
      · by_cases q3 : 1048576 < m + ys.length
        · go_wp2
          go_ret
          exact BytesPost.no
        · go_wp2
          go_loop [5, 7] (fun n i => ∃ (k : Nat) (m : Int), k ≤ ys.length ∧ i = .int .i64 k ∧ n = .int .i64 m ∧ 0 ≤ m ∧ m ≤ 1048576 ∧ (∀ i, i < k → (ys.getD i mop0).ll ≤ 1048576)) (fun _ i => ys.length - (intOf i).toNat)
          case atStart => exact ⟨0, _, Nat.zero_le _, rfl, rfl, by omega, by omega, fun i hi => by omega⟩
          case round =>
            clear hm0 hm1 q3
            obtain ⟨k, m, hk, rfl, rfl, hm0, hm1, hall⟩ := hrel
            have HA : Hid _ := hall
            clear hall
            by_cases hlt : k < ys.length
            · have ha := H2.out.addr (by omega)
              subst ha
              obtain ⟨_, _, _, _, f4⟩ := mop_cells (H2.out.mops k hlt)
              have hmx : (ys.getD k mop0).ll ≤ 9223372036854775807 := by obtain ⟨_, _, hL⟩ := L2.out k hlt; exact hL.max
              obtain ⟨x, hx⟩ : ∃ x, x = ys.getD k mop0 := ⟨_, rfl⟩
              rw [← hx] at f4 hmx
              have HX : Hid _ := hx
              clear hx
              by_cases hx1 : 1048576 < x.ll
              · go_wp2
                go_ret
                exact BytesPost.no
              · by_cases hx2 : 1048576 < m + x.ll
                · go_wp2
                  go_ret
                  exact BytesPost.no
                · go_wp2
                  go_round
                  case rel =>
                    refine ⟨k + 1, m + x.ll, by omega, by go_num, rfl, by omega, by omega, fun i hi => ?_⟩
                    by_cases e : i = k
                    · subst e; rw [← HX.out]; omega
                    · exact HA.out i (by omega)
                  case measure => simp [intOf]; omega
            · obtain rfl : k = ys.length := by omega
              have S2 : Hid (Short ys) := HA.out
              clear HA
              go_wp2
              go_ret
              exact BytesPost.yes S1.out S2.out

/-! ### mopBytes -/
set_option maxHeartbeats 1000000 in
theorem mopBytes_any (xs : List Mop5) (a1 : Option Addr) (b1 o1 c1 : Nat) (w : World) (hn1 : xs.length ≤ 32768) (h1 : MopsIn w a1 b1 o1 xs) (l1 : Lists w xs) :
    Calls Try.prog 18 #[.slice a1 xs.length c1] w (IntPost w) := by
  have H1 : Hid _ := h1
  have L1 : Hid _ := l1
  clear h1 l1
  go_enter Try.func18, Try.ntmps18
  go_wp2
  go_loop [3, 7] (fun n i => ∃ (k : Nat) (m : Int), k ≤ xs.length ∧ i = .int .i64 k ∧ n = .int .i64 m ∧ 0 ≤ m ∧ m ≤ 1048576) (fun _ i => xs.length - (intOf i).toNat)
  case atStart => exact ⟨0, _, Nat.zero_le _, rfl, rfl, by omega, by omega⟩
  case round =>
    obtain ⟨k, m, hk, rfl, rfl, hm0, hm1⟩ := hrel
    by_cases hlt : k < xs.length
    · have ha := H1.out.addr (by omega)
      subst ha
      obtain ⟨_, _, _, _, f4⟩ := mop_cells (H1.out.mops k hlt)
      have hmx : (xs.getD k mop0).ll ≤ 9223372036854775807 := by obtain ⟨_, _, hL⟩ := L1.out k hlt; exact hL.max
      generalize xs.getD k mop0 = x at *
      by_cases hx1 : 131072 < x.ll
      · go_wp2
        go_ret
        exact IntPost.mk (by omega) (by omega)
      · by_cases hx2 : 1048576 < m + (48 + 8 * x.ll)
        · go_wp2
          go_ret
          exact IntPost.mk (by omega) (by omega)
        · go_wp2
          go_round
          case rel => exact ⟨k + 1, _, by omega, by go_num, rfl, by omega, by omega⟩
          case measure => simp [intOf]; omega
    · go_wp2
      go_ret
      exact IntPost.mk (by omega) (by omega)

end Go.Proofs.Qxb6601938a
