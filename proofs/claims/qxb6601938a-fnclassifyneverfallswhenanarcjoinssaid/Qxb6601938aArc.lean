/-
  SEAT b6601938a. ARCS: the plain side (no Go in sight), and how a slice of arcs lies in memory.
-/
import Derived.Test.Qxb6601938aMem
namespace Go.Proofs.Qxb6601938a
open Go.RowKit

/-- One arc of either package: nine cells. -/
structure Arc9 where
  c0 : Int
  c1 : Int
  c2 : Int
  c3 : Int
  c4 : Int
  ty : Int
  c6 : Bool
  c7 : Bool
  c8 : Int

def Arc9.cells (x : Arc9) : List Value := [.int .i64 x.c0, .int .i64 x.c1, .int .i64 x.c2, .int .i64 x.c3, .int .i64 x.c4, .int .u8 x.ty, .bool x.c6, .bool x.c7, .int .i64 x.c8]

def arc0 : Arc9 := ⟨0, 0, 0, 0, 0, 0, false, false, 0⟩

/-- From offset 'off' of block 'b' on lie the arcs xs, nine cells each. -/
def ArcsAt (w : World) (b off : Nat) (xs : List Arc9) : Prop := ∀ i, i < xs.length → w.rangeAt b (off + i * 9) (xs.getD i arc0).cells

/-- What a slice value's address leads to. Of an empty slice nothing is known. -/
def ArcsIn (w : World) (a : Option Addr) (xs : List Arc9) : Prop :=
  xs = [] ∨ ∃ b off, a = some ⟨b, off, none⟩ ∧ b < w.heap.size ∧ ArcsAt w b off xs

theorem ArcsAt.below {w w' : World} {B b off : Nat} {xs : List Arc9} (h : ArcsAt w b off xs) (hb : Below B w w') (hlt : b < B) : ArcsAt w' b off xs := by
  intro i hi j v hv
  rw [hb.cell (p := ⟨b, _, none⟩) hlt]
  exact h i hi j v hv

theorem ArcsIn.below {w w' : World} {a : Option Addr} {xs : List Arc9} (h : ArcsIn w a xs) (hb : Below w.heap.size w w') : ArcsIn w' a xs := by
  rcases h with h | ⟨b, off, rfl, hlt, hat⟩
  · exact .inl h
  · exact .inr ⟨b, off, rfl, Nat.lt_of_lt_of_le hlt hb.size, hat.below hb hlt⟩

/-- How many arcs are of type t. -/
def cnt (t : Int) : List Arc9 → Int
  | [] => 0
  | x :: r => cnt t r + (if x.ty = t then 1 else 0)

theorem cnt_bd (t : Int) (xs : List Arc9) : 0 ≤ cnt t xs ∧ cnt t xs ≤ xs.length := by
  induction xs with
  | nil => simp [cnt]
  | cons x r ih => simp only [cnt, List.length_cons]; split <;> omega

theorem cnt_append (t : Int) (xs ys : List Arc9) : cnt t (xs ++ ys) = cnt t xs + cnt t ys := by
  induction xs with
  | nil => simp [cnt]
  | cons x r ih => simp only [cnt, List.cons_append, ih]; omega

theorem take_getD (xs : List Arc9) (k : Nat) (h : k < xs.length) : xs.take (k + 1) = xs.take k ++ [xs.getD k arc0] := by
  rw [List.take_succ_eq_append_getElem h]
  simp [List.getD, h]

theorem cnt_take (t : Int) (xs : List Arc9) (k : Nat) (h : k < xs.length) : cnt t (xs.take (k + 1)) = cnt t (xs.take k) + (if (xs.getD k arc0).ty = t then 1 else 0) := by
  rw [take_getD xs k h, cnt_append]
  simp [cnt]

theorem cnt_take_le (t : Int) (xs : List Arc9) (k : Nat) : cnt t (xs.take k) ≤ cnt t xs := by
  have h := cnt_append t (xs.take k) (xs.drop k)
  rw [List.take_append_drop] at h
  have := (cnt_bd t (xs.drop k)).1
  omega

/-- The class, by the counts of the edges' types: RW is 3, WR is 2. -/
def cls (xs : List Arc9) : Int := if 1 < cnt 3 xs then 6 else if cnt 3 xs = 1 then 5 else if 0 < cnt 2 xs then 4 else 1

theorem cls_6 {xs : List Arc9} (h : 1 < cnt 3 xs) : cls xs = 6 := by unfold cls; rw [if_pos h]
theorem cls_5 {xs : List Arc9} (h : cnt 3 xs = 1) : cls xs = 5 := by unfold cls; rw [if_neg (by omega), if_pos h]
theorem cls_4 {xs : List Arc9} (h : cnt 3 xs = 0) (h2 : 0 < cnt 2 xs) : cls xs = 4 := by unfold cls; rw [if_neg (by omega), if_neg (by omega), if_pos h2]
theorem cls_1 {xs : List Arc9} (h : cnt 3 xs = 0) (h2 : cnt 2 xs = 0) : cls xs = 1 := by unfold cls; rw [if_neg (by omega), if_neg (by omega), if_neg (by omega)]

/-- What the walk shows of an element's cells. -/
theorem arc_cells {w : World} {b o : Nat} {x : Arc9} (hr : w.rangeAt b o x.cells) :
    w.cell? ⟨b, o, none⟩ = some (.int .i64 x.c0) ∧ w.cell? ⟨b, o + 1, none⟩ = some (.int .i64 x.c1) ∧ w.cell? ⟨b, o + 2, none⟩ = some (.int .i64 x.c2) ∧
    w.cell? ⟨b, o + 3, none⟩ = some (.int .i64 x.c3) ∧ w.cell? ⟨b, o + 4, none⟩ = some (.int .i64 x.c4) ∧ w.cell? ⟨b, o + 5, none⟩ = some (.int .u8 x.ty) ∧
    w.cell? ⟨b, o + 6, none⟩ = some (.bool x.c6) ∧ w.cell? ⟨b, o + 7, none⟩ = some (.bool x.c7) ∧ w.cell? ⟨b, o + 8, none⟩ = some (.int .i64 x.c8) :=
  ⟨hr 0 _ rfl, hr 1 _ rfl, hr 2 _ rfl, hr 3 _ rfl, hr 4 _ rfl, hr 5 _ rfl, hr 6 _ rfl, hr 7 _ rfl, hr 8 _ rfl⟩

/-! ### isograph.classify -/

set_option maxHeartbeats 400000 in
theorem classify_some (xs : List Arc9) (b off cap : Nat) (w : World) (hn : xs.length ≤ 16385) (hbw : b < w.heap.size) (hin : ArcsAt w b off xs) :
    Calls Try.prog 28 #[.slice (some ⟨b, off, none⟩) xs.length cap] w fun e w' => e = .returned (.int .u8 (cls xs)) ∧ Below w.heap.size w w' := by
  go_enter Try.func28, Try.ntmps28
  go_wp2
  go_loopw [3, 4, 9] (fun r s i wr => ∃ k : Nat, k ≤ xs.length ∧ i = .int .i64 k ∧ r = .int .i64 (cnt 2 (xs.take k)) ∧ s = .int .i64 (cnt 3 (xs.take k)) ∧ Below w.heap.size w wr)
    (fun _ _ i _ => xs.length - (intOf i).toNat)
  case atStart => exact ⟨0, Nat.zero_le _, rfl, rfl, rfl, Below.refl _ _⟩
  case round =>
    obtain ⟨k, hk, rfl, rfl, rfl, hb⟩ := hrel
    have b2 := cnt_bd 2 (xs.take k)
    have b3 := cnt_bd 3 (xs.take k)
    have hl : (xs.take k).length ≤ k := List.length_take_le _ _
    by_cases hlt : k < xs.length
    · have h2 : Hid _ := cnt_take 2 xs k hlt
      have h3 : Hid _ := cnt_take 3 xs k hlt
      obtain ⟨c0, c1, c2, c3, c4, c5, c6, c7, c8⟩ := arc_cells ((hin.below hb hbw) k hlt)
      generalize xs.getD k arc0 = x at *
      go_wp2
      all_goals
        go_roundw
        case rel => exact ⟨k + 1, by omega, by go_num, int_i64 (by rw [h2.out]; simp_all), int_i64 (by rw [h3.out]; simp_all), hb.alloc hb.size _⟩
        case measure => simp [intOf]; omega
    · have e : xs.take k = xs := List.take_of_length_le (by omega)
      rw [e] at b2 b3 ⊢
      go_wp2
      all_goals
        go_ret
        exact ⟨ret_u8 (by unfold cls; simp_all; try omega), hb⟩

theorem classify_none (a : Option Addr) (cap : Nat) (w : World) :
    Calls Try.prog 28 #[.slice a 0 cap] w fun e w' => e = .returned (.int .u8 1) ∧ Below w.heap.size w w' := by
  go_enter Try.func28, Try.ntmps28
  go_wp2
  refine wp_loop_rounds 1 ?_
  rw [rounds_succ]
  go_wp2
  go_ret
  exact ⟨rfl, Below.refl _ _⟩

theorem classify_any (xs : List Arc9) (a : Option Addr) (cap : Nat) (w : World) (hn : xs.length ≤ 16385) (hin : ArcsIn w a xs) :
    Calls Try.prog 28 #[.slice a xs.length cap] w fun e w' => e = .returned (.int .u8 (cls xs)) ∧ Below w.heap.size w w' := by
  rcases hin with rfl | ⟨b, off, rfl, hb, hat⟩
  · exact classify_none a cap w
  · exact classify_some xs b off cap w hn hb hat

theorem zzclassify_any (xs : List Arc9) (a : Option Addr) (cap : Nat) (w : World) (hn : xs.length ≤ 16385) (hin : ArcsIn w a xs) :
    Calls Try.prog 11 #[.slice a xs.length cap] w fun e w' => e = .returned (.int .u8 (cls xs)) ∧ Below w.heap.size w w' := by
  go_enter Try.func11, Try.ntmps11
  go_wp2_with fail
  refine (classify_any xs a cap _ hn hin).mono ?_
  rintro e w' ⟨rfl, hb⟩
  go_wp2
  go_ret
  exact ⟨rfl, hb⟩

/-! ### The two size guards -/
theorem bytes10_any (a : Option Addr) (n cap : Nat) (w : World) (hn : n ≤ maxLen) :
    Calls Try.prog 10 #[.slice a n cap] w fun e w' => e = .returned (.bool (decide (n ≤ 1048576))) ∧ w' = w := by
  unfold maxLen at hn
  by_cases h : n ≤ 1048576
  · go_enter Try.func10, Try.ntmps10
    go_wp2
    go_ret
    exact ⟨ret_bool (by simp [h]), rfl⟩
  · go_enter Try.func10, Try.ntmps10
    go_wp2
    go_ret
    exact ⟨ret_bool (by simp [h]), rfl⟩

/-! ### classifyByTable -/
theorem table_none (a : Option Addr) (cap : Nat) (w : World) :
    Calls Try.prog 13 #[.slice a 0 cap] w fun e w' => e = .returned (.int .u8 1) ∧ w' = w := by
  go_enter Try.func13, Try.ntmps13
  go_wp2
  refine wp_loop_rounds 1 ?_
  rw [rounds_succ]
  go_wp2
  refine wp_loop_rounds 1 ?_
  rw [rounds_succ]
  go_wp2
  go_ret
  exact ⟨rfl, rfl⟩


set_option maxHeartbeats 800000 in
theorem table_some (xs : List Arc9) (b off cap : Nat) (w : World) (hn : xs.length ≤ 16385) (hin : ArcsAt w b off xs) :
    Calls Try.prog 13 #[.slice (some ⟨b, off, none⟩) xs.length cap] w fun e w' => e = .returned (.int .u8 (cls xs)) ∧ w' = w := by
  have hcell : ∀ k, k < xs.length → w.cell? ⟨b, off + k * 9 + 5, none⟩ = some (.int .u8 (xs.getD k arc0).ty) := fun k hk => hin k hk 5 _ rfl
  clear hin
  go_enter Try.func13, Try.ntmps13
  go_wp2
  go_loop [3, 9] (fun f i => ∃ k : Nat, k ≤ xs.length ∧ i = .int .i64 k ∧ f = .int .i64 (-1) ∧ cnt 3 (xs.take k) = 0) (fun _ i => xs.length - (intOf i).toNat)
  case atStart => exact ⟨0, Nat.zero_le _, rfl, rfl, rfl⟩
  case round =>
    obtain ⟨k, hk, rfl, rfl, hz⟩ := hrel
    have HZ : Hid _ := hz
    clear hz
    by_cases hlt : k < xs.length
    · have h3 : Hid _ := cnt_take 3 xs k hlt
      have c5 := hcell k hlt
      have HC : Hid _ := hcell
      clear hcell
      generalize xs.getD k arc0 = x at *
      by_cases hx : x.ty = 3
      · have hxt : (x.ty == 3) = true := by simp [hx]
        have H1 : Hid (cnt 3 (xs.take (k + 1)) = 1) := by
          show cnt 3 (xs.take (k + 1)) = 1
          rw [h3.out, HZ.out, if_pos hx]; rfl
        clear h3 HZ hx
        go_wp2
        go_loop [5] (fun j => ∃ m : Nat, k + 1 ≤ m ∧ m ≤ xs.length ∧ j = .int .i64 m ∧ cnt 3 (xs.take m) = 1) (fun j => xs.length - (intOf j).toNat)
        case atStart => exact ⟨k + 1, by omega, by omega, by go_num, H1⟩
        case round =>
          obtain ⟨m, hm1, hm2, rfl, hz⟩ := hrel
          have HM : Hid _ := hz
          clear hz H1 c5 hxt
          by_cases hlm : m < xs.length
          · have h3 : Hid _ := cnt_take 3 xs m hlm
            have c5 := HC.out m hlm
            generalize xs.getD m arc0 = y at *
            by_cases hy : y.ty = 3
            · have hyt : (y.ty == 3) = true := by simp [hy]
              have H2 : Hid (1 < cnt 3 xs) := by
                have h := cnt_take_le 3 xs (m + 1)
                rw [h3.out, HM.out, if_pos hy] at h
                exact Int.lt_of_lt_of_le (by decide) h
              clear hy h3 HM
              go_wp2
              go_ret
              exact ⟨ret_u8 (cls_6 H2.out).symm, rfl⟩
            · have hyt : (y.ty == 3) = false := by simp [hy]
              have H2 : Hid (cnt 3 (xs.take (m + 1)) = 1) := by
                show cnt 3 (xs.take (m + 1)) = 1
                rw [h3.out, HM.out, if_neg hy]; rfl
              clear hy h3 HM
              go_wp2
              go_round
              case rel => exact ⟨m + 1, by omega, by omega, by go_num, H2⟩
              case measure => simp [intOf]; omega
          · have e : xs.take m = xs := List.take_of_length_le (by omega)
            have H2 : Hid (cnt 3 xs = 1) := by have := HM.out; rw [e] at this; exact this
            clear HM e
            go_wp2
            go_ret
            exact ⟨ret_u8 (cls_5 H2.out).symm, rfl⟩
      · have hxt : (x.ty == 3) = false := by simp [hx]
        have H1 : Hid (cnt 3 (xs.take (k + 1)) = 0) := by
          show cnt 3 (xs.take (k + 1)) = 0
          rw [h3.out, HZ.out, if_neg hx]; rfl
        clear h3 HZ hx
        go_wp2
        go_round
        case rel => exact ⟨k + 1, by omega, by go_num, rfl, H1⟩
        case measure => simp [intOf]; omega
    · have e : xs.take k = xs := List.take_of_length_le (by omega)
      have H0 : Hid (cnt 3 xs = 0) := by have := HZ.out; rw [e] at this; exact this
      clear HZ e
      have HC : Hid _ := hcell
      clear hcell
      go_wp2
      go_loop [38] (fun j => ∃ m : Nat, m ≤ xs.length ∧ j = .int .i64 m ∧ cnt 2 (xs.take m) = 0) (fun j => xs.length - (intOf j).toNat)
      case atStart => exact ⟨0, by omega, by go_num, rfl⟩
      case round =>
        obtain ⟨m, hm2, rfl, hz⟩ := hrel
        have HM : Hid _ := hz
        clear hz
        by_cases hlm : m < xs.length
        · have h3 : Hid _ := cnt_take 2 xs m hlm
          have c5 := HC.out m hlm
          generalize xs.getD m arc0 = y at *
          by_cases hy : y.ty = 2
          · have hyt : (y.ty == 2) = true := by simp [hy]
            have H2 : Hid (0 < cnt 2 xs) := by
              have h := cnt_take_le 2 xs (m + 1)
              rw [h3.out, HM.out, if_pos hy] at h
              exact Int.lt_of_lt_of_le (by decide) h
            clear hy h3 HM
            go_wp2
            go_ret
            exact ⟨ret_u8 (cls_4 H0.out H2.out).symm, rfl⟩
          · have hyt : (y.ty == 2) = false := by simp [hy]
            have H2 : Hid (cnt 2 (xs.take (m + 1)) = 0) := by
              show cnt 2 (xs.take (m + 1)) = 0
              rw [h3.out, HM.out, if_neg hy]; rfl
            clear hy h3 HM
            go_wp2
            go_round
            case rel => exact ⟨m + 1, by omega, by go_num, H2⟩
            case measure => simp [intOf]; omega
        · have e : xs.take m = xs := List.take_of_length_le (by omega)
          have H2 : Hid (cnt 2 xs = 0) := by have := HM.out; rw [e] at this; exact this
          clear HM e
          go_wp2
          go_ret
          exact ⟨ret_u8 (cls_1 H0.out H2.out).symm, rfl⟩

theorem table_any (xs : List Arc9) (a : Option Addr) (cap : Nat) (w : World) (hn : xs.length ≤ 16385) (hin : ArcsIn w a xs) :
    Calls Try.prog 13 #[.slice a xs.length cap] w fun e w' => e = .returned (.int .u8 (cls xs)) ∧ w' = w := by
  rcases hin with rfl | ⟨b, off, rfl, hb, hat⟩
  · exact table_none a cap w
  · exact table_some xs b off cap w hn hat

end Go.Proofs.Qxb6601938a
