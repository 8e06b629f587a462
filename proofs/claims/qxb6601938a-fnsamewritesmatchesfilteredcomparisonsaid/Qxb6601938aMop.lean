/-
  SEAT b6601938a. MICRO-OPERATIONS: how a slice of them lies in memory; the size guards; isWrite; sameWrites.
-/
import Derived.Test.Qxb6601938aMem
import Derived.Lib.SliceRun
import Derived.Deep.QuietTactic
import Derived.BigQuiet
namespace Go.Proofs.Qxb6601938a
open Go.RowKit

/-- One micro-operation of either package: five cells, the last a slice of integers. -/
structure Mop5 where
  kind : Int
  hv : Bool
  key : Int
  elem : Int
  la : Option Addr
  ll : Nat
  lc : Nat

def Mop5.cells (x : Mop5) : List Value := [.int .u8 x.kind, .bool x.hv, .int .i64 x.key, .int .i64 x.elem, .slice x.la x.ll x.lc]

def mop0 : Mop5 := ⟨0, false, 0, 0, none, 0, 0⟩

/-- From offset 'off' of block 'b' on lie the operations xs, five cells each. -/
def MopsAt (w : World) (b off : Nat) (xs : List Mop5) : Prop := ∀ i, i < xs.length → w.rangeAt b (off + i * 5) (xs.getD i mop0).cells

theorem MopsAt.below {w w' : World} {B b off : Nat} {xs : List Mop5} (h : MopsAt w b off xs) (hb : Below B w w') (hlt : 0 < xs.length → b < B) : MopsAt w' b off xs := by
  intro i hi
  exact range_below (h i hi) hb (hlt (by omega))

/-- What a slice value's address leads to. Of an empty slice nothing is known. -/
structure MopsIn (w : World) (a : Option Addr) (b off : Nat) (xs : List Mop5) : Prop where
  addr : 0 < xs.length → a = some ⟨b, off, none⟩
  lt : 0 < xs.length → b < w.heap.size
  mops : MopsAt w b off xs

theorem MopsIn.below {w w' : World} {a : Option Addr} {b off : Nat} {xs : List Mop5} (h : MopsIn w a b off xs) (hb : Below w.heap.size w w') : MopsIn w' a b off xs :=
  ⟨h.addr, fun h0 => Nat.lt_of_lt_of_le (h.lt h0) hb.size, h.mops.below hb h.lt⟩

theorem mop_cells {w : World} {b o : Nat} {x : Mop5} (hr : w.rangeAt b o x.cells) :
    w.cell? ⟨b, o, none⟩ = some (.int .u8 x.kind) ∧ w.cell? ⟨b, o + 1, none⟩ = some (.bool x.hv) ∧ w.cell? ⟨b, o + 2, none⟩ = some (.int .i64 x.key) ∧
    w.cell? ⟨b, o + 3, none⟩ = some (.int .i64 x.elem) ∧ w.cell? ⟨b, o + 4, none⟩ = some (.slice x.la x.ll x.lc) :=
  ⟨hr 0 _ rfl, hr 1 _ rfl, hr 2 _ rfl, hr 3 _ rfl, hr 4 _ rfl⟩

/-! ### The plain side -/
def isW (x : Mop5) : Bool := x.kind == 1 || x.kind == 3

/-- The (key, element) pairs that are written, in order. -/
def writes : List Mop5 → List (Int × Int)
  | [] => []
  | x :: r => if isW x then (x.key, x.elem) :: writes r else writes r

def sw (xs ys : List Mop5) : Bool := decide (writes xs = writes ys)

theorem drop_mop (xs : List Mop5) (k : Nat) (h : k < xs.length) : xs.drop k = xs.getD k mop0 :: xs.drop (k + 1) := by
  rw [List.drop_eq_getElem_cons h]
  simp [List.getD, h]

theorem writes_skip {xs : List Mop5} {k : Nat} (h : k < xs.length) (hw : isW (xs.getD k mop0) = false) : writes (xs.drop k) = writes (xs.drop (k + 1)) := by
  rw [drop_mop xs k h, writes, if_neg (by rw [hw]; decide)]

theorem writes_at {xs : List Mop5} {k : Nat} (h : k < xs.length) (hw : isW (xs.getD k mop0) = true) : writes (xs.drop k) = ((xs.getD k mop0).key, (xs.getD k mop0).elem) :: writes (xs.drop (k + 1)) := by
  rw [drop_mop xs k h, writes, if_pos hw]

theorem writes_end {xs : List Mop5} {k : Nat} (h : xs.length ≤ k) : writes (xs.drop k) = [] := by
  rw [List.drop_of_length_le h]; rfl

/-! ### MicroOp.isWrite -/
theorem isWrite_any (x : Mop5) (w : World) :
    Calls Try.prog 33 #[.agg #[.int .u8 x.kind, .bool x.hv, .int .i64 x.key, .int .i64 x.elem, .slice x.la x.ll x.lc]] w fun e w' => e = .returned (.bool (isW x)) ∧ ∃ C : Array Value, w' = w.alloc (.cells C 71) := by
  by_cases h1 : x.kind = 1
  · have q : (x.kind == 1) = true := by simp [h1]
    have r : isW x = true := by simp [isW, h1]
    clear h1
    go_enter Try.func33, Try.ntmps33
    go_wp2
    go_ret
    exact ⟨ret_bool r.symm, _, rfl⟩
  · have q : (x.kind == 1) = false := by simp [h1]
    have r : Hid (isW x = (x.kind == 3)) := by show isW x = (x.kind == 3); unfold isW; rw [q]; rfl
    clear h1
    go_enter Try.func33, Try.ntmps33
    go_wp2
    go_ret
    exact ⟨ret_bool (by simp [r.out]), _, rfl⟩

/-! ### isograph.sameWrites -/
theorem iff_true_dec {p q : Prop} [Decidable p] (h : p ↔ q) (hq : q) : decide p = true := decide_eq_true (h.2 hq)

set_option maxHeartbeats 2000000 in
set_option maxRecDepth 4000 in
theorem sameWrites_any (xs ys : List Mop5) (a1 a2 : Option Addr) (b1 o1 c1 b2 o2 c2 : Nat) (w : World) (hn1 : xs.length ≤ 32768) (hn2 : ys.length ≤ 32768) (h1 : MopsIn w a1 b1 o1 xs) (h2 : MopsIn w a2 b2 o2 ys) :
    Calls Try.prog 30 #[.slice a1 xs.length c1, .slice a2 ys.length c2] w fun e w' => e = .returned (.bool (sw xs ys)) ∧ Below w.heap.size w w' := by
  have H1 : Hid _ := h1
  have H2 : Hid _ := h2
  clear h1 h2
  go_enter Try.func30, Try.ntmps30
  go_wp2
  go_loopw [5, 6] (fun i j wr => ∃ k m : Nat, k ≤ xs.length ∧ m ≤ ys.length ∧ i = .int .i64 k ∧ j = .int .i64 m ∧ (writes xs = writes ys ↔ writes (xs.drop k) = writes (ys.drop m)) ∧ Below w.heap.size w wr) (fun i _ _ => xs.length - (intOf i).toNat)
  case atStart => exact ⟨0, 0, Nat.zero_le _, Nat.zero_le _, rfl, rfl, Iff.rfl, Below.refl _ _⟩
  case round =>
    obtain ⟨k, m, hk, hm, rfl, rfl, hiff, hb⟩ := hrel
    have HI : Hid _ := hiff
    clear hiff
    obtain ⟨wo, rfl⟩ : ∃ wo : World, wo = wr := ⟨_, rfl⟩
    go_wp2_with fail
    go_loopw [5] (fun i wr => ∃ k' : Nat, k ≤ k' ∧ k' ≤ xs.length ∧ i = .int .i64 k' ∧ writes (xs.drop k) = writes (xs.drop k') ∧ Below w.heap.size w wr) (fun i _ => xs.length - (intOf i).toNat)
    case atStart => exact ⟨k, Nat.le_refl _, hk, rfl, rfl, hb⟩
    case round =>
      clear hb
      obtain ⟨k', hk1, hk2, rfl, hsk, hb⟩ := hrel
      have HS : Hid _ := hsk
      clear hsk
      by_cases hlt : k' < xs.length
      · have ha := H1.out.addr (by omega)
        subst ha
        obtain ⟨f0, f1, f2, f3, f4⟩ := mop_cells (((H1.out.below (w' := wr) hb).mops) k' hlt)
        obtain ⟨x, hx⟩ : ∃ x, x = xs.getD k' mop0 := ⟨_, rfl⟩
        rw [← hx] at f0 f1 f2 f3 f4
        have HX : Hid _ := hx
        clear hx
        cases hw : isW x with
        | false =>
          have HN : Hid (writes (xs.drop k) = writes (xs.drop (k' + 1))) := HS.out.trans (writes_skip hlt (by rw [← HX.out]; exact hw))
          clear HS HX
          go_wp2_with (go_at_call 33; refine (isWrite_any x _).mono ?_; rintro e w' ⟨rfl, C, rfl⟩)
          go_roundw
          case rel => exact ⟨k' + 1, by omega, by omega, by go_num, HN.out, hb.alloc hb.size _⟩
          case measure => simp [intOf]; omega
        | true =>
          go_wp2_with (go_at_call 33; refine (isWrite_any x _).mono ?_; rintro e w' ⟨rfl, C, rfl⟩)
          have hbs : Below w.heap.size w (wr.alloc (.cells C 71)) := hb.alloc hb.size _
          clear hb f0 f1 f2 f3 f4
          go_loopw [6] (fun i wr => ∃ m' : Nat, m ≤ m' ∧ m' ≤ ys.length ∧ i = .int .i64 m' ∧ writes (ys.drop m) = writes (ys.drop m') ∧ Below w.heap.size w wr) (fun i _ => ys.length - (intOf i).toNat)
          case atStart => exact ⟨m, Nat.le_refl _, hm, rfl, rfl, hbs⟩
          case round =>
            clear hbs
            obtain ⟨m', hm1, hm2, rfl, hsm, hb⟩ := hrel
            have HM : Hid _ := hsm
            clear hsm
            by_cases hltm : m' < ys.length
            · have ha := H2.out.addr (by omega)
              subst ha
              obtain ⟨g0, g1, g2, g3, g4⟩ := mop_cells (((H2.out.below (w' := wr) hb).mops) m' hltm)
              obtain ⟨y, hy⟩ : ∃ y, y = ys.getD m' mop0 := ⟨_, rfl⟩
              rw [← hy] at g0 g1 g2 g3 g4
              have HY : Hid _ := hy
              clear hy
              cases hwy : isW y with
              | false =>
                have HN : Hid (writes (ys.drop m) = writes (ys.drop (m' + 1))) := HM.out.trans (writes_skip hltm (by rw [← HY.out]; exact hwy))
                clear HM HY
                go_wp2_with (go_at_call 33; refine (isWrite_any y _).mono ?_; rintro e w' ⟨rfl, C2, rfl⟩)
                go_roundw
                case rel => exact ⟨m' + 1, by omega, by omega, by go_num, HN.out, hb.alloc hb.size _⟩
                case measure => simp [intOf]; omega
              | true =>
                  have R1 := ((H1.out.below (w' := wr) hb).mops) k' hlt
                  have R2 := ((H2.out.below (w' := wr) hb).mops) m' hltm
                  rw [← HX.out] at R1
                  rw [← HY.out] at R2
                  have e2 : ∀ o, (wr.alloc o).cell? ⟨b1, o1 + k' * 5 + 2, none⟩ = some (.int .i64 x.key) := fun o => World.rangeAt_alloc R1 o 2 _ rfl
                  have e3 : ∀ o, (wr.alloc o).cell? ⟨b1, o1 + k' * 5 + 3, none⟩ = some (.int .i64 x.elem) := fun o => World.rangeAt_alloc R1 o 3 _ rfl
                  have d2 : ∀ o, (wr.alloc o).cell? ⟨b2, o2 + m' * 5 + 2, none⟩ = some (.int .i64 y.key) := fun o => World.rangeAt_alloc R2 o 2 _ rfl
                  have d3 : ∀ o, (wr.alloc o).cell? ⟨b2, o2 + m' * 5 + 3, none⟩ = some (.int .i64 y.elem) := fun o => World.rangeAt_alloc R2 o 3 _ rfl
                  clear R1 R2
                  have eX : Hid (writes (xs.drop k) = (x.key, x.elem) :: writes (xs.drop (k' + 1))) := by
                    show _ = _
                    rw [HS.out, writes_at hlt (by rw [← HX.out]; exact hw), ← HX.out]
                  have eY : Hid (writes (ys.drop m) = (y.key, y.elem) :: writes (ys.drop (m' + 1))) := by
                    show _ = _
                    rw [HM.out, writes_at hltm (by rw [← HY.out]; exact hwy), ← HY.out]
                  have i1 : ((k' : Int) == xs.length) = false := by simp; omega
                  have i2 : ((m' : Int) == ys.length) = false := by simp; omega
                  have q1 : (k' : Int) < xs.length := by omega
                  have q2 : (m' : Int) < ys.length := by omega
                  clear HS HM HX HY
                  by_cases hk : x.key = y.key
                  · have hd : (x.key != y.key) = false := by simp [hk]
                    by_cases he : x.elem = y.elem
                    · have hd2 : (x.elem != y.elem) = false := by simp [he]
                      have HR : Hid (writes xs = writes ys ↔ writes (xs.drop (k' + 1)) = writes (ys.drop (m' + 1))) := by
                        show _ ↔ _
                        rw [HI.out, eX.out, eY.out, hk, he]
                        simp
                      clear hk he eX eY HI
                      go_wp2_with (go_at_call 33; refine (isWrite_any y _).mono ?_; rintro e w' ⟨rfl, C2, rfl⟩)
                      go_quiet (fail)
                      clear e2 e3 d2 d3 g0 g1 g2 g3 g4 hd hd2
                      go_wp2
                      go_roundw
                      case rel => exact ⟨k' + 1, m' + 1, by omega, by omega, by go_num, by go_num, HR.out, (below_drewN (hb.alloc hb.size _) _)⟩
                      case measure => simp [intOf]; omega
                    · have hd2 : (x.elem != y.elem) = true := by simp [he]
                      have HR : Hid (sw xs ys = false) := by
                        show sw xs ys = false
                        refine decide_eq_false (fun hh => ?_)
                        have := HI.out.1 hh
                        rw [eX.out, eY.out] at this
                        simp [he] at this
                      clear hk he eX eY HI
                      go_wp2_with (go_at_call 33; refine (isWrite_any y _).mono ?_; rintro e w' ⟨rfl, C2, rfl⟩)
                      go_quiet (fail)
                      go_wp2
                      go_ret
                      exact ⟨ret_bool HR.out.symm, (below_drewN (hb.alloc hb.size _) _)⟩
                  · have hd : (x.key != y.key) = true := by simp [hk]
                    have HR : Hid (sw xs ys = false) := by
                      show sw xs ys = false
                      refine decide_eq_false (fun hh => ?_)
                      have := HI.out.1 hh
                      rw [eX.out, eY.out] at this
                      simp [hk] at this
                    clear hk eX eY HI
                    go_wp2_with (go_at_call 33; refine (isWrite_any y _).mono ?_; rintro e w' ⟨rfl, C2, rfl⟩)
                    go_quiet (fail)
                    go_wp2
                    go_ret
                    exact ⟨ret_bool HR.out.symm, (below_drewN (hb.alloc hb.size _) _)⟩
            · obtain rfl : m' = ys.length := by omega
              have i1 : ((k' : Int) == xs.length) = false := by simp; omega
              have HR : Hid (sw xs ys = false) := by
                show sw xs ys = false
                refine decide_eq_false (fun hh => ?_)
                have := HI.out.1 hh
                rw [HS.out, writes_at hlt (by rw [← HX.out]; exact hw), HM.out, writes_end (Nat.le_refl _)] at this
                cases this
              clear HS HM HX HI
              go_wp2_with fail
              go_ret
              exact ⟨ret_bool (by simp [HR.out]), hb⟩
      · obtain rfl : k' = xs.length := by omega
        have hbs := hb
        clear hb
        go_wp2_with fail
        go_loopw [6] (fun i wr => ∃ m' : Nat, m ≤ m' ∧ m' ≤ ys.length ∧ i = .int .i64 m' ∧ writes (ys.drop m) = writes (ys.drop m') ∧ Below w.heap.size w wr) (fun i _ => ys.length - (intOf i).toNat)
        case atStart => exact ⟨m, Nat.le_refl _, hm, rfl, rfl, hbs⟩
        case round =>
          clear hbs
          obtain ⟨m', hm1, hm2, rfl, hsm, hb⟩ := hrel
          have HM : Hid _ := hsm
          clear hsm
          by_cases hltm : m' < ys.length
          · have ha := H2.out.addr (by omega)
            subst ha
            obtain ⟨g0, g1, g2, g3, g4⟩ := mop_cells (((H2.out.below (w' := wr) hb).mops) m' hltm)
            obtain ⟨y, hy⟩ : ∃ y, y = ys.getD m' mop0 := ⟨_, rfl⟩
            rw [← hy] at g0 g1 g2 g3 g4
            have HY : Hid _ := hy
            clear hy
            cases hwy : isW y with
            | false =>
              have HN : Hid (writes (ys.drop m) = writes (ys.drop (m' + 1))) := HM.out.trans (writes_skip hltm (by rw [← HY.out]; exact hwy))
              clear HM HY
              go_wp2_with (go_at_call 33; refine (isWrite_any y _).mono ?_; rintro e w' ⟨rfl, C2, rfl⟩)
              go_roundw
              case rel => exact ⟨m' + 1, by omega, by omega, by go_num, HN.out, hb.alloc hb.size _⟩
              case measure => simp [intOf]; omega
            | true =>
                have i2 : ((m' : Int) == ys.length) = false := by simp; omega
                have HR : Hid (sw xs ys = false) := by
                  show sw xs ys = false
                  refine decide_eq_false (fun hh => ?_)
                  have := HI.out.1 hh
                  rw [HS.out, writes_end (Nat.le_refl _), HM.out, writes_at hltm (by rw [← HY.out]; exact hwy)] at this
                  cases this
                clear HS HM HY HI
                go_wp2_with (go_at_call 33; refine (isWrite_any y _).mono ?_; rintro e w' ⟨rfl, C2, rfl⟩)
                go_ret
                exact ⟨ret_bool (by simp [HR.out]), hb.alloc hb.size _⟩
          · obtain rfl : m' = ys.length := by omega
            have HR : Hid (sw xs ys = true) := by
              show sw xs ys = true
              refine decide_eq_true (HI.out.2 ?_)
              rw [HS.out, writes_end (Nat.le_refl _), HM.out, writes_end (Nat.le_refl _)]
            clear HS HM HI
            go_wp2_with fail
            go_ret
            exact ⟨ret_bool (by simp [HR.out]), hb⟩

end Go.Proofs.Qxb6601938a
