/-
  SEAT b6601938a. writesOf and sameWritesByFilter.
-/
import Derived.Test.Qxb6601938aMop
import Derived.Deep.AppendLies
namespace Go.Proofs.Qxb6601938a
open Go.RowKit

namespace Filter
theorem info2 : (Try.prog.info? 2).map (fun i => (i.zero, i.size, i.bytes)) = some (some (.int .i64 0), 1, 8) := by kernel_rfl

theorem hid {p : Prop} (h : p) : Hid p := h

/-! ### Plain -/
theorem writes_append (xs ys : List Mop5) : writes (xs ++ ys) = writes xs ++ writes ys := by
  induction xs with
  | nil => rfl
  | cons x r ih =>
    simp only [List.cons_append, writes, ih]
    split <;> simp

theorem take_mop (xs : List Mop5) (k : Nat) (h : k < xs.length) : xs.take (k + 1) = xs.take k ++ [xs.getD k mop0] := by
  rw [List.take_succ_eq_append_getElem h]
  simp [List.getD, h]

theorem writes_hit {xs : List Mop5} {k : Nat} (h : k < xs.length) (hw : isW (xs.getD k mop0) = true) : writes (xs.take (k + 1)) = writes (xs.take k) ++ [((xs.getD k mop0).key, (xs.getD k mop0).elem)] := by
  rw [take_mop xs k h, writes_append]
  simp only [writes, hw, if_true]

theorem writes_miss {xs : List Mop5} {k : Nat} (h : k < xs.length) (hw : isW (xs.getD k mop0) = false) : writes (xs.take (k + 1)) = writes (xs.take k) := by
  rw [take_mop xs k h, writes_append]
  simp only [writes, hw]
  simp

theorem writes_le (xs : List Mop5) : (writes xs).length ≤ xs.length := by
  induction xs with
  | nil => simp [writes]
  | cons x r ih => simp only [writes]; split <;> simp <;> omega

/-! ### A slice of integers that the call has built -/
def vals (zs : List Int) : List Value := zs.map (Value.int .i64)

def Apart (u v : Value) : Prop := u.ownBlock = none ∨ u.ownBlock ≠ v.ownBlock

/-- The integers behind a slice value. -/
structure IntsIn (w : World) (a : Option Addr) (g : Nat) (zs : List Int) : Prop where
  addr : 0 < zs.length → a = some ⟨g, 0, none⟩
  lt : 0 < zs.length → g < w.heap.size
  cell : ∀ j, j < zs.length → w.cell? ⟨g, j, none⟩ = some (.int .i64 (zs.getD j 0))

theorem IntsIn.below {w w' : World} {a : Option Addr} {g : Nat} {zs : List Int} (h : IntsIn w a g zs) (hb : Below w.heap.size w w') : IntsIn w' a g zs :=
  ⟨h.addr, fun h0 => Nat.lt_of_lt_of_le (h.lt h0) hb.size, fun j hj => by rw [hb.cell (p := ⟨g, j, none⟩) (h.lt (by omega))]; exact h.cell j hj⟩

theorem ints_of_owns {w : World} {base : Nat} {v : Value} {n : Nat} {zs : List Int} (h : w.ownsRow base 2 1 v n (vals zs)) : ∃ a c g, v = .slice a zs.length c ∧ IntsIn w a g zs := by
  have hn : zs.length = n := by simpa [vals] using h.1
  rcases h.2 with ⟨rfl, h0⟩ | ⟨g, cap, cur, rfl, hb, hg, _, _, hcs, ht⟩
  · refine ⟨none, 0, 0, ?_, fun h => by omega, fun h => by omega, fun j hj => by omega⟩
    rw [hn, h0]
  · refine ⟨_, cap, g, by rw [hn], fun _ => rfl, fun _ => (Array.getElem?_eq_some_iff.1 hg).1, fun j hj => ?_⟩
    rw [cell_of_row w g j cur 2 (0, 0) hg]
    have e1 : (vals zs)[j]? = some (.int .i64 (zs.getD j 0)) := by simp [vals, List.getD, hj]
    rw [← ht, List.getElem?_take] at e1
    split at e1
    · simpa using e1
    · cases e1

/-- What writesOf leaves. -/
def WritesPost (ws : List (Int × Int)) (w : World) (e : Ending) (w' : World) : Prop :=
  ∃ (a1 a2 : Option Addr) (c1 c2 g1 g2 : Nat), e = .returned (.tuple #[.slice a1 ws.length c1, .slice a2 ws.length c2]) ∧ IntsIn w' a1 g1 (ws.map Prod.fst) ∧ IntsIn w' a2 g2 (ws.map Prod.snd) ∧ Below w.heap.size w w'

theorem isKind_any (v : Int) (x : Mop5) (hx : x.kind = v) (w : World) : Calls Try.prog 34 #[.int .u8 v] w fun e w' => e = .returned (.bool (isW x)) ∧ w = w' := by
  subst hx
  by_cases h1 : x.kind = 1
  · have q : (x.kind == 1) = true := by simp [h1]
    have r : isW x = true := by simp [isW, h1]
    clear h1
    go_enter Try.func34, Try.ntmps34
    go_wp2
    go_ret
    exact ⟨ret_bool r.symm, rfl⟩
  · have q : (x.kind == 1) = false := by simp [h1]
    have r : Hid (isW x = (x.kind == 3)) := by show isW x = (x.kind == 3); unfold isW; rw [q]; rfl
    clear h1
    go_enter Try.func34, Try.ntmps34
    go_wp2
    go_ret
    exact ⟨ret_bool (by simp [r.out]), rfl⟩

/-- The state of writesOf: two rows apart. -/
structure Rows2 (w : World) (ws : List (Int × Int)) (u v : Value) (wr : World) : Prop where
  keys : wr.ownsRow w.heap.size 2 1 u ws.length (vals (ws.map Prod.fst))
  elems : wr.ownsRow w.heap.size 2 1 v ws.length (vals (ws.map Prod.snd))
  apart : Apart u v
  below : Below w.heap.size w wr

theorem Rows2.first {w wr w1 : World} {ws : List (Int × Int)} {u v : Value} {k : Int} {g cap : Nat} (h : Rows2 w ws u v wr) {o : Obj}
    (hown : w1.ownsRow w.heap.size 2 1 (.slice (some ⟨g, 0, none⟩) (ws.length + 1) cap) (ws.length + 1) (vals (ws.map Prod.fst) ++ [.int .i64 k])) (hgrow : (wr.alloc o).grownBy w1 u.ownBlock) (hat : u.ownBlock = some g ∨ g = wr.heap.size + 1)   :
    w1.ownsRow w.heap.size 2 1 v ws.length (vals (ws.map Prod.snd)) ∧ Apart v (.slice (some ⟨g, 0, none⟩) (ws.length + 1) cap) ∧ Below w.heap.size w w1 := by
  have hb1 := h.below.size
  refine ⟨(h.elems.alloc o).kept hgrow ?_, ?_, (h.below.alloc h.below.size o).grown hgrow (by simp; omega) ?_⟩
  · rcases h.apart with h1 | h1
    · rw [h1]; cases hv : v.ownBlock <;> simp
    · exact .inr (fun e => h1 e.symm)
  · cases hv : v.ownBlock with
    | none => exact .inl hv
    | some q =>
      right
      rw [hv]
      have hq := h.elems.lt q hv
      intro e
      simp [Value.ownBlock] at e
      subst e
      rcases hat with h2 | h2
      · rcases h.apart with h3 | h3
        · rw [h3] at h2; cases h2
        · rw [h2, hv] at h3; exact h3 rfl
      · omega
  · intro q hq
    exact (h.keys.lt q hq).1

theorem Rows2.second {w w1 w2 : World} {ws : List (Int × Int)} {u v : Value} {k e : Int} {g cap : Nat} {o : Obj}
    (hu : w1.ownsRow w.heap.size 2 1 u (ws.length + 1) (vals (ws.map Prod.fst) ++ [.int .i64 k])) (hv : w1.ownsRow w.heap.size 2 1 v ws.length (vals (ws.map Prod.snd))) (hap : Apart v u) (hb : Below w.heap.size w w1)
    (hown : w2.ownsRow w.heap.size 2 1 (.slice (some ⟨g, 0, none⟩) (ws.length + 1) cap) (ws.length + 1) (vals (ws.map Prod.snd) ++ [.int .i64 e])) (hgrow : (w1.alloc o).grownBy w2 v.ownBlock) (hat : v.ownBlock = some g ∨ g = w1.heap.size + 1) :
    Rows2 w (ws ++ [(k, e)]) u (.slice (some ⟨g, 0, none⟩) (ws.length + 1) cap) w2 := by
  have hs := hb.size
  refine ⟨?_, ?_, ?_, (hb.alloc hb.size o).grown hgrow (by simp; omega) (fun q hq => (hv.lt q hq).1)⟩
  · have := (hu.alloc o).kept hgrow (by
      rcases hap with h1 | h1
      · rw [h1]; cases hq : u.ownBlock <;> simp
      · exact .inr (fun e => h1 e.symm))
    simpa [vals] using this
  · simpa [vals] using hown
  · cases hq : u.ownBlock with
    | none => exact .inl hq
    | some q =>
      right
      rw [hq]
      have hlt := hu.lt q hq
      intro e
      simp [Value.ownBlock] at e
      subst e
      rcases hat with h2 | h2
      · rcases hap with h3 | h3
        · rw [h3] at h2; cases h2
        · rw [h2, hq] at h3; exact h3 rfl
      · omega

set_option maxHeartbeats 1000000 in
theorem writesOf_any (xs : List Mop5) (a1 : Option Addr) (b1 o1 c1 : Nat) (w : World) (hn1 : xs.length ≤ 32768) (h1 : MopsIn w a1 b1 o1 xs) :
    Calls Try.prog 31 #[.slice a1 xs.length c1] w (WritesPost (writes xs) w) := by
  have H1 : Hid _ := h1
  clear h1
  obtain ⟨i0, hi, hz0, hz1, hz2⟩ := info_parts info2
  go_enter Try.func31, Try.ntmps31
  go_wp2
  go_loopw [4, 5, 9] (fun u v i wr => ∃ k : Nat, k ≤ xs.length ∧ i = .int .i64 k ∧ Rows2 w (writes (xs.take k)) u v wr) (fun _ _ i _ => xs.length - (intOf i).toNat)
  case atStart => exact ⟨0, Nat.zero_le _, rfl, World.ownsRow_nil _ _ _ _, World.ownsRow_nil _ _ _ _, .inl rfl, Below.refl _ _⟩
  case round =>
    obtain ⟨k, hk, rfl, hR⟩ := hrel
    have hwl : (writes (xs.take k)).length ≤ k := Nat.le_trans (writes_le _) (List.length_take_le _ _)
    by_cases hlt : k < xs.length
    · have ha := H1.out.addr (by omega)
      subst ha
      obtain ⟨f0, f1, f2, f3, f4⟩ := mop_cells ((H1.out.below hR.below).mops k hlt)
      have hb1 := H1.out.lt (by omega)
      have hsz := hR.below.size
      obtain ⟨x, hx⟩ : ∃ x, x = xs.getD k mop0 := ⟨_, rfl⟩
      rw [← hx] at f0 f1 f2 f3 f4
      have HX : Hid _ := hx
      clear hx
      cases hw : isW x with
      | false =>
        have HW : Hid _ := writes_miss hlt (by rw [← HX.out]; exact hw)
        go_wp2_with (go_at_call 34; refine (isKind_any _ x rfl _).mono ?_; rintro e w' ⟨rfl, rfl⟩)
        go_roundw
        case rel => exact ⟨k + 1, by omega, by go_num, by rw [HW.out]; exact hR⟩
        case measure => simp [intOf]; omega
      | true =>
        have HW : Hid (writes (xs.take (k + 1)) = writes (xs.take k) ++ [(x.key, x.elem)]) := by
          have := writes_hit hlt (by rw [← HX.out]; exact hw)
          rw [← HX.out] at this
          exact this
        generalize writes (xs.take k) = ws at *
        have HR := hid hR
        have HKH := hid hR.keys
        clear hR
        go_wp2_with (first
          | (go_at_call 34; refine (isKind_any _ x rfl _).mono ?_; rintro e w' ⟨rfl, rfl⟩)
          | (at_builtin; refine wpList_append_lies _ rfl (.tmp 18) (.tmp 24) 49 rfl w.heap.size 2 i0 (.int .i64 0) 1 8 Try.underlying49 hi hz0 hz1 hz2 rfl (by decide) u4 ws.length (vals (ws.map Prod.fst)) rfl (HKH.out.alloc _) ⟨wr.heap.size, 0, none⟩ 1 1 [.int .i64 x.key] rfl rfl (cell_one_new _ _ _) (ints_oneCell .i64 [x.key]) (by decide) (by unfold maxLen; omega) (by omega) (by simp; omega) (wr.heap.size + 1) (by simp) ?_; intro g cap w1 hown1 hgrow1 hat1 hlt1; obtain ⟨r1, r2, r3⟩ := HR.out.first hown1 hgrow1 hat1; have hs1 := r3.size; have f3' : w1.cell? ⟨b1, o1 + k * 5 + 3, none⟩ = some (.int .i64 x.elem) := ((H1.out.below r3).mops k hlt) 3 _ (by rw [← HX.out]; rfl); have R1H := hid r1; have OH := hid hown1; clear r1 hown1)
          | (at_builtin; refine wpList_append_lies _ rfl (.tmp 26) (.tmp 32) 49 rfl w.heap.size 2 i0 (.int .i64 0) 1 8 Try.underlying49 hi hz0 hz1 hz2 rfl (by decide) u5 ws.length (vals (ws.map Prod.snd)) rfl (R1H.out.alloc _) ⟨w1.heap.size, 0, none⟩ 1 1 [.int .i64 x.elem] rfl rfl (cell_one_new _ _ _) (ints_oneCell .i64 [x.elem]) (by decide) (by unfold maxLen; omega) (by omega) (by simp; omega) (w1.heap.size + 1) (by simp) ?_; intro g2 cap2 w2 hown2 hgrow2 hat2 hlt2))
        have R := Rows2.second OH.out R1H.out r2 r3 hown2 hgrow2 hat2
        go_roundw
        case rel => exact ⟨k + 1, by omega, by go_num, by rw [HW.out]; exact R⟩
        case measure => simp [intOf]; omega
    · have e : xs.take k = xs := List.take_of_length_le (by omega)
      rw [e] at hR
      have HR := hid hR
      clear hR e
      go_wp2
      go_ret2
      obtain ⟨a1, c1, g1, hv1, hi1⟩ := ints_of_owns HR.out.keys
      obtain ⟨a2, c2, g2, hv2, hi2⟩ := ints_of_owns HR.out.elems
      refine ⟨a1, a2, c1, c2, g1, g2, ?_, hi1, hi2, HR.out.below⟩
      rw [hv1, hv2]
      simp

theorem take_pair (ws : List (Int × Int)) (k : Nat) (h : k < ws.length) : ws.take (k + 1) = ws.take k ++ [((ws.map Prod.fst).getD k 0, (ws.map Prod.snd).getD k 0)] := by
  have e : ((ws.map Prod.fst).getD k 0, (ws.map Prod.snd).getD k 0) = ws[k] := by simp [List.getD, h]
  rw [e, List.take_succ_eq_append_getElem h]

set_option maxHeartbeats 1000000 in
theorem byFilter_any (xs ys : List Mop5) (a1 a2 : Option Addr) (b1 o1 c1 b2 o2 c2 : Nat) (w : World) (hn1 : xs.length ≤ 32768) (hn2 : ys.length ≤ 32768) (h1 : MopsIn w a1 b1 o1 xs) (h2 : MopsIn w a2 b2 o2 ys) :
    Calls Try.prog 21 #[.slice a1 xs.length c1, .slice a2 ys.length c2] w fun e w' => e = .returned (.bool (sw xs ys)) ∧ Below w.heap.size w w' := by
  have H1 := hid h1
  have H2 := hid h2
  have hl1 : (writes xs).length ≤ 32768 := Nat.le_trans (writes_le _) hn1
  have hl2 : (writes ys).length ≤ 32768 := Nat.le_trans (writes_le _) hn2
  clear h1 h2
  go_enter Try.func21, Try.ntmps21
  go_wp2_with fail
  refine (writesOf_any xs a1 b1 o1 c1 _ hn1 H1.out).mono ?_
  rintro e w1 ⟨p1, p2, d1, d2, g1, g2, rfl, i1, i2, hb1⟩
  have I1 := hid i1
  have I2 := hid i2
  clear i1 i2
  go_wp2_with fail
  refine (writesOf_any ys a2 b2 o2 c2 _ hn2 (H2.out.below hb1)).mono ?_
  rintro e w2 ⟨p3, p4, d3, d4, g3, g4, rfl, i3, i4, hb2⟩
  have J1 := hid (I1.out.below hb2)
  have J2 := hid (I2.out.below hb2)
  have J3 := hid i3
  have J4 := hid i4
  have hB := hb1.trans (hb2.mono hb1.size)
  clear i3 i4 I1 I2 hb1 hb2 H1 H2
  have hsw : Hid (sw xs ys = decide (writes xs = writes ys)) := rfl
  generalize writes xs = wx at *
  generalize writes ys = wy at *
  by_cases hlen : wx.length = wy.length
  · have hl : ((wx.length : Int) != wy.length) = false := by simp [hlen]
    have HLEN := hid hlen
    clear hlen
    go_wp2
    go_loopw [27] (fun i wr => ∃ k : Nat, k ≤ wx.length ∧ i = .int .i64 k ∧ wx.take k = wy.take k ∧ Below w2.heap.size w2 wr) (fun i _ => wx.length - (intOf i).toNat)
    case atStart => exact ⟨0, Nat.zero_le _, rfl, rfl, Below.refl _ _⟩
    case round =>
      obtain ⟨k, hk, rfl, htk, hb⟩ := hrel
      have HT := hid htk
      clear htk
      by_cases hlt : k < wx.length
      · have hlt2 : k < wy.length := by rw [← HLEN.out]; exact hlt
        have q1 : (k : Int) < wx.length := by omega
        have q2 : (k : Int) < wy.length := by omega
        have s1 := J1.out.addr (by simp; omega)
        have s2 := J2.out.addr (by simp; omega)
        have s3 := J3.out.addr (by simp; omega)
        have s4 := J4.out.addr (by simp; omega)
        subst s1 s2 s3 s4
        have e1 := (J1.out.below hb).cell k (by simpa using hlt)
        have e2 := (J2.out.below hb).cell k (by simpa using hlt)
        have e3 := (J3.out.below hb).cell k (by simpa using hlt2)
        have e4 := (J4.out.below hb).cell k (by simpa using hlt2)
        have T1 := hid (take_pair wx k hlt)
        have T2 := hid (take_pair wy k hlt2)
        generalize (wx.map Prod.fst).getD k 0 = x1 at *
        generalize (wx.map Prod.snd).getD k 0 = x2 at *
        generalize (wy.map Prod.fst).getD k 0 = y1 at *
        generalize (wy.map Prod.snd).getD k 0 = y2 at *
        by_cases hk1 : x1 = y1
        · have hd : (x1 != y1) = false := by simp [hk1]
          by_cases hk2 : x2 = y2
          · have hd2 : (x2 != y2) = false := by simp [hk2]
            have HN : Hid (wx.take (k + 1) = wy.take (k + 1)) := by
              show _ = _
              rw [T1.out, T2.out, HT.out, hk1, hk2]
            clear hk1 hk2 T1 T2 HT
            go_wp2_with fail
            go_quiet (fail)
            go_wp2
            go_roundw
            case rel => exact ⟨k + 1, by omega, by go_num, HN.out, below_drewN hb _⟩
            case measure => simp [intOf]; omega
          · have hd2 : (x2 != y2) = true := by simp [hk2]
            have HN : Hid (sw xs ys = false) := by
              show _ = _
              rw [hsw.out]
              refine decide_eq_false (fun hh => ?_)
              rw [hh, T2.out] at T1
              have := List.append_inj_right' T1.out rfl
              simp only [List.cons.injEq, Prod.mk.injEq, and_true] at this
              exact hk2 this.2.symm
            clear hk1 hk2 T1 T2 HT hsw
            go_wp2_with fail
            go_quiet (fail)
            go_wp2
            go_ret
            exact ⟨ret_bool HN.out.symm, below_drewN (hB.trans (hb.mono hB.size)) _⟩
        · have hd : (x1 != y1) = true := by simp [hk1]
          have HN : Hid (sw xs ys = false) := by
            show _ = _
            rw [hsw.out]
            refine decide_eq_false (fun hh => ?_)
            rw [hh, T2.out] at T1
            have := List.append_inj_right' T1.out rfl
            simp only [List.cons.injEq, Prod.mk.injEq, and_true] at this
            exact hk1 this.1.symm
          clear hk1 T1 T2 HT hsw
          go_wp2_with fail
          go_quiet (fail)
          go_wp2
          go_ret
          exact ⟨ret_bool HN.out.symm, below_drewN (hB.trans (hb.mono hB.size)) _⟩
      · have HN : Hid (sw xs ys = true) := by
          show _ = _
          rw [hsw.out]
          refine decide_eq_true ?_
          have := HT.out
          rwa [List.take_of_length_le (by omega), List.take_of_length_le (by rw [← HLEN.out]; omega)] at this
        clear HT hsw
        go_wp2
        go_ret
        exact ⟨ret_bool HN.out.symm, hB.trans (hb.mono hB.size)⟩
  · have hl : ((wx.length : Int) != wy.length) = true := by simp; omega
    have HN : Hid (sw xs ys = false) := by
      show _ = _
      rw [hsw.out]
      exact decide_eq_false (fun hh => hlen (by rw [hh]))
    clear hlen hsw
    go_wp2
    go_ret
    exact ⟨ret_bool HN.out.symm, hB⟩
end Filter
end Go.Proofs.Qxb6601938a
