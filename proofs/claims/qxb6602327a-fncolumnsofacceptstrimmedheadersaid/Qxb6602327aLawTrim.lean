/-
  SEAT b6602327a. 'Rows.FnColumnsOfAcceptsTrimmedHeaderSaid', PROVED.
-/
import Derived.Test.Qxb6602327aZZcols
import Derived.Test.Qxb6602327aPlain
import Derived.Deep.AppendLies
import Derived.BigQuiet
import Derived.Test.Qxb6602327aOpen
import Derived.OpenShut
import Derived.ChangeOld
namespace Go.Proofs.Qxb6602327a
open Go.ChangeShapes Go.WideShapes Go.ChangeAt Go.RowKit
namespace Trim

def strs (ts : List ByteArray) : List Value := ts.map Value.string
def nats (ch : List Nat) : List Value := ch.map (fun c => Value.int .i64 ((c : Nat) : Int))

theorem texts_length (hs : List ByteArray) (ch : List Nat) : (texts hs ch).length = ch.length := by simp [texts]

/-- Two rows that the law builds: the texts and the places. -/
structure Two (w : World) (g1 g2 n m : Nat) (ts : List ByteArray) (ch : List Nat) (wr : World) : Prop where
  fst : wr.ownsRow w.heap.size 9 1 (.slice (some ⟨g1, 0, none⟩) m n) m (strs ts)
  snd : wr.ownsRow w.heap.size 3 1 (.slice (some ⟨g2, 0, none⟩) m n) m (nats ch)
  below : Below w.heap.size w wr

theorem Two.first {w wr w1 : World} {g1 g2 n m : Nat} {ts : List ByteArray} {ch : List Nat} {t : ByteArray} (h : Two w g1 g2 n m ts ch wr) (hg : g1 ≠ g2) {o : Obj}
    (_hown : w1.ownsRow w.heap.size 9 1 (.slice (some ⟨g1, 0, none⟩) (m + 1) n) (m + 1) (strs ts ++ [.string t])) (hgrow : (wr.alloc o).grownBy w1 (some g1)) :
    w1.ownsRow w.heap.size 3 1 (.slice (some ⟨g2, 0, none⟩) m n) m (nats ch) ∧ Below w.heap.size w w1 := by
  have hb1 := h.below.size
  refine ⟨(h.snd.alloc o).kept hgrow (.inr ?_), (h.below.alloc h.below.size o).grown hgrow (by simp; omega) ?_⟩
  · simp [Value.ownBlock]; omega
  · intro q hq
    cases hq
    exact (h.fst.lt g1 (by simp [Value.ownBlock])).1

theorem Two.second {w w1 w2 : World} {g1 g2 n m : Nat} {ts : List ByteArray} {ch : List Nat} {t : ByteArray} {c : Nat} (hg : g1 ≠ g2) {o : Obj}
    (hu : w1.ownsRow w.heap.size 9 1 (.slice (some ⟨g1, 0, none⟩) (m + 1) n) (m + 1) (strs ts ++ [.string t])) (hv : w1.ownsRow w.heap.size 3 1 (.slice (some ⟨g2, 0, none⟩) m n) m (nats ch)) (hb : Below w.heap.size w w1)
    (hown : w2.ownsRow w.heap.size 3 1 (.slice (some ⟨g2, 0, none⟩) (m + 1) n) (m + 1) (nats ch ++ [.int .i64 c])) (hgrow : (w1.alloc o).grownBy w2 (some g2)) :
    Two w g1 g2 n (m + 1) (ts ++ [t]) (ch ++ [c]) w2 := by
  have hs := hb.size
  refine ⟨?_, ?_, (hb.alloc hb.size o).grown hgrow (by simp; omega) ?_⟩
  · have := (hu.alloc o).kept hgrow (.inr (by simp [Value.ownBlock]; omega))
    simpa [strs] using this
  · simpa [nats] using hown
  · intro q hq
    cases hq
    exact (hv.lt g2 (by simp [Value.ownBlock])).1

theorem Two.strsIn {w wr : World} {g1 g2 n m : Nat} {ts : List ByteArray} {ch : List Nat} (h : Two w g1 g2 n m ts ch wr) : StrsIn wr (some ⟨g1, 0, none⟩) g1 0 ts := by
  have hn : ts.length = m := by simpa [strs] using h.fst.1
  rcases h.fst.2 with ⟨h0, _⟩ | ⟨g, cap, cur, hv, hb, hg, _, _, hcs, ht⟩
  · cases h0
  · simp at hv
    obtain ⟨rfl, rfl⟩ := hv
    refine ⟨fun _ => rfl, fun _ => (Array.getElem?_eq_some_iff.1 hg).1, fun j hj => ?_⟩
    rw [Nat.zero_add, cell_of_row wr g1 j cur 9 (0, 0) hg]
    have e1 : (strs ts)[j]? = some (.string (ts.getD j str0)) := by simp [strs, List.getD, hj]
    rw [← ht, List.getElem?_take] at e1
    split at e1
    · simpa using e1
    · cases e1

theorem Two.natsIn {w wr : World} {g1 g2 n m : Nat} {ts : List ByteArray} {ch : List Nat} (h : Two w g1 g2 n m ts ch wr) (j : Nat) (hj : j < ch.length) : g2 < wr.heap.size ∧ wr.cell? ⟨g2, j, none⟩ = some (.int .i64 ((ch.getD j 0 : Nat) : Int)) := by
  rcases h.snd.2 with ⟨h0, _⟩ | ⟨g, cap, cur, hv, hb, hg, _, _, hcs, ht⟩
  · cases h0
  · simp at hv
    obtain ⟨rfl, rfl⟩ := hv
    refine ⟨(Array.getElem?_eq_some_iff.1 hg).1, ?_⟩
    rw [cell_of_row wr g2 j cur 3 (0, 0) hg]
    have e1 : (nats ch)[j]? = some (.int .i64 ((ch.getD j 0 : Nat) : Int)) := by simp [nats, List.getD, hj]
    rw [← ht, List.getElem?_take] at e1
    split at e1
    · simpa using e1
    · cases e1

theorem texts_succ (hs : List ByteArray) (r : Nat) (keep : List Bool) (k : Nat) (h : (decide (k < r) || keep.getD k false) = true) : texts hs (pick r keep (k + 1)) = texts hs (pick r keep k) ++ [hs.getD k str0] ∧ pick r keep (k + 1) = pick r keep k ++ [k] := by
  rw [pick_succ, if_pos h]
  exact ⟨by simp [texts], rfl⟩
theorem pick_skip (r : Nat) (keep : List Bool) (k : Nat) (h : (decide (k < r) || keep.getD k false) = false) : pick r keep (k + 1) = pick r keep k := by
  rw [pick_succ, h]
  simp

set_option maxRecDepth 100000 in
set_option maxHeartbeats 2000000 in
theorem walk (hs : List ByteArray) (keep : List Bool) (z : Int) (a1 a2 : Option Addr) (b1 o1 c1 b2 o2 c2 : Nat) (w : World) (hn : hs.length ≤ maxLen) (hm : keep.length ≤ maxLen) (h1 : StrsIn w a1 b1 o1 hs) (h2 : BoolsIn w a2 b2 o2 keep) :
    Calls Try.prog 5 #[.slice a1 hs.length c1, .int .i64 z, .slice a2 keep.length c2] w fun e w' => e = .returned (.bool true) ∧ Below w.heap.size w w' := by
  have H1 := hid h1
  have H2 := hid h2
  have G14 := hid (bytes14_any hs a1 a2 b1 o1 c1 keep.length c2 z w hn hm h1)
  have G7 := hid (fun k => fit7_any [] hs none a1 0 0 0 b1 o1 c1 k w (by simp) hn ⟨fun h => by simp at h, fun h => by simp at h, fun i hi => by simp at hi⟩ h1)
  unfold maxLen at hn hm
  clear h1 h2
  obtain ⟨j9, hi9, hz9, hs9, hb9⟩ := info_parts info9
  obtain ⟨j3, hi3, hz3, hs3, hb3⟩ := info_parts info3
  go_enter Try.func5, Try.ntmps5
  go_wp2_with fail
  refine Calls.mono G14.out ?_
  rintro e w' ⟨β, rfl, rfl, _⟩
  cases β with
  | false =>
    go_wp2
    go_ret
    exact ⟨rfl, Below.refl _ _⟩
  | true =>
    go_wp2_with fail
    refine Calls.mono (G7.out _) ?_
    rintro e w' ⟨β, rfl, rfl, hfit⟩
    cases β with
    | false =>
      go_wp2
      go_ret
      exact ⟨rfl, Below.refl _ _⟩
    | true =>
      obtain ⟨_, f2, _, f4⟩ := hfit rfl
      clear hfit G7 G14
      by_cases q1 : z < 0
      · go_wp2
        go_ret
        exact ⟨rfl, Below.refl _ _⟩
      · by_cases q2 : (hs.length : Int) < z
        · go_wp2
          go_ret
          exact ⟨rfl, Below.refl _ _⟩
        · obtain ⟨zn, rfl⟩ : ∃ zn : Nat, z = (zn : Int) := ⟨z.toNat, by omega⟩
          obtain ⟨r, hr⟩ : ∃ r, hs.length = r + zn := ⟨hs.length - zn, by omega⟩
          have HRR := hid hr
          have hrn : r ≤ hs.length := by omega
          have k1 : IntKind.i64.wrap ((hs.length : Int) - (zn : Int)) = (r : Int) := by rw [IntKind.wrap_i64]; omega
          have hkl : keep.length ≤ 65536 := by omega
          have t1 : decide ((zn : Int) < 0) = false := by simp
          have t2 : decide (hs.length < zn) = false := by simp; omega
          clear hr q1 q2
          go_wp2_with fail
          refine (clone8_any hs a1 b1 o1 c1 _ f2 H1.out).mono ?_
          rintro e w1 ⟨a3, b3, c3, rfl, s3, hc3, hb3', hB1⟩
          have S3 := hid s3
          have HB1 := hid hB1
          have K2 := hid (H2.out.below hB1 (fun h => H2.out.lt h))
          clear s3 hB1 H2
          go_wp2_with fail
          refine (clone15_any keep a2 b2 o2 c2 _ hkl K2.out).mono ?_
          rintro e w2 ⟨a4, b4, c4, rfl, s4, hc4, hb4', hB2⟩
          have S4 := hid s4
          have S3' := hid (S3.out.below hB2 (fun h => S3.out.lt h) hB2.size)
          have HB2 := hid (HB1.out.trans (hB2.mono HB1.out.size))
          have hsz2 := hB2.size
          have hsz1 := HB1.out.size
          clear s4 hB2 K2 S3 HB1 H1
          go_wp2_with (first
            | (at_make; refine wpList_make_own _ rfl (.const (.int .i64 0)) (.tmp 41) 22 rfl w2.heap.size 9 j9 (.string ByteArray.empty) 1 Try.underlying22 hi9 hz9 hs9 .i64 .i64 _ hs.length rfl rfl rfl (by rw [hb9]; omega) (by unfold maxLen; omega) (Nat.le_refl _) ?_; intro w3 hm1 hg1)
            | (at_make; refine wpList_make_own _ rfl (.const (.int .i64 0)) (.tmp 44) 25 rfl w2.heap.size 3 j3 (.int .i64 0) 1 Try.underlying25 hi3 hz3 hs3 .i64 .i64 _ hs.length rfl rfl rfl (by rw [hb3]; omega) (by unfold maxLen; omega) hg1.size ?_; intro w4 hm2 hg2))
          have l1 := hm1.lt w2.heap.size (by simp [Value.ownBlock])
          have hg12 : w2.heap.size ≠ w3.heap.size := by omega
          have hb4w := ((Below.refl w2.heap.size w2).grown hg1 (Nat.le_refl _) (fun q hq => by cases hq)).grown hg2 (by omega) (fun q hq => by cases hq)
          have HT0 := hid (show Two w2 w2.heap.size w3.heap.size hs.length 0 [] [] w4 from ⟨hm1.kept hg2 (.inr (by simp [Value.ownBlock])), hm2, hb4w⟩)
          clear hm1 hm2 hg1 hg2 hb4w
          go_loopw [8, 9, 10] (fun u v i wr => ∃ k m : Nat, k ≤ hs.length ∧ m ≤ k ∧ i = .int .i64 k ∧ u = .slice (some ⟨w2.heap.size, 0, none⟩) m hs.length ∧ v = .slice (some ⟨w3.heap.size, 0, none⟩) m hs.length ∧ Two w2 w2.heap.size w3.heap.size hs.length m (texts hs (pick r keep k)) (pick r keep k) wr) (fun _ _ i _ => hs.length - (intOf i).toNat)
          case atStart => exact ⟨0, 0, Nat.zero_le _, Nat.le_refl _, rfl, rfl, rfl, HT0.out⟩
          case round =>
            obtain ⟨k, m, hk, hmk, rfl, rfl, rfl, htw⟩ := hrel
            have HTW := hid htw
            clear htw
            by_cases hlt : k < hs.length
            · by_cases hkr : k < r
              · have t3 : decide (k < r) = true := by simp; omega
                obtain ⟨ht, hp⟩ := texts_succ hs r keep k (by rw [t3]; rfl)
                have HT := hid ht
                have HP := hid hp
                have s3 : wr.cell? ⟨b3, k, none⟩ = some (.string (hs.getD k str0)) := by
                  have := (S3'.out.below HTW.out.below (fun h => S3'.out.lt h) HTW.out.below.size).cell k hlt
                  simpa using this
                have ha3 := S3'.out.addr (by omega)
                subst ha3
                generalize hs.getD k str0 = x at *
                generalize texts hs (pick r keep k) = ts at *
                generalize pick r keep k = ch at *
                clear ht hp
                have HF := hid HTW.out.fst
                go_wp2_with (first
                  | (at_builtin; refine wpList_append_fits _ rfl (.tmp 67) (.tmp 72) 22 rfl w2.heap.size 9 j9 1 Try.underlying22 hi9 hs9 w2.heap.size m hs.length (strs ts) rfl (HF.out.alloc _) ⟨wr.heap.size, 0, none⟩ 1 1 [.string x] rfl rfl (cell_one_new _ _ _) (by simp [Value.oneCell']) (by omega) ?_; intro w5 hown1 hgrow1; obtain ⟨r1, r2⟩ := HTW.out.first hg12 hown1 hgrow1; have R1H := hid r1; have OH := hid hown1; have hs5 := r2.size; clear r1 hown1)
                  | (at_builtin; refine wpList_append_fits _ rfl (.tmp 74) (.tmp 76) 25 rfl w2.heap.size 3 j3 1 Try.underlying25 hi3 hs3 w3.heap.size m hs.length (nats ch) rfl (R1H.out.alloc _) ⟨w5.heap.size, 0, none⟩ 1 1 [.int .i64 k] rfl rfl (cell_one_new _ _ _) (by simp [Value.oneCell']) (by omega) ?_; intro w6 hown2 hgrow2))
                have R := Two.second hg12 OH.out R1H.out r2 hown2 hgrow2
                go_roundw
                case rel => exact ⟨k + 1, m + 1, by omega, by omega, by go_num, rfl, rfl, by rw [HT.out, HP.out]; exact R⟩
                case measure => simp [intOf]; omega
              · have t3 : decide (k < r) = false := by simp; omega
                by_cases hkk : k < keep.length
                · have t4 : decide (k < keep.length) = true := by simp; omega
                  have ha4 := S4.out.addr (by omega)
                  subst ha4
                  have s4 : wr.cell? ⟨b4, k, none⟩ = some (.bool (keep.getD k false)) := by
                    have := (S4.out.below HTW.out.below (fun h => S4.out.lt h)).cell k hkk
                    simpa using this
                  cases hkv : keep.getD k false with
                  | true =>
                    rw [hkv] at s4
                    obtain ⟨ht, hp⟩ := texts_succ hs r keep k (by rw [t3, hkv]; rfl)
                    have HT := hid ht
                    have HP := hid hp
                    have s3 : wr.cell? ⟨b3, k, none⟩ = some (.string (hs.getD k str0)) := by
                      have := (S3'.out.below HTW.out.below (fun h => S3'.out.lt h) HTW.out.below.size).cell k hlt
                      simpa using this
                    have ha3 := S3'.out.addr (by omega)
                    subst ha3
                    generalize hs.getD k str0 = x at *
                    generalize texts hs (pick r keep k) = ts at *
                    generalize pick r keep k = ch at *
                    clear ht hp hkv
                    have HF := hid HTW.out.fst
                    go_wp2_with (first
                      | (at_builtin; refine wpList_append_fits _ rfl (.tmp 67) (.tmp 72) 22 rfl w2.heap.size 9 j9 1 Try.underlying22 hi9 hs9 w2.heap.size m hs.length (strs ts) rfl (HF.out.alloc _) ⟨wr.heap.size, 0, none⟩ 1 1 [.string x] rfl rfl (cell_one_new _ _ _) (by simp [Value.oneCell']) (by omega) ?_; intro w5 hown1 hgrow1; obtain ⟨r1, r2⟩ := HTW.out.first hg12 hown1 hgrow1; have R1H := hid r1; have OH := hid hown1; have hs5 := r2.size; clear r1 hown1)
                      | (at_builtin; refine wpList_append_fits _ rfl (.tmp 74) (.tmp 76) 25 rfl w2.heap.size 3 j3 1 Try.underlying25 hi3 hs3 w3.heap.size m hs.length (nats ch) rfl (R1H.out.alloc _) ⟨w5.heap.size, 0, none⟩ 1 1 [.int .i64 k] rfl rfl (cell_one_new _ _ _) (by simp [Value.oneCell']) (by omega) ?_; intro w6 hown2 hgrow2))
                    have R := Two.second hg12 OH.out R1H.out r2 hown2 hgrow2
                    go_roundw
                    case rel => exact ⟨k + 1, m + 1, by omega, by omega, by go_num, rfl, rfl, by rw [HT.out, HP.out]; exact R⟩
                    case measure => simp [intOf]; omega
                  | false =>
                    rw [hkv] at s4
                    have HP := hid (pick_skip r keep k (by rw [t3, hkv]; rfl))
                    go_wp2_with fail
                    go_roundw
                    case rel => exact ⟨k + 1, m, by omega, by omega, by go_num, rfl, rfl, by rw [HP.out]; exact HTW.out⟩
                    case measure => simp [intOf]; omega
                · have t4 : decide (k < keep.length) = false := by simp; omega
                  have hkv : keep.getD k false = false := by simp [List.getD, List.getElem?_eq_none (show keep.length ≤ k by omega)]
                  have HP := hid (pick_skip r keep k (by rw [t3, hkv]; rfl))
                  go_wp2_with fail
                  go_roundw
                  case rel => exact ⟨k + 1, m, by omega, by omega, by go_num, rfl, rfl, by rw [HP.out]; exact HTW.out⟩
                  case measure => simp [intOf]; omega
            · have ek : k = hs.length := by omega
              subst ek
              obtain ⟨cs, hcs, hle⟩ := trim_law hs r keep hrn
              have LM := hid (columns_spec hcs)
              have NM := hid (fun i hi => (columns_spec hcs).names hrn (columns_take hcs) i hi)
              have HCS := hid hcs
              have HLE := hid hle
              have hts : (texts hs (pick r keep hs.length)).length = m := by simpa [strs] using HTW.out.fst.1
              have hch : (pick r keep hs.length).length = (texts hs (pick r keep hs.length)).length := (texts_length _ _).symm
              subst hts
              clear hcs hle HT0
              have S5 := hid HTW.out.strsIn
              have N5 := hid HTW.out.natsIn
              have S6 := hid (S3'.out.below HTW.out.below (fun h => S3'.out.lt h) HTW.out.below.size)
              have HB5 := hid (HB2.out.trans (HTW.out.below.mono HB2.out.size))
              have HL := hid (LM.out.len)
              generalize texts hs (pick r keep hs.length) = ts at *
              generalize pick r keep hs.length = ch at *
              have HC := hid (zzcolumns_any ts hs r zn HRR.out (some ⟨w2.heap.size, 0, none⟩) a3 w2.heap.size 0 hs.length b3 0 c3 wr (by omega) f2 hmk hc3 S5.out S6.out)
              rw [HCS.out] at HC
              have hl5 := wr.heap.size
              clear S3' HTW HB2 HRR S4
              go_wp2_with fail
              refine Calls.mono HC.out ?_
              rintro e w6 ⟨b6, rfl, hb6, hb6', hc6, hB6⟩
              have C6 := hid hc6
              have HB6 := hid hB6
              have hlen : cs.length = ts.length := HL.out
              have t5 : ((cs.length : Int) != (ts.length : Int)) = false := by simp [hlen]
              have CL := hid hlen
              clear hc6 hB6 HC hlen
              go_wp2_with fail
              go_loopw [13] (fun i wr => ∃ k : Nat, k ≤ cs.length ∧ i = .int .i64 k ∧ Drew w6 wr) (fun i _ => cs.length - (intOf i).toNat)
              case atStart => exact ⟨0, Nat.zero_le _, rfl, Drew.refl _⟩
              case round =>
                obtain ⟨k, hk, rfl, hd⟩ := hrel
                have HD := hid hd
                clear hd
                by_cases hlt : k < cs.length
                · have hlt2 : k < ts.length := by rw [← CL.out]; exact hlt
                  have hlt3 : k < ch.length := by rw [hch]; exact hlt2
                  have i1 : (k : Int) < (cs.length : Int) := by omega
                  have i2 : (k : Int) < (ts.length : Int) := by omega
                  obtain ⟨g0, g1⟩ := N5.out k hlt3
                  obtain ⟨n1, n2⟩ := NM.out k hlt2
                  have s1 := HD.out.cell (C6.out k hlt)
                  have s2 := HD.out.cell ((HB6.out.cell (p := ⟨w3.heap.size, k, none⟩) g0).trans g1)
                  have s3 : wr.cell? ⟨w2.heap.size, k, none⟩ = some (.string (ts.getD k str0)) := by
                    have := ((S5.out.below HB6.out (fun h => S5.out.lt h) HB6.out.size).drew HD.out).cell k hlt2
                    simpa using this
                  have s4 : wr.cell? ⟨b3, cs.getD k 0, none⟩ = some (.string (hs.getD (cs.getD k 0) str0)) := by
                    have := ((S6.out.below HB6.out (fun h => S6.out.lt h) HB6.out.size).drew HD.out).cell _ n1
                    simpa using this
                  rw [n2] at s4
                  have ha3 := S6.out.addr (by omega)
                  subst ha3
                  have hle := HLE.out k hlt3
                  have t6 : decide (ch.getD k 0 < cs.getD k 0) = false := decide_eq_false (by omega)
                  have t7 : decide (((cs.getD k 0 : Nat) : Int) < 0) = false := decide_eq_false (by omega)
                  have i3 : ((cs.getD k 0 : Nat) : Int) < (hs.length : Int) := by omega
                  cases k with
                  | zero =>
                    generalize cs.getD 0 0 = c at *
                    generalize ch.getD 0 0 = d at *
                    generalize ts.getD 0 str0 = x at *
                    clear g0 g1 n2
                    go_wp2_with fail
                    go_quiet (fail)
                    go_wp2_with fail
                    go_quiet (fail)
                    go_wp2_with fail
                    go_quiet (fail)
                    go_wp2_with fail
                    go_roundw
                    case rel => exact ⟨0 + 1, by omega, by go_num, HD.out.drewN _⟩
                    case measure => simp [intOf]; omega
                  | succ k =>
                    have s5 := HD.out.cell (C6.out k (by omega))
                    have hri := LM.out.rise (k + 1) (by omega) hlt2
                    rw [Nat.add_sub_cancel] at hri
                    have t8 : decide (cs.getD (k + 1) 0 ≤ cs.getD k 0) = false := decide_eq_false (by omega)
                    have k5 : IntKind.i64.wrap (((k + 1 : Nat) : Int) - 1) = (k : Int) := by rw [IntKind.wrap_i64]; omega
                    have i4 : (k : Int) < (cs.length : Int) := by omega
                    generalize cs.getD (k + 1) 0 = c at *
                    generalize cs.getD k 0 = c' at *
                    generalize ch.getD (k + 1) 0 = d at *
                    generalize ts.getD (k + 1) str0 = x at *
                    clear g0 g1 n2
                    go_wp2_with fail
                    go_quiet (fail)
                    go_wp2_with fail
                    go_quiet (fail)
                    go_wp2_with fail
                    go_quiet (fail)
                    go_wp2_with fail
                    go_roundw
                    case rel => exact ⟨k + 1 + 1, by omega, by go_num, HD.out.drewN _⟩
                    case measure => simp [intOf]; omega
                · go_wp2_with fail
                  go_ret
                  exact ⟨rfl, HB5.out.trans ((HB6.out.mono HB5.out.size).trans (HD.out.below _))⟩

theorem own : ownKnob Try.prog.godebug = none := by kernel_rfl
theorem laidOut : laidOutB Try.prog = true := by kernel_rfl

set_option maxRecDepth 100000 in
theorem lifted (os : Os) (started : os.Started) (H : Type) (enc : TypeId × Value → H) :
    ReturnsInHanded {} Try.checked os 5 .any (Rows.fnColumnsOfAcceptsTrimmedHeaderSpec.pre6 enc Try.prog Try.f5 Rows.fnColumnsOfAcceptsTrimmedHeaderRow.domain false) (Rows.fnColumnsOfAcceptsTrimmedHeaderSpec.post enc Try.prog Try.f5 false true false false) := by
  refine returnsInHanded_of_change (C := Try.checked) own started (by kernel_rfl) Try.func5
    (ChangeSpec.witness6 (enc := enc) (C := Try.checked) false ⟨#[], #[.slice none 0 0, .int .i64 0, .slice none 0 0], []⟩ 8 (by kernel_rfl) (by kernel_rfl) (by kernel_rfl) (by kernel_rfl)) ?_
  intro W base args ds gs before hval0 hW hcnd _
  have hval : ∀ (j : Nat) t v, Try.f5.params[j]? = some t → args[j]? = some v → Value.okWide Try.prog W .any base t v := hval0
  have hW' := hW
  obtain ⟨p, q, hA0, hV, rfl, hfz, hnd⟩ := hW
  have hA : DataW.TrodAll enc Try.prog W 0 (fun _ => true) true Try.f5.params.toList args.toList ds p := hA0
  rw [Try.params5] at hA hval
  obtain ⟨v0, vs0, d0, ds0, p0, q0, hargs, rfl, rfl, h0, r0⟩ := trodAll_cons hA
  obtain ⟨v1, vs1, d1, ds1, p1, q1, rfl, rfl, rfl, h1, r1⟩ := trodAll_cons r0
  obtain ⟨v2, vs2, d2, ds2, p2, q2, rfl, rfl, rfl, h2, r2⟩ := trodAll_cons r1
  obtain ⟨rfl, rfl, rfl⟩ := trodAll_nil r2
  obtain rfl : args = #[v0, v1, v2] := by cases args; simp_all
  obtain ⟨rfl, rfl⟩ := trodVars_none hV
  obtain ⟨a0, len0, cap0, rfl⟩ := okWide_slice Try.underlying22 (hval 0 22 v0 rfl rfl)
  obtain ⟨a2, len2, cap2, rfl⟩ := okWide_slice Try.underlying29 (hval 2 29 v2 rfl rfl)
  obtain ⟨z, rfl, rfl, rfl, wz⟩ := open_int Try.underlying3 (hval 1 3 v1 rfl rfl) h1
  have lt0 : ∀ x ∈ p0, x.block < W.heap.size := by obtain ⟨m, hm⟩ := h0; exact DataW.trod_lt m _ _ _ hm
  have lt2 : ∀ x ∈ p2, x.block < W.heap.size := by obtain ⟨m, hm⟩ := h2; exact DataW.trod_lt m _ _ _ hm
  obtain ⟨xs, b0, o0, rfl, hx1, hx2⟩ := Open.strs_open h0
  obtain ⟨ys, b2, o2, rfl, hy1, hy2⟩ := Open.bools_open h2
  clear hA0 hval0
  refine (walk xs ys z a0 a2 b0 o0 cap0 b2 o2 cap2 W hx1 hy1 hx2 hy2).mono fun e W' ⟨he, bel⟩ => ?_
  subst he
  exact ⟨_, rfl, _, _, _, [], _, [], hW', trodAll_mk1 (shut_bool Try.underlying4 _), (trodAll_cons_mk (Below.trod laidOut (by kernel_rfl) (of_decide_eq_true (by kernel_rfl)) h0 bel lt0) (trodAll_cons_mk (shut_int Try.underlying3 wz) (trodAll_cons_mk (Below.trod laidOut (by kernel_rfl) (of_decide_eq_true (by kernel_rfl)) h2 bel lt2) trodAll_mk0))), rfl, bel.frame _, fun h => by cases h⟩
end Trim

/-- THE STATEMENT. -/
theorem fnColumnsOfAcceptsTrimmedHeader_proved : Rows.FnColumnsOfAcceptsTrimmedHeaderSaid :=
  OpenClaim.holds_of_wide 5 Try.f5 rfl rfl rfl rfl rfl rfl rfl ⟨rfl, rfl, rfl, rfl, rfl⟩ rfl rfl rfl rfl rfl (by kernel_rfl) Try.func5 (by kernel_rfl)
    (of_decide_eq_true (by kernel_rfl)) (by unfold Func.isWrapper; first | (rw [if_pos (by decide +kernel)]; kernel_rfl) | (rw [if_neg (by decide +kernel)]; exact ⟨rfl, rfl⟩))
    (fun os started H enc _ => Trim.lifted os started H enc)
end Go.Proofs.Qxb6602327a
