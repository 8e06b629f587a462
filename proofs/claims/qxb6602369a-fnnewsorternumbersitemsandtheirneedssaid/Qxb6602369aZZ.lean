/-
  SEAT b6602369a. ZZnewSorter.
-/
import Derived.Test.Qxb6602369aSorter
import Derived.Test.Qxb6602369aNames
namespace Go.Proofs.Qxb6602369a
open Go.RowKit

theorem Out.drewN {nds : List Nd} {w w' : World} {bN T : Nat} {S : Nat → Value} {ra : Option Addr} {rc : Nat} {U V : Nat → Value} (h : Out nds w w' bN T S ra rc U V) (k : Nat) : Out nds w (w'.drewN k) bN T S ra rc U V :=
  ⟨h.below.trans ⟨rfl, rfl, rfl, Nat.le_refl _, fun _ _ => rfl⟩, h.str, h.sy, h.hb, h.fst, h.ref, h.jag.drewN k, h.unt, h.wait, h.placed⟩

theorem results_tmp8 {fn : Func} {t0 t1 t2 t3 t4 t5 t6 t7 : Tmp} (h : fn.results = #[.tmp t0, .tmp t1, .tmp t2, .tmp t3, .tmp t4, .tmp t5, .tmp t6, .tmp t7]) (tmps : Array Value) (P : Program) (w : World) :
    (results fn tmps).run P w = .ok (.tuple #[tmps.getD t0 undef, tmps.getD t1 undef, tmps.getD t2 undef, tmps.getD t3 undef, tmps.getD t4 undef, tmps.getD t5 undef, tmps.getD t6 undef, tmps.getD t7 undef]) w := by
  simp [results, h]

def ZZPost (nds : List Nd) (w : World) (e : Ending) (w' : World) : Prop := ∃ bN S ra rc U V, e = .returned (.tuple #[.slice (some ⟨w.heap.size, 0, none⟩) nds.length nds.length, .slice ra (first nds nds.length) rc, .slice (some ⟨bN, 0, none⟩) (first nds nds.length) (first nds nds.length), .slice (some ⟨bN + 1, 0, none⟩) (first nds nds.length) (first nds nds.length), .slice (some ⟨bN + 2, 0, none⟩) (first nds nds.length) (first nds nds.length), .slice (some ⟨bN + 3, 0, none⟩) (first nds nds.length) (first nds nds.length), .slice (some ⟨bN + 4, 0, none⟩) (first nds nds.length) (first nds nds.length), .int .i64 0]) ∧ Out nds w w' bN (first nds nds.length) S ra rc U V

set_option maxRecDepth 100000 in
set_option maxHeartbeats 1000000 in
theorem zz_any (nds : List Nd) (a : Option Addr) (b o c : Nat) (w : World) (hN : NodesAt w a b o nds) (hT : first nds nds.length ≤ 65536) (hC : cost nds nds.length ≤ 65536) (hNm : Named nds) :
    Calls Try.prog 25 #[.slice a nds.length c] w (ZZPost nds w) := by
  have HC := hid (newSorter_any nds a b o c w hN hT hC hNm)
  clear hN hNm hC
  go_enter Try.func25, Try.ntmps25
  go_wp2_with fail
  refine Calls.mono HC.out ?_
  rintro e w1 ⟨bN, S, ra, rc, U, V, rfl, hO⟩
  have HO := hid hO
  obtain ⟨s0, s1, s2, s3, s4, s5, s6, s7⟩ := hO.sy
  have c0 := hO.str.cell (i := 0) (by omega)
  have c1 := hO.str.cell (i := 1) (by omega)
  have c2 := hO.str.cell (i := 2) (by omega)
  have c3 := hO.str.cell (i := 3) (by omega)
  have c4 := hO.str.cell (i := 4) (by omega)
  have c5 := hO.str.cell (i := 5) (by omega)
  have c6 := hO.str.cell (i := 6) (by omega)
  have c7 := hO.str.cell (i := 7) (by omega)
  rw [s0] at c0
  rw [s1] at c1
  rw [s2] at c2
  rw [s3] at c3
  rw [s4] at c4
  rw [s5] at c5
  rw [s6] at c6
  rw [s7] at c7
  clear s0 s1 s2 s3 s4 s5 s6 s7 hO HC
  generalize hT' : first nds nds.length = T at *
  have HT' := hid hT'
  clear hT'
  go_wp2_with fail
  go_quiet (fail)
  go_wp2_with fail
  (try simp only [Exit.inBlock, Exit.then])
  refine bodyPost_ret (results_tmp8 rfl _ _ _) rfl ?_
  refine ⟨bN, S, ra, rc, U, V, by rw [HT'.out]; rfl, ?_⟩
  rw [HT'.out]
  exact HO.out.drewN _
end Go.Proofs.Qxb6602369a
