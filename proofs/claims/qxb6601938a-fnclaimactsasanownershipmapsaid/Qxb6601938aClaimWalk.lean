/-
  SEAT b6601938a. 'Rows.FnClaimActsAsAnOwnershipMapSaid': the walk of its loop. (The regions that store a transaction are laid out by a small program of the prover's.)
-/
import Derived.Test.Qxb6601938aClaimPush
namespace Go.Proofs.Qxb6601938a
open Go.RowKit Go.Maps

namespace Claims

set_option maxHeartbeats 40000000 in
set_option maxRecDepth 20000 in
theorem walk_some (xs : List Step3) (a : Option Addr) (b off cap : Nat) (w : World) (hn : xs.length ≤ 32768) (hin : StepsIn w a b off xs) :
    Calls Try.prog 9 #[.slice a xs.length cap] w fun e w' => e = .returned (.bool true) ∧ Below w.heap.size w w' := by
  have hd : decide (xs.length ≤ 1048576) = true := by simp; omega
  have t1 : decide ((32768 : Int) < xs.length) = false := by simp; omega
  have HIN := hid hin
  clear hin
  have hmm := @run_makeMap Try.prog
  obtain ⟨i4, hi4, hz40, hz41, hz42⟩ := info_parts info4
  obtain ⟨i2, hi2, hz20, hz21, hz22⟩ := info_parts info2
  have hmk4 : ∀ W, (Instr.makeSlice 48 (.int .i64 0) (.int .i64 xs.length)).run Try.prog W = .ok (.slice (some ⟨W.heap.size, 0, none⟩) 0 xs.length) (W.alloc (.cells (madeCells #[.bool false] xs.length) 4)) := by
    intro W
    have := run_make (P := Try.prog) W 48 4 i4 _ Try.underlying48 hi4 hz40 .i64 .i64 0 xs.length (by omega) (by omega) (by rw [hz42]; omega) (by omega)
    rw [hz41] at this
    simpa [Value.cells] using this
  have hmk2 : ∀ W, (Instr.makeSlice 49 (.int .i64 0) (.int .i64 xs.length)).run Try.prog W = .ok (.slice (some ⟨W.heap.size, 0, none⟩) 0 xs.length) (W.alloc (.cells (madeCells #[.int .i64 0] xs.length) 2)) := by
    intro W
    have := run_make (P := Try.prog) W 49 2 i2 _ Try.underlying49 hi2 hz20 .i64 .i64 0 xs.length (by omega) (by omega) (by rw [hz22]; omega) (by omega)
    rw [hz21] at this
    simpa [Value.cells] using this
  go_enter Try.func9, Try.ntmps9
  go_wp2_with (go_at_call 24; refine (bytes24_any a xs.length cap _ (by unfold maxLen; omega)).mono ?_; rintro e w' ⟨rfl, rfl⟩)
  go_loopw [4, 5, 6, 7, 32] (fun av cnt op iv i wr => ∃ k : Nat, k ≤ xs.length ∧ i = .int .i64 k ∧ Rel w xs.length k av cnt op iv wr) (fun _ _ _ _ i _ => xs.length - (intOf i).toNat)
  case atStart => exact ⟨0, Nat.zero_le _, rfl, Rel.start w xs.length (by unfold maxLen; omega)⟩
  case round =>
    clear hd t1 hmm hmk4 hmk2
    obtain ⟨k, hk, rfl, txs, opn, f, m, n, h, c, Bs, n2, rfl, rfl, rfl, hO, hnb, hmlo, hfit, hM, hn2, hF⟩ := hrel
    by_cases hlt : k < xs.length
    · have ha := HIN.out.addr (by omega)
      subst ha
      have R := (HIN.out.below hM.below).steps k hlt
      obtain ⟨wi, wt⟩ := HIN.out.wf k hlt
      generalize xs.getD k step0 = x at *
      obtain ⟨idx, cmp, txn⟩ := x
      have s0 : wr.cell? ⟨b, off + k * 3, none⟩ = some (.int .i64 idx) := R 0 _ rfl
      have s1 : wr.cell? ⟨b, off + k * 3 + 1, none⟩ = some (.bool cmp) := R 1 _ rfl
      have s2 : wr.cell? ⟨b, off + k * 3 + 2, none⟩ = some (.int .i64 txn) := R 2 _ rfl
      dsimp only at wi wt
      clear R
      have hle := hF.le
      have HO := hid hO
      have HM := hid hM
      have HF := hid hF
      have HFIT := hid hfit
      have HMLO := hid hmlo
      clear hO hM hF hfit hmlo
      cases cmp with
      | false =>
        have HCL := hid (claim_round (t := txs.length) (cmp := false) (txn := txn) HO.out hnb HMLO.out HFIT.out HM.out HF.out (by omega) wi (Nat.le_refl _))
        obtain ⟨aa, al, ac, hav⟩ := HM.out.form
        subst hav
        cases hfx : f idx with
        | some u =>
          obtain ⟨j, hj, hjl⟩ := HF.out.rng idx wi u hfx
          have e1 : other f idx = u := by simp [other, hfx]
          have e2 : taken f idx txs.length = true := by simp [taken, hfx]; omega
          have e3 : (f idx).getD 0 = u := by simp [hfx]
          have e4 : (f idx).isSome = true := by simp [hfx]
          have e5 : (u != (txs.length : Int)) = true := by simp; omega
          have HFX := hid hfx
          clear hfx hj hjl
          go_wp2_with fail
          go_region_held3 (fun W => W.cell? ⟨wr.heap.size, 0, none⟩ = some (.int .i64 idx)) (first | assumption | simp)
            (first
              | (go_at_call 26; refine (makeTxns_any _ aa al ac rfl _ _).mono ?_; rintro e w' ⟨rfl, rfl⟩)
              | (go_at_call 25; refine Calls.mono HCL.out ?_; rintro e w2 ⟨rfl, hC⟩; have hS := hC.cells.1; have hS1 := hC.cells.2; have HC := hid hC; clear hC))
          go_wp2_with (at_lookup; refine wpList_look rfl (.tmp 73) (.tmp 75) rfl (w.heap.size + 3) n2 f idx rfl rfl wi HC.out.mem.own ?_)
          go_roundw
          case rel => exact ⟨k + 1, by omega, by go_num, HC.out.refused HF.out hn2 HFX.out⟩
          case measure => simp [intOf]; omega
        | none =>
          have e1 : other f idx = 0 := by simp [other, hfx]
          have e2 : taken f idx txs.length = false := by simp [taken, hfx]
          have e3 : (f idx).getD 0 = 0 := by simp [hfx]
          have e4 : (f idx).isSome = false := by simp [hfx]
          have HFX := hid hfx
          clear hfx
          have k4 : (txs.length : Int).tmod 1024 = (txs.length : Int) % 1024 := by rw [Int.tmod_eq_emod_of_nonneg (by omega)]
          have k5 : IntKind.i64.wrap ((txs.length : Int) % 1024) = (txs.length : Int) % 1024 := by rw [IntKind.wrap_i64]; omega
          have hcv := HM.out.tx.cover
          have htg := HF.out.tight
          by_cases hz : txs.length % 1024 = 0
          · have HFULL := hid (show txs.length = Bs.length * 1024 by omega)
            have z1 : ((txs.length : Int) % 1024 == 0) = true := by simp; omega
            have z2 : decide ((txs.length : Int) % 1024 = 0) = true := by simp; omega
            clear hz
            go_wp2_with fail
            go_region_held3 (fun W => W.cell? ⟨wr.heap.size, 0, none⟩ = some (.int .i64 idx)) (first | assumption | simp)
              (first
                | (go_at_call 26; refine (makeTxns_any _ aa al ac rfl _ _).mono ?_; rintro e w' ⟨rfl, rfl⟩)
                | (go_at_call 25; refine Calls.mono HCL.out ?_; rintro e w2 ⟨rfl, hC⟩; have hS := hC.cells.1; have hS1 := hC.cells.2; have HC := hid hC; clear hC))
            obtain ⟨C, hCs, hmk⟩ := make1024
            obtain ⟨i62, hi62, hz620, hz621, hz622⟩ := info_parts info62
            go_wp2_with (first
              | (at_lookup; refine wpList_look rfl (.tmp 73) (.tmp 75) rfl (w.heap.size + 3) n2 f idx rfl rfl wi HC.out.mem.own ?_)
              | (at_mapUpdate; refine wpList_upd rfl (.tmp 98) (.tmp 100) (.tmp 101) rfl (w.heap.size + 3) n2 f idx (txs.length : Int) rfl rfl rfl wi (WalkArith.wf_i64 (by omega)) (by unfold maxLen; omega) HC.out.mem.own ?_; intro w3 hM3 hk3; have HST := hid (HC.out.stored HFX.out hM3 hk3); clear hM3 hk3; obtain ⟨hS3, hS4⟩ := HST.out.cells)
              | (at_builtin; refine wpList_append_lies _ rfl (.tmp 127) (.tmp 129) 47 rfl (w.heap.size + 4) 62 i62 (.slice none 0 0) 1 24 Try.underlying47 hi62 hz620 hz621 hz622 rfl (by decide) (.slice aa al ac) Bs.length (Bs.map chunk) rfl ((HST.out.mem.tx.row.alloc _).alloc _) ⟨w3.heap.size + 1, 0, none⟩ 1 1 [.slice (some ⟨w3.heap.size, 0, none⟩) 1024 1024] rfl rfl (cell_one_at (by simp) _ _) (by simp [Value.oneCell']) (by decide) (by unfold maxLen; omega) (by omega) (by have := HST.out.mem.size; simp; omega) (w3.heap.size + 1 + 1) (by simp) ?_; intro g gc wq hownq hgrowq hatq hltq; have HX := HST.out.chunk2 hCs HFULL.out hownq hgrowq; clear hownq hgrowq hatq hltq HST hS3 hS4; obtain ⟨Bs2, hbl, HST⟩ := HX))
            have hrm : txs.length < Bs2.length * 1024 := by have := HFULL.out; omega
            have k7 : IntKind.i64.wrap ((txs.length : Int) + 1) = (txs.length : Int) + 1 := by rw [IntKind.wrap_i64]; omega
            have r1 := HST.out.mem.tx.cellAt (j := txs.length / 1024) (by omega)
            have HT := hid (HST.out.mem.tx.there (u := txs.length) (by omega))
            obtain ⟨n1, n2', n3, n4, n5, n6⟩ := HST.out.mem.apart (B := Bs2.getD (txs.length / 1024) 0) (blkAt (by omega)) HST.out.step
            generalize hBq : Bs2.getD (txs.length / 1024) 0 = B at r1 HT n1 n2' n3 n4 n5 n6
            have HBQ := hid hBq
            clear hBq
            have q4 : (txs.length : Int) / 1024 < (Bs.length : Int) + 1 := by omega
            have q5 : (0 : Int) ≤ (txs.length : Int) / 1024 := by omega
            have q6 : (0 : Int) ≤ (txs.length : Int) % 1024 := by omega
            have q7 : (txs.length : Int) % 1024 < 1024 := by omega
            have k1 : (txs.length : Int).tdiv 1024 = (txs.length : Int) / 1024 := by rw [Int.tdiv_eq_ediv_of_nonneg (by omega)]
            have k2 : IntKind.i64.wrap ((txs.length : Int) / 1024) = (txs.length : Int) / 1024 := by rw [IntKind.wrap_i64]; omega
            have k3 : ((txs.length : Int) / 1024).toNat = txs.length / 1024 := by omega
            have k6 : ((txs.length : Int) % 1024).toNat = txs.length % 1024 := by omega
            clear s0 s1 s2 e1 e2 e3 e4 hS1 z1 z2
            have HR1 := hid r1
            have HS0 := hid HST.out.cells.1
            refine wp_region_noPanic ?_
            refine wp_region_held_drew (S := (fun W => W.cell? ⟨wr.heap.size, 0, none⟩ = some (.int .i64 idx) ∧ W.cell? ⟨g, txs.length / 1024, none⟩ = some (.slice (some ⟨B, 0, none⟩) 1024 1024))) (by kernel_rfl) ⟨HS0.out, HR1.out⟩ (fun hHeld => ?_)
            refine wpAnyH_take (i := 0) (oi := ?oi0b) (v := ?v0b) ?hi0b ?hn0b ?hf0b ?hr0b ?hq0b ?hy0b (by assumption) ?rest0b
            case hi0b => (simp only [List.getElem?_toArray, List.getElem?_cons_zero]; rfl)
            case hn0b => kernel_rfl
            case hf0b => kernel_rfl
            case hr0b => kernel_rfl
            case hq0b => exact fun _ _ _ h => h
            case hy0b => (refine Or.inl ⟨by rfl, ?_⟩; intro w hSw; go_simp; try with_reducible rfl)
            try simp only [Act.put, List.setIfInBounds_toArray, List.set_cons_zero, List.set_cons_succ]
            refine wpAnyH_take (i := 1) (oi := ?oi1b) (v := ?v1b) ?hi1b ?hn1b ?hf1b ?hr1b ?hq1b ?hy1b (by assumption) ?rest1b
            case hi1b => (simp only [List.getElem?_toArray, List.getElem?_cons_zero, List.getElem?_cons_succ]; rfl)
            case hn1b => kernel_rfl
            case hf1b => kernel_rfl
            case hr1b => kernel_rfl
            case hq1b => exact fun _ _ _ h => h
            case hy1b => (refine Or.inl ⟨by rfl, ?_⟩; intro w hSw; go_simp; try with_reducible rfl)
            try simp only [Act.put, List.setIfInBounds_toArray, List.set_cons_zero, List.set_cons_succ]
            refine wpAnyH_take (i := 2) (oi := ?oi2b) (v := ?v2b) ?hi2b ?hn2b ?hf2b ?hr2b ?hq2b ?hy2b (by assumption) ?rest2b
            case hi2b => (simp only [List.getElem?_toArray, List.getElem?_cons_zero, List.getElem?_cons_succ]; rfl)
            case hn2b => kernel_rfl
            case hf2b => kernel_rfl
            case hr2b => kernel_rfl
            case hq2b => exact fun _ _ _ h => h
            case hy2b => (refine Or.inl ⟨by rfl, ?_⟩; intro w hSw; go_simp; try with_reducible rfl)
            try simp only [Act.put, List.setIfInBounds_toArray, List.set_cons_zero, List.set_cons_succ]
            refine wpAnyH_take (i := 3) (oi := ?oi3b) (v := ?v3b) ?hi3b ?hn3b ?hf3b ?hr3b ?hq3b ?hy3b (by assumption) ?rest3b
            case hi3b => (simp only [List.getElem?_toArray, List.getElem?_cons_zero, List.getElem?_cons_succ]; rfl)
            case hn3b => kernel_rfl
            case hf3b => kernel_rfl
            case hr3b => kernel_rfl
            case hq3b => exact fun _ _ _ h => h
            case hy3b => (refine Or.inl ⟨by rfl, ?_⟩; intro w hSw; go_simp; try with_reducible rfl)
            try simp only [Act.put, List.setIfInBounds_toArray, List.set_cons_zero, List.set_cons_succ]
            refine wpAnyH_take (i := 4) (oi := ?oi4b) (v := ?v4b) ?hi4b ?hn4b ?hf4b ?hr4b ?hq4b ?hy4b (by assumption) ?rest4b
            case hi4b => (simp only [List.getElem?_toArray, List.getElem?_cons_zero, List.getElem?_cons_succ]; rfl)
            case hn4b => kernel_rfl
            case hf4b => kernel_rfl
            case hr4b => kernel_rfl
            case hq4b => exact fun _ _ _ h => h
            case hy4b => (refine Or.inl ⟨by rfl, ?_⟩; intro w hSw; go_simp; try with_reducible rfl)
            try simp only [Act.put, List.setIfInBounds_toArray, List.set_cons_zero, List.set_cons_succ]
            refine wpAnyH_take (i := 5) (oi := ?oi5b) (v := ?v5b) ?hi5b ?hn5b ?hf5b ?hr5b ?hq5b ?hy5b (by assumption) ?rest5b
            case hi5b => (simp only [List.getElem?_toArray, List.getElem?_cons_zero, List.getElem?_cons_succ]; rfl)
            case hn5b => kernel_rfl
            case hf5b => kernel_rfl
            case hr5b => kernel_rfl
            case hq5b => exact fun _ _ _ h => h
            case hy5b => (refine Or.inl ⟨by rfl, ?_⟩; intro w hSw; go_simp; try with_reducible rfl)
            try simp only [Act.put, List.setIfInBounds_toArray, List.set_cons_zero, List.set_cons_succ]
            refine wpAnyH_take (i := 6) (oi := ?oi6b) (v := ?v6b) ?hi6b ?hn6b ?hf6b ?hr6b ?hq6b ?hy6b (by assumption) ?rest6b
            case hi6b => (simp only [List.getElem?_toArray, List.getElem?_cons_zero, List.getElem?_cons_succ]; rfl)
            case hn6b => kernel_rfl
            case hf6b => kernel_rfl
            case hr6b => kernel_rfl
            case hq6b => exact fun _ _ _ h => h
            case hy6b => (refine Or.inl ⟨by rfl, ?_⟩; intro w hSw; go_simp; try with_reducible rfl)
            try simp only [Act.put, List.setIfInBounds_toArray, List.set_cons_zero, List.set_cons_succ]
            refine wpAnyH_take (i := 7) (oi := ?oi7b) (v := ?v7b) ?hi7b ?hn7b ?hf7b ?hr7b ?hq7b ?hy7b (by assumption) ?rest7b
            case hi7b => (simp only [List.getElem?_toArray, List.getElem?_cons_zero, List.getElem?_cons_succ]; rfl)
            case hn7b => kernel_rfl
            case hf7b => kernel_rfl
            case hr7b => kernel_rfl
            case hq7b => exact fun _ _ _ h => h
            case hy7b => (refine Or.inl ⟨by rfl, ?_⟩; intro w hSw; go_simp; try with_reducible rfl)
            try simp only [Act.put, List.setIfInBounds_toArray, List.set_cons_zero, List.set_cons_succ]
            refine wpAnyH_take (i := 8) (oi := ?oi8b) (v := ?v8b) ?hi8b ?hn8b ?hf8b ?hr8b ?hq8b ?hy8b (by assumption) ?rest8b
            case hi8b => (simp only [List.getElem?_toArray, List.getElem?_cons_zero, List.getElem?_cons_succ]; rfl)
            case hn8b => kernel_rfl
            case hf8b => kernel_rfl
            case hr8b => kernel_rfl
            case hq8b => exact fun _ _ _ h => h
            case hy8b => (refine Or.inl ⟨by rfl, ?_⟩; intro w hSw; go_simp; try with_reducible rfl)
            try simp only [Act.put, List.setIfInBounds_toArray, List.set_cons_zero, List.set_cons_succ]
            refine wpAnyH_take (i := 9) (oi := ?oi9b) (v := ?v9b) ?hi9b ?hn9b ?hf9b ?hr9b ?hq9b ?hy9b (by assumption) ?rest9b
            case hi9b => (simp only [List.getElem?_toArray, List.getElem?_cons_zero, List.getElem?_cons_succ]; rfl)
            case hn9b => kernel_rfl
            case hf9b => kernel_rfl
            case hr9b => kernel_rfl
            case hq9b => exact fun _ _ _ h => h
            case hy9b => (refine Or.inl ⟨by rfl, ?_⟩; intro w hSw; go_simp; try with_reducible rfl)
            try simp only [Act.put, List.setIfInBounds_toArray, List.set_cons_zero, List.set_cons_succ]
            refine wpAnyH_take (i := 10) (oi := ?oi10b) (v := ?v10b) ?hi10b ?hn10b ?hf10b ?hr10b ?hq10b ?hy10b (by assumption) ?rest10b
            case hi10b => (simp only [List.getElem?_toArray, List.getElem?_cons_zero, List.getElem?_cons_succ]; rfl)
            case hn10b => kernel_rfl
            case hf10b => kernel_rfl
            case hr10b => kernel_rfl
            case hq10b => exact fun _ _ _ h => h
            case hy10b => (refine Or.inl ⟨by rfl, ?_⟩; intro w hSw; go_simp; try with_reducible rfl)
            try simp only [Act.put, List.setIfInBounds_toArray, List.set_cons_zero, List.set_cons_succ]
            refine wpAnyH_take (i := 11) (oi := ?oi11b) (v := ?v11b) ?hi11b ?hn11b ?hf11b ?hr11b ?hq11b ?hy11b (by assumption) ?rest11b
            case hi11b => (simp only [List.getElem?_toArray, List.getElem?_cons_zero, List.getElem?_cons_succ]; rfl)
            case hn11b => kernel_rfl
            case hf11b => kernel_rfl
            case hr11b => kernel_rfl
            case hq11b => exact fun _ _ _ h => h
            case hy11b => (refine Or.inl ⟨by rfl, ?_⟩; intro w hSw; go_simp; try with_reducible rfl)
            try simp only [Act.put, List.setIfInBounds_toArray, List.set_cons_zero, List.set_cons_succ]
            refine wpAnyH_take (i := 12) (oi := ?oi12b) (v := ?v12b) ?hi12b ?hn12b ?hf12b ?hr12b ?hq12b ?hy12b (by assumption) ?rest12b
            case hi12b => (simp only [List.getElem?_toArray, List.getElem?_cons_zero, List.getElem?_cons_succ]; rfl)
            case hn12b => kernel_rfl
            case hf12b => kernel_rfl
            case hr12b => kernel_rfl
            case hq12b => exact fun _ _ _ h => h
            case hy12b => (refine Or.inl ⟨by rfl, ?_⟩; intro w hSw; go_simp; try with_reducible rfl)
            try simp only [Act.put, List.setIfInBounds_toArray, List.set_cons_zero, List.set_cons_succ]
            refine wpAnyH_ready (rs := [13]) (by kernel_rfl) (by simp) ?_
            refine AllReadyH.cons (o := ?oi13b) ?hi13b ?hk13b AllReadyH.nil
            case hi13b => (simp only [List.getElem?_toArray, List.getElem?_cons_zero, List.getElem?_cons_succ]; rfl)
            intro K hK
            go_simp
            go_at_call 27
            refine (makeTxn_below _ _ _ _ _).mono ?_; rintro e w4 ⟨rfl, hb4'⟩; have hb4 : Below wq.heap.size wq w4 := ⟨hb4'.os, hb4'.tape, hb4'.output, hb4'.size, hb4'.block⟩; clear hb4'
            refine hK.out _ _ ⟨below_cell hb4 HS0.out, below_cell hb4 HR1.out⟩ (fun hHeld4 => ?_)
            clear hK K hHeld
            refine wpAnyH_take (i := 14) (oi := ?oi14b) (v := ?v14b) ?hi14b ?hn14b ?hf14b ?hr14b ?hq14b ?hy14b (by assumption) ?rest14b
            case hi14b => (simp only [List.getElem?_toArray, List.getElem?_cons_zero, List.getElem?_cons_succ]; rfl)
            case hn14b => kernel_rfl
            case hf14b => kernel_rfl
            case hr14b => kernel_rfl
            case hq14b => exact fun _ _ _ h => h
            case hy14b => (refine Or.inl ⟨by rfl, ?_⟩; intro w hSw; go_simp; try with_reducible rfl)
            try simp only [Act.put, List.setIfInBounds_toArray, List.set_cons_zero, List.set_cons_succ]
            refine wpAnyH_ready (rs := [15]) (by kernel_rfl) (by simp) ?_
            refine AllReadyH.cons (o := ?oi15b) ?hi15b ?hk15b AllReadyH.nil
            case hi15b => (simp only [List.getElem?_toArray, List.getElem?_cons_zero, List.getElem?_cons_succ]; rfl)
            intro K hK
            rw [if_pos (by rfl)]
            refine wp_store_mid 60 (.tmp 145) (.tmp 144) rfl B (txs.length % 1024 * 7) (List.toArray [.int .i64 idx, .int .u8 0, .int .i64 0, .slice none 0 0, .int .i64 k, .int .i64 0, .int .i64 idx]) rfl rfl (there_below HT.out hb4 n5) size60 (all_oneCell_toArray (by simp [Value.oneCell'])) ?_
            refine hK.out _ _ ⟨keepS hHeld4.1 n1 _, keepS hHeld4.2 n2' _⟩ (fun hHeld5 => ?_)
            clear hK K hHeld4
            try simp only [Act.put]
            refine wpAnyH_done (by kernel_rfl) ?_ _
            refine NoPanic.normal ?_
            have HH := hid (HST.out.put HFX.out hb4 hrm HBQ.out)
            generalize hW5 : World.setCells w4 B (txs.length % 1024 * 7) [.int .i64 idx, .int .u8 0, .int .i64 0, .slice none 0 0, .int .i64 k, .int .i64 0, .int .i64 idx] = w5 at *
            clear hW5 hHeld5 hb4
            have hcap : txs.length + 1 ≤ xs.length := by omega
            have hS5 := HH.out.cell
            go_wp2_with (first
              | (at_builtin; refine wpList_append_fits _ rfl (.tmp 146) (.tmp 147) 48 rfl (w.heap.size + 1) 4 i4 1 Try.underlying48 hi4 hz41 (w.heap.size + 1) txs.length xs.length (opn.map Value.bool) rfl (HH.out.alloc _).opn ⟨w5.heap.size, 0, none⟩ 1 1 [.bool true] rfl rfl (cell_one_new _ _ _) (by simp [Value.oneCell']) hcap ?_; intro w8 hown8 hgrow8; have HH8 := hid ((HH.out.alloc _).opened hown8 hgrow8); clear hown8 hgrow8; have hS8 := HH8.out.cell)
              | (at_builtin; refine wpList_append_fits _ rfl (.tmp 149) (.tmp 152) 49 rfl (w.heap.size + 2) 2 i2 1 Try.underlying49 hi2 hz21 (w.heap.size + 2) txs.length xs.length (txs.map fun t => .int .i64 t.inv) rfl (HH8.out.alloc _).inv ⟨w8.heap.size, 0, none⟩ 1 1 [.int .i64 idx] rfl rfl (cell_one_new _ _ _) (by simp [Value.oneCell']) hcap ?_; intro w9 hown9 hgrow9; have HH9 := hid ((HH8.out.alloc _).noted hown9 hgrow9); clear hown9 hgrow9))
            have HEND := hid (HH9.out.rel (x := ⟨idx, k, 0, idx⟩) (by omega) (HF.out.push wi (by have := HFULL.out; omega)))
            go_roundw
            case rel => exact ⟨k + 1, by omega, by go_num, HEND.out⟩
            case measure => simp [intOf]; omega
          · obtain ⟨g, gc, hav, _, _, _⟩ := HM.out.tx.form (by omega)
            simp only [Value.slice.injEq] at hav
            obtain ⟨rfl, rfl, rfl⟩ := hav
            have z1 : ((txs.length : Int) % 1024 == 0) = false := by simp; omega
            have z2 : decide ((txs.length : Int) % 1024 = 0) = false := by simp; omega
            go_wp2_with fail
            go_region_held3 (fun W => W.cell? ⟨wr.heap.size, 0, none⟩ = some (.int .i64 idx)) (first | assumption | simp)
              (first
                | (go_at_call 26; refine (makeTxns_any _ (some ⟨g, 0, none⟩) Bs.length ac rfl _ _).mono ?_; rintro e w' ⟨rfl, rfl⟩)
                | (go_at_call 25; refine Calls.mono HCL.out ?_; rintro e w2 ⟨rfl, hC⟩; have hS := hC.cells.1; have hS1 := hC.cells.2; have HC := hid hC; clear hC))
            go_wp2_with (first | (at_lookup; refine wpList_look rfl (.tmp 73) (.tmp 75) rfl (w.heap.size + 3) n2 f idx rfl rfl wi HC.out.mem.own ?_) | (at_mapUpdate; refine wpList_upd rfl (.tmp 98) (.tmp 100) (.tmp 101) rfl (w.heap.size + 3) n2 f idx (txs.length : Int) rfl rfl rfl wi (WalkArith.wf_i64 (by omega)) (by unfold maxLen; omega) HC.out.mem.own ?_; intro w3 hM3 hk3; have HST := hid (HC.out.stored HFX.out hM3 hk3); clear hM3 hk3; obtain ⟨hS3, hS4⟩ := HST.out.cells))
            have hrm : txs.length < Bs.length * 1024 := by omega
            have k7 : IntKind.i64.wrap ((txs.length : Int) + 1) = (txs.length : Int) + 1 := by rw [IntKind.wrap_i64]; omega
            have r1 := HST.out.mem.tx.cellAt (j := txs.length / 1024) (by omega)
            have HT := hid (HST.out.mem.tx.there (u := txs.length) (by omega))
            obtain ⟨n1, n2', n3, n4, n5, n6⟩ := HST.out.mem.apart (B := (Bs).getD (txs.length / 1024) 0) (blkAt (by omega)) HST.out.step
            generalize hBq : (Bs).getD (txs.length / 1024) 0 = B at r1 HT n1 n2' n3 n4 n5 n6
            have HBQ := hid hBq
            clear hBq
            have q4 : (txs.length : Int) / 1024 < ((Bs).length : Int) := by omega
            have q5 : (0 : Int) ≤ (txs.length : Int) / 1024 := by omega
            have q6 : (0 : Int) ≤ (txs.length : Int) % 1024 := by omega
            have q7 : (txs.length : Int) % 1024 < 1024 := by omega
            have k1 : (txs.length : Int).tdiv 1024 = (txs.length : Int) / 1024 := by rw [Int.tdiv_eq_ediv_of_nonneg (by omega)]
            have k2 : IntKind.i64.wrap ((txs.length : Int) / 1024) = (txs.length : Int) / 1024 := by rw [IntKind.wrap_i64]; omega
            have k3 : ((txs.length : Int) / 1024).toNat = txs.length / 1024 := by omega
            have k6 : ((txs.length : Int) % 1024).toNat = txs.length % 1024 := by omega
            clear s0 s1 s2 e1 e2 e3 e4 hS1 z1 z2
            have HR1 := hid r1
            have HS0 := hid HST.out.cells.1
            refine wp_region_noPanic ?_
            refine wp_region_held_drew (S := (fun W => W.cell? ⟨wr.heap.size, 0, none⟩ = some (.int .i64 idx) ∧ W.cell? ⟨g, txs.length / 1024, none⟩ = some (.slice (some ⟨B, 0, none⟩) 1024 1024))) (by kernel_rfl) ⟨HS0.out, HR1.out⟩ (fun hHeld => ?_)
            refine wpAnyH_take (i := 0) (oi := ?oi0a) (v := ?v0a) ?hi0a ?hn0a ?hf0a ?hr0a ?hq0a ?hy0a (by assumption) ?rest0a
            case hi0a => (simp only [List.getElem?_toArray, List.getElem?_cons_zero]; rfl)
            case hn0a => kernel_rfl
            case hf0a => kernel_rfl
            case hr0a => kernel_rfl
            case hq0a => exact fun _ _ _ h => h
            case hy0a => (refine Or.inl ⟨by rfl, ?_⟩; intro w hSw; go_simp; try with_reducible rfl)
            try simp only [Act.put, List.setIfInBounds_toArray, List.set_cons_zero, List.set_cons_succ]
            refine wpAnyH_take (i := 1) (oi := ?oi1a) (v := ?v1a) ?hi1a ?hn1a ?hf1a ?hr1a ?hq1a ?hy1a (by assumption) ?rest1a
            case hi1a => (simp only [List.getElem?_toArray, List.getElem?_cons_zero, List.getElem?_cons_succ]; rfl)
            case hn1a => kernel_rfl
            case hf1a => kernel_rfl
            case hr1a => kernel_rfl
            case hq1a => exact fun _ _ _ h => h
            case hy1a => (refine Or.inl ⟨by rfl, ?_⟩; intro w hSw; go_simp; try with_reducible rfl)
            try simp only [Act.put, List.setIfInBounds_toArray, List.set_cons_zero, List.set_cons_succ]
            refine wpAnyH_take (i := 2) (oi := ?oi2a) (v := ?v2a) ?hi2a ?hn2a ?hf2a ?hr2a ?hq2a ?hy2a (by assumption) ?rest2a
            case hi2a => (simp only [List.getElem?_toArray, List.getElem?_cons_zero, List.getElem?_cons_succ]; rfl)
            case hn2a => kernel_rfl
            case hf2a => kernel_rfl
            case hr2a => kernel_rfl
            case hq2a => exact fun _ _ _ h => h
            case hy2a => (refine Or.inl ⟨by rfl, ?_⟩; intro w hSw; go_simp; try with_reducible rfl)
            try simp only [Act.put, List.setIfInBounds_toArray, List.set_cons_zero, List.set_cons_succ]
            refine wpAnyH_take (i := 3) (oi := ?oi3a) (v := ?v3a) ?hi3a ?hn3a ?hf3a ?hr3a ?hq3a ?hy3a (by assumption) ?rest3a
            case hi3a => (simp only [List.getElem?_toArray, List.getElem?_cons_zero, List.getElem?_cons_succ]; rfl)
            case hn3a => kernel_rfl
            case hf3a => kernel_rfl
            case hr3a => kernel_rfl
            case hq3a => exact fun _ _ _ h => h
            case hy3a => (refine Or.inl ⟨by rfl, ?_⟩; intro w hSw; go_simp; try with_reducible rfl)
            try simp only [Act.put, List.setIfInBounds_toArray, List.set_cons_zero, List.set_cons_succ]
            refine wpAnyH_take (i := 4) (oi := ?oi4a) (v := ?v4a) ?hi4a ?hn4a ?hf4a ?hr4a ?hq4a ?hy4a (by assumption) ?rest4a
            case hi4a => (simp only [List.getElem?_toArray, List.getElem?_cons_zero, List.getElem?_cons_succ]; rfl)
            case hn4a => kernel_rfl
            case hf4a => kernel_rfl
            case hr4a => kernel_rfl
            case hq4a => exact fun _ _ _ h => h
            case hy4a => (refine Or.inl ⟨by rfl, ?_⟩; intro w hSw; go_simp; try with_reducible rfl)
            try simp only [Act.put, List.setIfInBounds_toArray, List.set_cons_zero, List.set_cons_succ]
            refine wpAnyH_take (i := 5) (oi := ?oi5a) (v := ?v5a) ?hi5a ?hn5a ?hf5a ?hr5a ?hq5a ?hy5a (by assumption) ?rest5a
            case hi5a => (simp only [List.getElem?_toArray, List.getElem?_cons_zero, List.getElem?_cons_succ]; rfl)
            case hn5a => kernel_rfl
            case hf5a => kernel_rfl
            case hr5a => kernel_rfl
            case hq5a => exact fun _ _ _ h => h
            case hy5a => (refine Or.inl ⟨by rfl, ?_⟩; intro w hSw; go_simp; try with_reducible rfl)
            try simp only [Act.put, List.setIfInBounds_toArray, List.set_cons_zero, List.set_cons_succ]
            refine wpAnyH_take (i := 6) (oi := ?oi6a) (v := ?v6a) ?hi6a ?hn6a ?hf6a ?hr6a ?hq6a ?hy6a (by assumption) ?rest6a
            case hi6a => (simp only [List.getElem?_toArray, List.getElem?_cons_zero, List.getElem?_cons_succ]; rfl)
            case hn6a => kernel_rfl
            case hf6a => kernel_rfl
            case hr6a => kernel_rfl
            case hq6a => exact fun _ _ _ h => h
            case hy6a => (refine Or.inl ⟨by rfl, ?_⟩; intro w hSw; go_simp; try with_reducible rfl)
            try simp only [Act.put, List.setIfInBounds_toArray, List.set_cons_zero, List.set_cons_succ]
            refine wpAnyH_take (i := 7) (oi := ?oi7a) (v := ?v7a) ?hi7a ?hn7a ?hf7a ?hr7a ?hq7a ?hy7a (by assumption) ?rest7a
            case hi7a => (simp only [List.getElem?_toArray, List.getElem?_cons_zero, List.getElem?_cons_succ]; rfl)
            case hn7a => kernel_rfl
            case hf7a => kernel_rfl
            case hr7a => kernel_rfl
            case hq7a => exact fun _ _ _ h => h
            case hy7a => (refine Or.inl ⟨by rfl, ?_⟩; intro w hSw; go_simp; try with_reducible rfl)
            try simp only [Act.put, List.setIfInBounds_toArray, List.set_cons_zero, List.set_cons_succ]
            refine wpAnyH_take (i := 8) (oi := ?oi8a) (v := ?v8a) ?hi8a ?hn8a ?hf8a ?hr8a ?hq8a ?hy8a (by assumption) ?rest8a
            case hi8a => (simp only [List.getElem?_toArray, List.getElem?_cons_zero, List.getElem?_cons_succ]; rfl)
            case hn8a => kernel_rfl
            case hf8a => kernel_rfl
            case hr8a => kernel_rfl
            case hq8a => exact fun _ _ _ h => h
            case hy8a => (refine Or.inl ⟨by rfl, ?_⟩; intro w hSw; go_simp; try with_reducible rfl)
            try simp only [Act.put, List.setIfInBounds_toArray, List.set_cons_zero, List.set_cons_succ]
            refine wpAnyH_take (i := 9) (oi := ?oi9a) (v := ?v9a) ?hi9a ?hn9a ?hf9a ?hr9a ?hq9a ?hy9a (by assumption) ?rest9a
            case hi9a => (simp only [List.getElem?_toArray, List.getElem?_cons_zero, List.getElem?_cons_succ]; rfl)
            case hn9a => kernel_rfl
            case hf9a => kernel_rfl
            case hr9a => kernel_rfl
            case hq9a => exact fun _ _ _ h => h
            case hy9a => (refine Or.inl ⟨by rfl, ?_⟩; intro w hSw; go_simp; try with_reducible rfl)
            try simp only [Act.put, List.setIfInBounds_toArray, List.set_cons_zero, List.set_cons_succ]
            refine wpAnyH_take (i := 10) (oi := ?oi10a) (v := ?v10a) ?hi10a ?hn10a ?hf10a ?hr10a ?hq10a ?hy10a (by assumption) ?rest10a
            case hi10a => (simp only [List.getElem?_toArray, List.getElem?_cons_zero, List.getElem?_cons_succ]; rfl)
            case hn10a => kernel_rfl
            case hf10a => kernel_rfl
            case hr10a => kernel_rfl
            case hq10a => exact fun _ _ _ h => h
            case hy10a => (refine Or.inl ⟨by rfl, ?_⟩; intro w hSw; go_simp; try with_reducible rfl)
            try simp only [Act.put, List.setIfInBounds_toArray, List.set_cons_zero, List.set_cons_succ]
            refine wpAnyH_take (i := 11) (oi := ?oi11a) (v := ?v11a) ?hi11a ?hn11a ?hf11a ?hr11a ?hq11a ?hy11a (by assumption) ?rest11a
            case hi11a => (simp only [List.getElem?_toArray, List.getElem?_cons_zero, List.getElem?_cons_succ]; rfl)
            case hn11a => kernel_rfl
            case hf11a => kernel_rfl
            case hr11a => kernel_rfl
            case hq11a => exact fun _ _ _ h => h
            case hy11a => (refine Or.inl ⟨by rfl, ?_⟩; intro w hSw; go_simp; try with_reducible rfl)
            try simp only [Act.put, List.setIfInBounds_toArray, List.set_cons_zero, List.set_cons_succ]
            refine wpAnyH_take (i := 12) (oi := ?oi12a) (v := ?v12a) ?hi12a ?hn12a ?hf12a ?hr12a ?hq12a ?hy12a (by assumption) ?rest12a
            case hi12a => (simp only [List.getElem?_toArray, List.getElem?_cons_zero, List.getElem?_cons_succ]; rfl)
            case hn12a => kernel_rfl
            case hf12a => kernel_rfl
            case hr12a => kernel_rfl
            case hq12a => exact fun _ _ _ h => h
            case hy12a => (refine Or.inl ⟨by rfl, ?_⟩; intro w hSw; go_simp; try with_reducible rfl)
            try simp only [Act.put, List.setIfInBounds_toArray, List.set_cons_zero, List.set_cons_succ]
            refine wpAnyH_ready (rs := [13]) (by kernel_rfl) (by simp) ?_
            refine AllReadyH.cons (o := ?oi13a) ?hi13a ?hk13a AllReadyH.nil
            case hi13a => (simp only [List.getElem?_toArray, List.getElem?_cons_zero, List.getElem?_cons_succ]; rfl)
            intro K hK
            go_simp
            go_at_call 27
            refine (makeTxn_below _ _ _ _ _).mono ?_; rintro e w4 ⟨rfl, hb4'⟩; have hb4 : Below w3.heap.size w3 w4 := ⟨hb4'.os, hb4'.tape, hb4'.output, hb4'.size, hb4'.block⟩; clear hb4'
            refine hK.out _ _ ⟨below_cell hb4 HS0.out, below_cell hb4 HR1.out⟩ (fun hHeld4 => ?_)
            clear hK K hHeld
            refine wpAnyH_take (i := 14) (oi := ?oi14a) (v := ?v14a) ?hi14a ?hn14a ?hf14a ?hr14a ?hq14a ?hy14a (by assumption) ?rest14a
            case hi14a => (simp only [List.getElem?_toArray, List.getElem?_cons_zero, List.getElem?_cons_succ]; rfl)
            case hn14a => kernel_rfl
            case hf14a => kernel_rfl
            case hr14a => kernel_rfl
            case hq14a => exact fun _ _ _ h => h
            case hy14a => (refine Or.inl ⟨by rfl, ?_⟩; intro w hSw; go_simp; try with_reducible rfl)
            try simp only [Act.put, List.setIfInBounds_toArray, List.set_cons_zero, List.set_cons_succ]
            refine wpAnyH_ready (rs := [15]) (by kernel_rfl) (by simp) ?_
            refine AllReadyH.cons (o := ?oi15a) ?hi15a ?hk15a AllReadyH.nil
            case hi15a => (simp only [List.getElem?_toArray, List.getElem?_cons_zero, List.getElem?_cons_succ]; rfl)
            intro K hK
            rw [if_pos (by rfl)]
            refine wp_store_mid 60 (.tmp 145) (.tmp 144) rfl B (txs.length % 1024 * 7) (List.toArray [.int .i64 idx, .int .u8 0, .int .i64 0, .slice none 0 0, .int .i64 k, .int .i64 0, .int .i64 idx]) rfl rfl (there_below HT.out hb4 n5) size60 (all_oneCell_toArray (by simp [Value.oneCell'])) ?_
            refine hK.out _ _ ⟨keepS hHeld4.1 n1 _, keepS hHeld4.2 n2' _⟩ (fun hHeld5 => ?_)
            clear hK K hHeld4
            try simp only [Act.put]
            refine wpAnyH_done (by kernel_rfl) ?_ _
            refine NoPanic.normal ?_
            have HH := hid (HST.out.put HFX.out hb4 hrm HBQ.out)
            generalize hW5 : World.setCells w4 B (txs.length % 1024 * 7) [.int .i64 idx, .int .u8 0, .int .i64 0, .slice none 0 0, .int .i64 k, .int .i64 0, .int .i64 idx] = w5 at *
            clear hW5 hHeld5 hb4
            have hcap : txs.length + 1 ≤ xs.length := by omega
            have hS5 := HH.out.cell
            go_wp2_with (first
              | (at_builtin; refine wpList_append_fits _ rfl (.tmp 146) (.tmp 147) 48 rfl (w.heap.size + 1) 4 i4 1 Try.underlying48 hi4 hz41 (w.heap.size + 1) txs.length xs.length (opn.map Value.bool) rfl (HH.out.alloc _).opn ⟨w5.heap.size, 0, none⟩ 1 1 [.bool true] rfl rfl (cell_one_new _ _ _) (by simp [Value.oneCell']) hcap ?_; intro w8 hown8 hgrow8; have HH8 := hid ((HH.out.alloc _).opened hown8 hgrow8); clear hown8 hgrow8; have hS8 := HH8.out.cell)
              | (at_builtin; refine wpList_append_fits _ rfl (.tmp 149) (.tmp 152) 49 rfl (w.heap.size + 2) 2 i2 1 Try.underlying49 hi2 hz21 (w.heap.size + 2) txs.length xs.length (txs.map fun t => .int .i64 t.inv) rfl (HH8.out.alloc _).inv ⟨w8.heap.size, 0, none⟩ 1 1 [.int .i64 idx] rfl rfl (cell_one_new _ _ _) (by simp [Value.oneCell']) hcap ?_; intro w9 hown9 hgrow9; have HH9 := hid ((HH8.out.alloc _).noted hown9 hgrow9); clear hown9 hgrow9))
            have HEND := hid (HH9.out.rel (x := ⟨idx, k, 0, idx⟩) (by omega) (HF.out.push wi (by omega)))
            go_roundw
            case rel => exact ⟨k + 1, by omega, by go_num, HEND.out⟩
            case measure => simp [intOf]; omega
      | true =>
        by_cases b1 : txn < 0
        · have q1 : decide (txn < 0) = true := by simp [b1]
          go_wp2_with fail
          go_roundw
          case rel => exact ⟨k + 1, by omega, by go_num, Rel.passed _ HO.out hnb HMLO.out HFIT.out HM.out HF.out hn2⟩
          case measure => simp [intOf]; omega
        · obtain ⟨q, rfl⟩ := Int.eq_ofNat_of_zero_le (show 0 ≤ txn by omega)
          have q1 : decide ((q : Int) < 0) = false := by simp
          by_cases b2 : txs.length ≤ q
          · have q2 : decide (txs.length ≤ q) = true := by simp [b2]
            go_wp2_with fail
            go_roundw
            case rel => exact ⟨k + 1, by omega, by go_num, Rel.passed _ HO.out hnb HMLO.out HFIT.out HM.out HF.out hn2⟩
            case measure => simp [intOf]; omega
          · have q2 : decide (txs.length ≤ q) = false := by simp; omega
            have hq : q < txs.length := by omega
            have o1 : ∀ o, (wr.alloc o).cell? ⟨w.heap.size + 1, q, none⟩ = some (.bool (opn.getD q false)) := by
              intro o
              have := (HM.out.alloc o).opn.cellAt q (by omega)
              rw [this]
              simp [List.getD, HF.out.oplen, hq]
            have q3 : (q : Int) < txs.length := by omega
            cases hop : opn.getD q false with
            | false =>
              rw [hop] at o1
              go_wp2_with fail
              go_roundw
              case rel => exact ⟨k + 1, by omega, by go_num, Rel.passed _ HO.out hnb HMLO.out HFIT.out HM.out HF.out hn2⟩
              case measure => simp [intOf]; omega
            | true =>
              rw [hop] at o1
              have HOP := hid hop
              clear hop
              have hcv := HM.out.tx.cover
              have HCL := hid (claim_round (t := q) (cmp := true) (txn := q) HO.out hnb HMLO.out HFIT.out HM.out HF.out (by omega) wi (by omega))
              obtain ⟨g, gc, hav, _, _, _⟩ := HM.out.tx.form (by omega)
              subst hav
              cases hfx : f idx with
              | some u =>
                by_cases hu : u = (q : Int)
                · subst hu
                  have e1 : other f idx = q := by simp [other, hfx]
                  have e2 : taken f idx q = false := by simp [taken, hfx]
                  have e3 : (f idx).getD 0 = q := by simp [hfx]
                  have e4 : (f idx).isSome = true := by simp [hfx]
                  have HFX := hid hfx
                  clear hfx
                  go_wp2_with fail
                  go_region_held3 (fun W => W.cell? ⟨wr.heap.size, 0, none⟩ = some (.int .i64 idx)) (first | assumption | simp)
                    (first
                      | (go_at_call 26; refine (makeTxns_any _ (some ⟨g, 0, none⟩) Bs.length gc rfl _ _).mono ?_; rintro e w' ⟨rfl, rfl⟩)
                      | (go_at_call 25; refine Calls.mono HCL.out ?_; rintro e w2 ⟨rfl, hC⟩; have hS := hC.cells.1; have hS1 := hC.cells.2; have HC := hid hC; clear hC))
                  go_wp2_with (at_lookup; refine wpList_look rfl (.tmp 73) (.tmp 75) rfl (w.heap.size + 3) n2 f idx rfl rfl wi HC.out.mem.own ?_)
                  have HST := hid (HC.out.same HFX.out)
                  obtain ⟨r1, r2⟩ := HST.out.mem.reads hq
                  have HT := hid (HST.out.mem.tx.there (u := q) (by omega))
                  obtain ⟨n1, n2', n3, n4, n5, n6⟩ := HST.out.mem.apart (B := Bs.getD (q / 1024) 0) (blkAt (by omega)) HST.out.step
                  generalize hBq : Bs.getD (q / 1024) 0 = B at r1 HT n1 n2' n3 n4 n5 n6
                  have HBQ := hid hBq
                  clear hBq
                  generalize hiv : (txs.getD q tx0).inv = iv at r2
                  have HIV := hid hiv
                  clear hiv
                  have q4 : (q : Int) / 1024 < (Bs.length : Int) := by omega
                  have q5 : (0 : Int) ≤ (q : Int) / 1024 := by omega
                  have q6 : (0 : Int) ≤ (q : Int) % 1024 := by omega
                  have q7 : (q : Int) % 1024 < 1024 := by omega
                  have k1 : (q : Int).tdiv 1024 = (q : Int) / 1024 := by rw [Int.tdiv_eq_ediv_of_nonneg (by omega)]
                  have k2 : IntKind.i64.wrap ((q : Int) / 1024) = (q : Int) / 1024 := by rw [IntKind.wrap_i64]; omega
                  have k3 : ((q : Int) / 1024).toNat = q / 1024 := by omega
                  have k4 : (q : Int).tmod 1024 = (q : Int) % 1024 := by rw [Int.tmod_eq_emod_of_nonneg (by omega)]
                  have k5 : IntKind.i64.wrap ((q : Int) % 1024) = (q : Int) % 1024 := by rw [IntKind.wrap_i64]; omega
                  have k6 : ((q : Int) % 1024).toNat = q % 1024 := by omega
                  have HR1 := hid r1
                  have HR2 := hid r2
                  have HS0 := hid HST.out.cells.1
                  clear o1 s0 s1 s2 e1 e2 e3 e4 hS1
                  refine wp_region_noPanic ?_
                  refine wp_region_held_drew (S := (fun W => W.cell? ⟨wr.heap.size, 0, none⟩ = some (.int .i64 idx) ∧ W.cell? ⟨g, q / 1024, none⟩ = some (.slice (some ⟨B, 0, none⟩) 1024 1024) ∧ W.cell? ⟨w.heap.size + 2, q, none⟩ = some (.int .i64 iv))) (by kernel_rfl) ⟨HS0.out, HR1.out, HR2.out⟩ (fun hHeld => ?_)
                  refine wpAnyH_take (i := 0) (oi := ?oi0s) (v := ?v0s) ?hi0s ?hn0s ?hf0s ?hr0s ?hq0s ?hy0s (by assumption) ?rest0s
                  case hi0s => (simp only [List.getElem?_toArray, List.getElem?_cons_zero]; rfl)
                  case hn0s => kernel_rfl
                  case hf0s => kernel_rfl
                  case hr0s => kernel_rfl
                  case hq0s => exact fun _ _ _ h => h
                  case hy0s => (refine Or.inl ⟨by rfl, ?_⟩; intro w hSw; go_simp; try with_reducible rfl)
                  try simp only [Act.put, List.setIfInBounds_toArray, List.set_cons_zero, List.set_cons_succ]
                  refine wpAnyH_take (i := 1) (oi := ?oi1s) (v := ?v1s) ?hi1s ?hn1s ?hf1s ?hr1s ?hq1s ?hy1s (by assumption) ?rest1s
                  case hi1s => (simp only [List.getElem?_toArray, List.getElem?_cons_zero, List.getElem?_cons_succ]; rfl)
                  case hn1s => kernel_rfl
                  case hf1s => kernel_rfl
                  case hr1s => kernel_rfl
                  case hq1s => exact fun _ _ _ h => h
                  case hy1s => (refine Or.inl ⟨by rfl, ?_⟩; intro w hSw; go_simp; try with_reducible rfl)
                  try simp only [Act.put, List.setIfInBounds_toArray, List.set_cons_zero, List.set_cons_succ]
                  refine wpAnyH_take (i := 2) (oi := ?oi2s) (v := ?v2s) ?hi2s ?hn2s ?hf2s ?hr2s ?hq2s ?hy2s (by assumption) ?rest2s
                  case hi2s => (simp only [List.getElem?_toArray, List.getElem?_cons_zero, List.getElem?_cons_succ]; rfl)
                  case hn2s => kernel_rfl
                  case hf2s => kernel_rfl
                  case hr2s => kernel_rfl
                  case hq2s => exact fun _ _ _ h => h
                  case hy2s => (refine Or.inl ⟨by rfl, ?_⟩; intro w hSw; go_simp; try with_reducible rfl)
                  try simp only [Act.put, List.setIfInBounds_toArray, List.set_cons_zero, List.set_cons_succ]
                  refine wpAnyH_take (i := 3) (oi := ?oi3s) (v := ?v3s) ?hi3s ?hn3s ?hf3s ?hr3s ?hq3s ?hy3s (by assumption) ?rest3s
                  case hi3s => (simp only [List.getElem?_toArray, List.getElem?_cons_zero, List.getElem?_cons_succ]; rfl)
                  case hn3s => kernel_rfl
                  case hf3s => kernel_rfl
                  case hr3s => kernel_rfl
                  case hq3s => exact fun _ _ _ h => h
                  case hy3s => (refine Or.inl ⟨by rfl, ?_⟩; intro w hSw; go_simp; try with_reducible rfl)
                  try simp only [Act.put, List.setIfInBounds_toArray, List.set_cons_zero, List.set_cons_succ]
                  refine wpAnyH_take (i := 4) (oi := ?oi4s) (v := ?v4s) ?hi4s ?hn4s ?hf4s ?hr4s ?hq4s ?hy4s (by assumption) ?rest4s
                  case hi4s => (simp only [List.getElem?_toArray, List.getElem?_cons_zero, List.getElem?_cons_succ]; rfl)
                  case hn4s => kernel_rfl
                  case hf4s => kernel_rfl
                  case hr4s => kernel_rfl
                  case hq4s => exact fun _ _ _ h => h
                  case hy4s => (refine Or.inl ⟨by rfl, ?_⟩; intro w hSw; go_simp; try with_reducible rfl)
                  try simp only [Act.put, List.setIfInBounds_toArray, List.set_cons_zero, List.set_cons_succ]
                  refine wpAnyH_take (i := 5) (oi := ?oi5s) (v := ?v5s) ?hi5s ?hn5s ?hf5s ?hr5s ?hq5s ?hy5s (by assumption) ?rest5s
                  case hi5s => (simp only [List.getElem?_toArray, List.getElem?_cons_zero, List.getElem?_cons_succ]; rfl)
                  case hn5s => kernel_rfl
                  case hf5s => kernel_rfl
                  case hr5s => kernel_rfl
                  case hq5s => exact fun _ _ _ h => h
                  case hy5s => (refine Or.inl ⟨by rfl, ?_⟩; intro w hSw; go_simp; try with_reducible rfl)
                  try simp only [Act.put, List.setIfInBounds_toArray, List.set_cons_zero, List.set_cons_succ]
                  refine wpAnyH_take (i := 6) (oi := ?oi6s) (v := ?v6s) ?hi6s ?hn6s ?hf6s ?hr6s ?hq6s ?hy6s (by assumption) ?rest6s
                  case hi6s => (simp only [List.getElem?_toArray, List.getElem?_cons_zero, List.getElem?_cons_succ]; rfl)
                  case hn6s => kernel_rfl
                  case hf6s => kernel_rfl
                  case hr6s => kernel_rfl
                  case hq6s => exact fun _ _ _ h => h
                  case hy6s => (refine Or.inl ⟨by rfl, ?_⟩; intro w hSw; go_simp; try with_reducible rfl)
                  try simp only [Act.put, List.setIfInBounds_toArray, List.set_cons_zero, List.set_cons_succ]
                  refine wpAnyH_take (i := 7) (oi := ?oi7s) (v := ?v7s) ?hi7s ?hn7s ?hf7s ?hr7s ?hq7s ?hy7s (by assumption) ?rest7s
                  case hi7s => (simp only [List.getElem?_toArray, List.getElem?_cons_zero, List.getElem?_cons_succ]; rfl)
                  case hn7s => kernel_rfl
                  case hf7s => kernel_rfl
                  case hr7s => kernel_rfl
                  case hq7s => exact fun _ _ _ h => h
                  case hy7s => (refine Or.inl ⟨by rfl, ?_⟩; intro w hSw; go_simp; try with_reducible rfl)
                  try simp only [Act.put, List.setIfInBounds_toArray, List.set_cons_zero, List.set_cons_succ]
                  refine wpAnyH_take (i := 8) (oi := ?oi8s) (v := ?v8s) ?hi8s ?hn8s ?hf8s ?hr8s ?hq8s ?hy8s (by assumption) ?rest8s
                  case hi8s => (simp only [List.getElem?_toArray, List.getElem?_cons_zero, List.getElem?_cons_succ]; rfl)
                  case hn8s => kernel_rfl
                  case hf8s => kernel_rfl
                  case hr8s => kernel_rfl
                  case hq8s => exact fun _ _ _ h => h
                  case hy8s => (refine Or.inl ⟨by rfl, ?_⟩; intro w hSw; go_simp; try with_reducible rfl)
                  try simp only [Act.put, List.setIfInBounds_toArray, List.set_cons_zero, List.set_cons_succ]
                  refine wpAnyH_take (i := 9) (oi := ?oi9s) (v := ?v9s) ?hi9s ?hn9s ?hf9s ?hr9s ?hq9s ?hy9s (by assumption) ?rest9s
                  case hi9s => (simp only [List.getElem?_toArray, List.getElem?_cons_zero, List.getElem?_cons_succ]; rfl)
                  case hn9s => kernel_rfl
                  case hf9s => kernel_rfl
                  case hr9s => kernel_rfl
                  case hq9s => exact fun _ _ _ h => h
                  case hy9s => (refine Or.inl ⟨by rfl, ?_⟩; intro w hSw; go_simp; try with_reducible rfl)
                  try simp only [Act.put, List.setIfInBounds_toArray, List.set_cons_zero, List.set_cons_succ]
                  refine wpAnyH_take (i := 10) (oi := ?oi10s) (v := ?v10s) ?hi10s ?hn10s ?hf10s ?hr10s ?hq10s ?hy10s (by assumption) ?rest10s
                  case hi10s => (simp only [List.getElem?_toArray, List.getElem?_cons_zero, List.getElem?_cons_succ]; rfl)
                  case hn10s => kernel_rfl
                  case hf10s => kernel_rfl
                  case hr10s => kernel_rfl
                  case hq10s => exact fun _ _ _ h => h
                  case hy10s => (refine Or.inl ⟨by rfl, ?_⟩; intro w hSw; go_simp; try with_reducible rfl)
                  try simp only [Act.put, List.setIfInBounds_toArray, List.set_cons_zero, List.set_cons_succ]
                  refine wpAnyH_take (i := 11) (oi := ?oi11s) (v := ?v11s) ?hi11s ?hn11s ?hf11s ?hr11s ?hq11s ?hy11s (by assumption) ?rest11s
                  case hi11s => (simp only [List.getElem?_toArray, List.getElem?_cons_zero, List.getElem?_cons_succ]; rfl)
                  case hn11s => kernel_rfl
                  case hf11s => kernel_rfl
                  case hr11s => kernel_rfl
                  case hq11s => exact fun _ _ _ h => h
                  case hy11s => (refine Or.inl ⟨by rfl, ?_⟩; intro w hSw; go_simp; try with_reducible rfl)
                  try simp only [Act.put, List.setIfInBounds_toArray, List.set_cons_zero, List.set_cons_succ]
                  refine wpAnyH_take (i := 12) (oi := ?oi12s) (v := ?v12s) ?hi12s ?hn12s ?hf12s ?hr12s ?hq12s ?hy12s (by assumption) ?rest12s
                  case hi12s => (simp only [List.getElem?_toArray, List.getElem?_cons_zero, List.getElem?_cons_succ]; rfl)
                  case hn12s => kernel_rfl
                  case hf12s => kernel_rfl
                  case hr12s => kernel_rfl
                  case hq12s => exact fun _ _ _ h => h
                  case hy12s => (refine Or.inl ⟨by rfl, ?_⟩; intro w hSw; go_simp; try with_reducible rfl)
                  try simp only [Act.put, List.setIfInBounds_toArray, List.set_cons_zero, List.set_cons_succ]
                  refine wpAnyH_take (i := 13) (oi := ?oi13s) (v := ?v13s) ?hi13s ?hn13s ?hf13s ?hr13s ?hq13s ?hy13s (by assumption) ?rest13s
                  case hi13s => (simp only [List.getElem?_toArray, List.getElem?_cons_zero, List.getElem?_cons_succ]; rfl)
                  case hn13s => kernel_rfl
                  case hf13s => kernel_rfl
                  case hr13s => kernel_rfl
                  case hq13s => exact fun _ _ _ h => h
                  case hy13s => (refine Or.inl ⟨by rfl, ?_⟩; intro w hSw; go_simp; try with_reducible rfl)
                  try simp only [Act.put, List.setIfInBounds_toArray, List.set_cons_zero, List.set_cons_succ]
                  refine wpAnyH_take (i := 14) (oi := ?oi14s) (v := ?v14s) ?hi14s ?hn14s ?hf14s ?hr14s ?hq14s ?hy14s (by assumption) ?rest14s
                  case hi14s => (simp only [List.getElem?_toArray, List.getElem?_cons_zero, List.getElem?_cons_succ]; rfl)
                  case hn14s => kernel_rfl
                  case hf14s => kernel_rfl
                  case hr14s => kernel_rfl
                  case hq14s => exact fun _ _ _ h => h
                  case hy14s => (refine Or.inl ⟨by rfl, ?_⟩; intro w hSw; go_simp; try with_reducible rfl)
                  try simp only [Act.put, List.setIfInBounds_toArray, List.set_cons_zero, List.set_cons_succ]
                  refine wpAnyH_ready (rs := [15]) (by kernel_rfl) (by simp) ?_
                  refine AllReadyH.cons (o := ?oi15s) ?hi15s ?hk15s AllReadyH.nil
                  case hi15s => (simp only [List.getElem?_toArray, List.getElem?_cons_zero, List.getElem?_cons_succ]; rfl)
                  intro K hK
                  go_simp
                  go_at_call 27
                  refine (makeTxn_below _ _ _ _ _).mono ?_; rintro e w4 ⟨rfl, hb4'⟩; have hb4 : Below w2.heap.size w2 w4 := ⟨hb4'.os, hb4'.tape, hb4'.output, hb4'.size, hb4'.block⟩; clear hb4'
                  refine hK.out _ _ ⟨below_cell hb4 HS0.out, below_cell hb4 HR1.out, below_cell hb4 HR2.out⟩ (fun hHeld4 => ?_)
                  clear hK K hHeld
                  refine wpAnyH_take (i := 16) (oi := ?oi16s) (v := ?v16s) ?hi16s ?hn16s ?hf16s ?hr16s ?hq16s ?hy16s (by assumption) ?rest16s
                  case hi16s => (simp only [List.getElem?_toArray, List.getElem?_cons_zero, List.getElem?_cons_succ]; rfl)
                  case hn16s => kernel_rfl
                  case hf16s => kernel_rfl
                  case hr16s => kernel_rfl
                  case hq16s => exact fun _ _ _ h => h
                  case hy16s => (refine Or.inl ⟨by rfl, ?_⟩; intro w hSw; go_simp; try with_reducible rfl)
                  try simp only [Act.put, List.setIfInBounds_toArray, List.set_cons_zero, List.set_cons_succ]
                  refine wpAnyH_ready (rs := [17]) (by kernel_rfl) (by simp) ?_
                  refine AllReadyH.cons (o := ?oi17s) ?hi17s ?hk17s AllReadyH.nil
                  case hi17s => (simp only [List.getElem?_toArray, List.getElem?_cons_zero, List.getElem?_cons_succ]; rfl)
                  intro K hK
                  rw [if_pos (by rfl)]
                  refine wp_store_mid 60 (.tmp 120) (.tmp 119) rfl B (q % 1024 * 7) (List.toArray [.int .i64 idx, .int .u8 0, .int .i64 0, .slice none 0 0, .int .i64 0, .int .i64 k, .int .i64 iv]) rfl rfl (there_below HT.out hb4 n5) size60 (all_oneCell_toArray (by simp [Value.oneCell'])) ?_
                  refine hK.out _ _ ⟨keepS hHeld4.1 n1 _, keepS hHeld4.2.1 n2' _, keepS hHeld4.2.2 n3 _⟩ (fun hHeld5 => ?_)
                  clear hK K hHeld4
                  try simp only [Act.put]
                  refine wpAnyH_done (by kernel_rfl) ?_ _
                  refine NoPanic.normal ?_
                  obtain ⟨p1, p2⟩ := HST.out.mem.mark (o := q % 1024 * 7) hq HF.out.oplen hb4 n4 [.int .i64 idx, .int .u8 0, .int .i64 0, .slice none 0 0, .int .i64 0, .int .i64 k, .int .i64 iv]
                  rw [HOP.out] at p1
                  obtain ⟨m', n', h', c', g1, g2, g3, g4⟩ := HST.out.st
                  have HEND := hid (Rel.completed (f := f) HST.out.mem g1 g2 g3 g4 HF.out hq HOP.out (by omega) wi hb4 HBQ.out HIV.out)
                  generalize hW5 : World.setCells w4 B (q % 1024 * 7) [.int .i64 idx, .int .u8 0, .int .i64 0, .slice none 0 0, .int .i64 0, .int .i64 k, .int .i64 iv] = w5 at *
                  clear g1 g2 g3 g4 hW5 hHeld5 hb4
                  go_wp2_with fail
                  go_roundw
                  case rel => exact ⟨k + 1, by omega, by go_num, HEND.out⟩
                  case measure => simp [intOf]; omega
                · have e1 : other f idx = u := by simp [other, hfx]
                  have e2 : taken f idx q = true := by simp [taken, hfx]; exact hu
                  have e3 : (f idx).getD 0 = u := by simp [hfx]
                  have e4 : (f idx).isSome = true := by simp [hfx]
                  have e5 : (u != (q : Int)) = true := by simp; exact hu
                  have HFX := hid hfx
                  clear hfx
                  go_wp2_with fail
                  go_region_held3 (fun W => W.cell? ⟨wr.heap.size, 0, none⟩ = some (.int .i64 idx)) (first | assumption | simp)
                    (first
                      | (go_at_call 26; refine (makeTxns_any _ (some ⟨g, 0, none⟩) Bs.length gc rfl _ _).mono ?_; rintro e w' ⟨rfl, rfl⟩)
                      | (go_at_call 25; refine Calls.mono HCL.out ?_; rintro e w2 ⟨rfl, hC⟩; have hS := hC.cells.1; have hS1 := hC.cells.2; have HC := hid hC; clear hC))
                  go_wp2_with (at_lookup; refine wpList_look rfl (.tmp 73) (.tmp 75) rfl (w.heap.size + 3) n2 f idx rfl rfl wi HC.out.mem.own ?_)
                  go_roundw
                  case rel => exact ⟨k + 1, by omega, by go_num, HC.out.refused HF.out hn2 HFX.out⟩
                  case measure => simp [intOf]; omega
              | none =>
                have e1 : other f idx = 0 := by simp [other, hfx]
                have e2 : taken f idx q = false := by simp [taken, hfx]
                have e3 : (f idx).getD 0 = 0 := by simp [hfx]
                have e4 : (f idx).isSome = false := by simp [hfx]
                have HFX := hid hfx
                clear hfx
                go_wp2_with fail
                go_region_held3 (fun W => W.cell? ⟨wr.heap.size, 0, none⟩ = some (.int .i64 idx)) (first | assumption | simp)
                  (first
                    | (go_at_call 26; refine (makeTxns_any _ (some ⟨g, 0, none⟩) Bs.length gc rfl _ _).mono ?_; rintro e w' ⟨rfl, rfl⟩)
                    | (go_at_call 25; refine Calls.mono HCL.out ?_; rintro e w2 ⟨rfl, hC⟩; have hS := hC.cells.1; have hS1 := hC.cells.2; have HC := hid hC; clear hC))
                go_wp2_with (first
                  | (at_lookup; refine wpList_look rfl (.tmp 73) (.tmp 75) rfl (w.heap.size + 3) n2 f idx rfl rfl wi HC.out.mem.own ?_)
                  | (at_mapUpdate; refine wpList_upd rfl (.tmp 98) (.tmp 100) (.tmp 101) rfl (w.heap.size + 3) n2 f idx (q : Int) rfl rfl rfl wi (WalkArith.wf_i64 (by omega)) (by unfold maxLen; omega) HC.out.mem.own ?_; intro w3 hM3 hk3; have HST := hid (HC.out.stored HFX.out hM3 hk3); clear hM3 hk3; obtain ⟨hS3, hS4⟩ := HST.out.cells))
                obtain ⟨r1, r2⟩ := HST.out.mem.reads hq
                have HT := hid (HST.out.mem.tx.there (u := q) (by omega))
                obtain ⟨n1, n2', n3, n4, n5, n6⟩ := HST.out.mem.apart (B := Bs.getD (q / 1024) 0) (blkAt (by omega)) HST.out.step
                generalize hBq : Bs.getD (q / 1024) 0 = B at r1 HT n1 n2' n3 n4 n5 n6
                have HBQ := hid hBq
                clear hBq
                generalize hiv : (txs.getD q tx0).inv = iv at r2
                have HIV := hid hiv
                clear hiv
                have q4 : (q : Int) / 1024 < (Bs.length : Int) := by omega
                have q5 : (0 : Int) ≤ (q : Int) / 1024 := by omega
                have q6 : (0 : Int) ≤ (q : Int) % 1024 := by omega
                have q7 : (q : Int) % 1024 < 1024 := by omega
                have k1 : (q : Int).tdiv 1024 = (q : Int) / 1024 := by rw [Int.tdiv_eq_ediv_of_nonneg (by omega)]
                have k2 : IntKind.i64.wrap ((q : Int) / 1024) = (q : Int) / 1024 := by rw [IntKind.wrap_i64]; omega
                have k3 : ((q : Int) / 1024).toNat = q / 1024 := by omega
                have k4 : (q : Int).tmod 1024 = (q : Int) % 1024 := by rw [Int.tmod_eq_emod_of_nonneg (by omega)]
                have k5 : IntKind.i64.wrap ((q : Int) % 1024) = (q : Int) % 1024 := by rw [IntKind.wrap_i64]; omega
                have k6 : ((q : Int) % 1024).toNat = q % 1024 := by omega
                have HR1 := hid r1
                have HR2 := hid r2
                have HS0 := hid HST.out.cells.1
                clear o1 s0 s1 s2 e1 e2 e3 e4 hS1
                refine wp_region_noPanic ?_
                refine wp_region_held_drew (S := (fun W => W.cell? ⟨wr.heap.size, 0, none⟩ = some (.int .i64 idx) ∧ W.cell? ⟨g, q / 1024, none⟩ = some (.slice (some ⟨B, 0, none⟩) 1024 1024) ∧ W.cell? ⟨w.heap.size + 2, q, none⟩ = some (.int .i64 iv))) (by kernel_rfl) ⟨HS0.out, HR1.out, HR2.out⟩ (fun hHeld => ?_)
                refine wpAnyH_take (i := 0) (oi := ?oi0n) (v := ?v0n) ?hi0n ?hn0n ?hf0n ?hr0n ?hq0n ?hy0n (by assumption) ?rest0n
                case hi0n => (simp only [List.getElem?_toArray, List.getElem?_cons_zero]; rfl)
                case hn0n => kernel_rfl
                case hf0n => kernel_rfl
                case hr0n => kernel_rfl
                case hq0n => exact fun _ _ _ h => h
                case hy0n => (refine Or.inl ⟨by rfl, ?_⟩; intro w hSw; go_simp; try with_reducible rfl)
                try simp only [Act.put, List.setIfInBounds_toArray, List.set_cons_zero, List.set_cons_succ]
                refine wpAnyH_take (i := 1) (oi := ?oi1n) (v := ?v1n) ?hi1n ?hn1n ?hf1n ?hr1n ?hq1n ?hy1n (by assumption) ?rest1n
                case hi1n => (simp only [List.getElem?_toArray, List.getElem?_cons_zero, List.getElem?_cons_succ]; rfl)
                case hn1n => kernel_rfl
                case hf1n => kernel_rfl
                case hr1n => kernel_rfl
                case hq1n => exact fun _ _ _ h => h
                case hy1n => (refine Or.inl ⟨by rfl, ?_⟩; intro w hSw; go_simp; try with_reducible rfl)
                try simp only [Act.put, List.setIfInBounds_toArray, List.set_cons_zero, List.set_cons_succ]
                refine wpAnyH_take (i := 2) (oi := ?oi2n) (v := ?v2n) ?hi2n ?hn2n ?hf2n ?hr2n ?hq2n ?hy2n (by assumption) ?rest2n
                case hi2n => (simp only [List.getElem?_toArray, List.getElem?_cons_zero, List.getElem?_cons_succ]; rfl)
                case hn2n => kernel_rfl
                case hf2n => kernel_rfl
                case hr2n => kernel_rfl
                case hq2n => exact fun _ _ _ h => h
                case hy2n => (refine Or.inl ⟨by rfl, ?_⟩; intro w hSw; go_simp; try with_reducible rfl)
                try simp only [Act.put, List.setIfInBounds_toArray, List.set_cons_zero, List.set_cons_succ]
                refine wpAnyH_take (i := 3) (oi := ?oi3n) (v := ?v3n) ?hi3n ?hn3n ?hf3n ?hr3n ?hq3n ?hy3n (by assumption) ?rest3n
                case hi3n => (simp only [List.getElem?_toArray, List.getElem?_cons_zero, List.getElem?_cons_succ]; rfl)
                case hn3n => kernel_rfl
                case hf3n => kernel_rfl
                case hr3n => kernel_rfl
                case hq3n => exact fun _ _ _ h => h
                case hy3n => (refine Or.inl ⟨by rfl, ?_⟩; intro w hSw; go_simp; try with_reducible rfl)
                try simp only [Act.put, List.setIfInBounds_toArray, List.set_cons_zero, List.set_cons_succ]
                refine wpAnyH_take (i := 4) (oi := ?oi4n) (v := ?v4n) ?hi4n ?hn4n ?hf4n ?hr4n ?hq4n ?hy4n (by assumption) ?rest4n
                case hi4n => (simp only [List.getElem?_toArray, List.getElem?_cons_zero, List.getElem?_cons_succ]; rfl)
                case hn4n => kernel_rfl
                case hf4n => kernel_rfl
                case hr4n => kernel_rfl
                case hq4n => exact fun _ _ _ h => h
                case hy4n => (refine Or.inl ⟨by rfl, ?_⟩; intro w hSw; go_simp; try with_reducible rfl)
                try simp only [Act.put, List.setIfInBounds_toArray, List.set_cons_zero, List.set_cons_succ]
                refine wpAnyH_take (i := 5) (oi := ?oi5n) (v := ?v5n) ?hi5n ?hn5n ?hf5n ?hr5n ?hq5n ?hy5n (by assumption) ?rest5n
                case hi5n => (simp only [List.getElem?_toArray, List.getElem?_cons_zero, List.getElem?_cons_succ]; rfl)
                case hn5n => kernel_rfl
                case hf5n => kernel_rfl
                case hr5n => kernel_rfl
                case hq5n => exact fun _ _ _ h => h
                case hy5n => (refine Or.inl ⟨by rfl, ?_⟩; intro w hSw; go_simp; try with_reducible rfl)
                try simp only [Act.put, List.setIfInBounds_toArray, List.set_cons_zero, List.set_cons_succ]
                refine wpAnyH_take (i := 6) (oi := ?oi6n) (v := ?v6n) ?hi6n ?hn6n ?hf6n ?hr6n ?hq6n ?hy6n (by assumption) ?rest6n
                case hi6n => (simp only [List.getElem?_toArray, List.getElem?_cons_zero, List.getElem?_cons_succ]; rfl)
                case hn6n => kernel_rfl
                case hf6n => kernel_rfl
                case hr6n => kernel_rfl
                case hq6n => exact fun _ _ _ h => h
                case hy6n => (refine Or.inl ⟨by rfl, ?_⟩; intro w hSw; go_simp; try with_reducible rfl)
                try simp only [Act.put, List.setIfInBounds_toArray, List.set_cons_zero, List.set_cons_succ]
                refine wpAnyH_take (i := 7) (oi := ?oi7n) (v := ?v7n) ?hi7n ?hn7n ?hf7n ?hr7n ?hq7n ?hy7n (by assumption) ?rest7n
                case hi7n => (simp only [List.getElem?_toArray, List.getElem?_cons_zero, List.getElem?_cons_succ]; rfl)
                case hn7n => kernel_rfl
                case hf7n => kernel_rfl
                case hr7n => kernel_rfl
                case hq7n => exact fun _ _ _ h => h
                case hy7n => (refine Or.inl ⟨by rfl, ?_⟩; intro w hSw; go_simp; try with_reducible rfl)
                try simp only [Act.put, List.setIfInBounds_toArray, List.set_cons_zero, List.set_cons_succ]
                refine wpAnyH_take (i := 8) (oi := ?oi8n) (v := ?v8n) ?hi8n ?hn8n ?hf8n ?hr8n ?hq8n ?hy8n (by assumption) ?rest8n
                case hi8n => (simp only [List.getElem?_toArray, List.getElem?_cons_zero, List.getElem?_cons_succ]; rfl)
                case hn8n => kernel_rfl
                case hf8n => kernel_rfl
                case hr8n => kernel_rfl
                case hq8n => exact fun _ _ _ h => h
                case hy8n => (refine Or.inl ⟨by rfl, ?_⟩; intro w hSw; go_simp; try with_reducible rfl)
                try simp only [Act.put, List.setIfInBounds_toArray, List.set_cons_zero, List.set_cons_succ]
                refine wpAnyH_take (i := 9) (oi := ?oi9n) (v := ?v9n) ?hi9n ?hn9n ?hf9n ?hr9n ?hq9n ?hy9n (by assumption) ?rest9n
                case hi9n => (simp only [List.getElem?_toArray, List.getElem?_cons_zero, List.getElem?_cons_succ]; rfl)
                case hn9n => kernel_rfl
                case hf9n => kernel_rfl
                case hr9n => kernel_rfl
                case hq9n => exact fun _ _ _ h => h
                case hy9n => (refine Or.inl ⟨by rfl, ?_⟩; intro w hSw; go_simp; try with_reducible rfl)
                try simp only [Act.put, List.setIfInBounds_toArray, List.set_cons_zero, List.set_cons_succ]
                refine wpAnyH_take (i := 10) (oi := ?oi10n) (v := ?v10n) ?hi10n ?hn10n ?hf10n ?hr10n ?hq10n ?hy10n (by assumption) ?rest10n
                case hi10n => (simp only [List.getElem?_toArray, List.getElem?_cons_zero, List.getElem?_cons_succ]; rfl)
                case hn10n => kernel_rfl
                case hf10n => kernel_rfl
                case hr10n => kernel_rfl
                case hq10n => exact fun _ _ _ h => h
                case hy10n => (refine Or.inl ⟨by rfl, ?_⟩; intro w hSw; go_simp; try with_reducible rfl)
                try simp only [Act.put, List.setIfInBounds_toArray, List.set_cons_zero, List.set_cons_succ]
                refine wpAnyH_take (i := 11) (oi := ?oi11n) (v := ?v11n) ?hi11n ?hn11n ?hf11n ?hr11n ?hq11n ?hy11n (by assumption) ?rest11n
                case hi11n => (simp only [List.getElem?_toArray, List.getElem?_cons_zero, List.getElem?_cons_succ]; rfl)
                case hn11n => kernel_rfl
                case hf11n => kernel_rfl
                case hr11n => kernel_rfl
                case hq11n => exact fun _ _ _ h => h
                case hy11n => (refine Or.inl ⟨by rfl, ?_⟩; intro w hSw; go_simp; try with_reducible rfl)
                try simp only [Act.put, List.setIfInBounds_toArray, List.set_cons_zero, List.set_cons_succ]
                refine wpAnyH_take (i := 12) (oi := ?oi12n) (v := ?v12n) ?hi12n ?hn12n ?hf12n ?hr12n ?hq12n ?hy12n (by assumption) ?rest12n
                case hi12n => (simp only [List.getElem?_toArray, List.getElem?_cons_zero, List.getElem?_cons_succ]; rfl)
                case hn12n => kernel_rfl
                case hf12n => kernel_rfl
                case hr12n => kernel_rfl
                case hq12n => exact fun _ _ _ h => h
                case hy12n => (refine Or.inl ⟨by rfl, ?_⟩; intro w hSw; go_simp; try with_reducible rfl)
                try simp only [Act.put, List.setIfInBounds_toArray, List.set_cons_zero, List.set_cons_succ]
                refine wpAnyH_take (i := 13) (oi := ?oi13n) (v := ?v13n) ?hi13n ?hn13n ?hf13n ?hr13n ?hq13n ?hy13n (by assumption) ?rest13n
                case hi13n => (simp only [List.getElem?_toArray, List.getElem?_cons_zero, List.getElem?_cons_succ]; rfl)
                case hn13n => kernel_rfl
                case hf13n => kernel_rfl
                case hr13n => kernel_rfl
                case hq13n => exact fun _ _ _ h => h
                case hy13n => (refine Or.inl ⟨by rfl, ?_⟩; intro w hSw; go_simp; try with_reducible rfl)
                try simp only [Act.put, List.setIfInBounds_toArray, List.set_cons_zero, List.set_cons_succ]
                refine wpAnyH_take (i := 14) (oi := ?oi14n) (v := ?v14n) ?hi14n ?hn14n ?hf14n ?hr14n ?hq14n ?hy14n (by assumption) ?rest14n
                case hi14n => (simp only [List.getElem?_toArray, List.getElem?_cons_zero, List.getElem?_cons_succ]; rfl)
                case hn14n => kernel_rfl
                case hf14n => kernel_rfl
                case hr14n => kernel_rfl
                case hq14n => exact fun _ _ _ h => h
                case hy14n => (refine Or.inl ⟨by rfl, ?_⟩; intro w hSw; go_simp; try with_reducible rfl)
                try simp only [Act.put, List.setIfInBounds_toArray, List.set_cons_zero, List.set_cons_succ]
                refine wpAnyH_ready (rs := [15]) (by kernel_rfl) (by simp) ?_
                refine AllReadyH.cons (o := ?oi15n) ?hi15n ?hk15n AllReadyH.nil
                case hi15n => (simp only [List.getElem?_toArray, List.getElem?_cons_zero, List.getElem?_cons_succ]; rfl)
                intro K hK
                go_simp
                go_at_call 27
                refine (makeTxn_below _ _ _ _ _).mono ?_; rintro e w4 ⟨rfl, hb4'⟩; have hb4 : Below w3.heap.size w3 w4 := ⟨hb4'.os, hb4'.tape, hb4'.output, hb4'.size, hb4'.block⟩; clear hb4'
                refine hK.out _ _ ⟨below_cell hb4 HS0.out, below_cell hb4 HR1.out, below_cell hb4 HR2.out⟩ (fun hHeld4 => ?_)
                clear hK K hHeld
                refine wpAnyH_take (i := 16) (oi := ?oi16n) (v := ?v16n) ?hi16n ?hn16n ?hf16n ?hr16n ?hq16n ?hy16n (by assumption) ?rest16n
                case hi16n => (simp only [List.getElem?_toArray, List.getElem?_cons_zero, List.getElem?_cons_succ]; rfl)
                case hn16n => kernel_rfl
                case hf16n => kernel_rfl
                case hr16n => kernel_rfl
                case hq16n => exact fun _ _ _ h => h
                case hy16n => (refine Or.inl ⟨by rfl, ?_⟩; intro w hSw; go_simp; try with_reducible rfl)
                try simp only [Act.put, List.setIfInBounds_toArray, List.set_cons_zero, List.set_cons_succ]
                refine wpAnyH_ready (rs := [17]) (by kernel_rfl) (by simp) ?_
                refine AllReadyH.cons (o := ?oi17n) ?hi17n ?hk17n AllReadyH.nil
                case hi17n => (simp only [List.getElem?_toArray, List.getElem?_cons_zero, List.getElem?_cons_succ]; rfl)
                intro K hK
                rw [if_pos (by rfl)]
                refine wp_store_mid 60 (.tmp 120) (.tmp 119) rfl B (q % 1024 * 7) (List.toArray [.int .i64 idx, .int .u8 0, .int .i64 0, .slice none 0 0, .int .i64 0, .int .i64 k, .int .i64 iv]) rfl rfl (there_below HT.out hb4 n5) size60 (all_oneCell_toArray (by simp [Value.oneCell'])) ?_
                refine hK.out _ _ ⟨keepS hHeld4.1 n1 _, keepS hHeld4.2.1 n2' _, keepS hHeld4.2.2 n3 _⟩ (fun hHeld5 => ?_)
                clear hK K hHeld4
                try simp only [Act.put]
                refine wpAnyH_done (by kernel_rfl) ?_ _
                refine NoPanic.normal ?_
                obtain ⟨p1, p2⟩ := HST.out.mem.mark (o := q % 1024 * 7) hq HF.out.oplen hb4 n4 [.int .i64 idx, .int .u8 0, .int .i64 0, .slice none 0 0, .int .i64 0, .int .i64 k, .int .i64 iv]
                rw [HOP.out] at p1
                obtain ⟨m', n', h', c', g1, g2, g3, g4⟩ := HST.out.st
                have HEND := hid (Rel.completed (f := f) HST.out.mem g1 g2 g3 g4 HF.out hq HOP.out (by omega) wi hb4 HBQ.out HIV.out)
                generalize hW5 : World.setCells w4 B (q % 1024 * 7) [.int .i64 idx, .int .u8 0, .int .i64 0, .slice none 0 0, .int .i64 0, .int .i64 k, .int .i64 iv] = w5 at *
                clear g1 g2 g3 g4 hW5 hHeld5 hb4
                go_wp2_with fail
                go_roundw
                case rel => exact ⟨k + 1, by omega, by go_num, HEND.out⟩
                case measure => simp [intOf]; omega
    · go_wp2
      go_ret
      exact ⟨rfl, hM.below⟩
end Claims
end Go.Proofs.Qxb6601938a
