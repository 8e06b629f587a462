/-
  SEAT b6601938a. (*indexOwners).claim: its contract.
-/
import Derived.Test.Qxb6601938aTxMem
import Derived.Deep.RegionHeld3
namespace Go.Proofs.Qxb6601938a
open Go.RowKit Go.Maps

namespace Claims

/-! ### The plain side -/
/-- f owns just the indexes that the transactions carry. -/
def Fits (f : Int → Option Int) (txs : List Tx) : Prop :=
  ∀ x, I64 x → ∀ u, f x = some u ↔ ∃ k : Nat, (k : Int) = u ∧ k < txs.length ∧ ((txs.getD k tx0).inv = x ∨ (0 < (txs.getD k tx0).comp ∧ (txs.getD k tx0).id = x))

/-- Only the owners below k. -/
def restr (f : Int → Option Int) (k : Nat) : Int → Option Int := fun x => (f x).bind fun u => if u < k then some u else none

def other (f : Int → Option Int) (x : Int) : Int := (f x).getD 0
def taken (f : Int → Option Int) (x t : Int) : Bool := (f x).any (fun u => u != t)
def after (f : Int → Option Int) (x t : Int) : Int → Option Int := if (f x).isSome then f else upd f x t

theorem restr_zero (f : Int → Option Int) (txs : List Tx) (h : Fits f txs) (x : Int) (hx : I64 x) : restr f 0 x = none := by
  unfold restr
  cases hf : f x with
  | none => rfl
  | some u =>
    obtain ⟨k, hk, _⟩ := (h x hx u).1 hf
    simp; omega

theorem restr_full (f : Int → Option Int) (txs : List Tx) (h : Fits f txs) (x : Int) (hx : I64 x) : restr f txs.length x = f x := by
  unfold restr
  cases hf : f x with
  | none => rfl
  | some u =>
    obtain ⟨k, hk, hl, _⟩ := (h x hx u).1 hf
    simp; omega

theorem restr_step {f : Int → Option Int} {txs : List Tx} (h : Fits f txs) {k : Nat} (hk : k < txs.length) (x : Int) (hx : I64 x) :
    (if 0 < (txs.getD k tx0).comp then upd (upd (restr f k) (txs.getD k tx0).inv k) (txs.getD k tx0).id k else upd (restr f k) (txs.getD k tx0).inv k) x = restr f (k + 1) x := by
  have hh : ∀ y, I64 y → (f y = some (k : Int) ↔ ((txs.getD k tx0).inv = y ∨ (0 < (txs.getD k tx0).comp ∧ (txs.getD k tx0).id = y))) := by
    intro y hy
    rw [h y hy k]
    constructor
    · rintro ⟨k', h1, h2, h3⟩
      have : k' = k := by omega
      subst this
      exact h3
    · intro h3
      exact ⟨k, rfl, hk, h3⟩
  have hr : ∀ y, I64 y → f y ≠ some (k : Int) → restr f (k + 1) y = restr f k y := by
    intro y hy hne
    unfold restr
    cases hf : f y with
    | none => rfl
    | some u =>
      have : u ≠ k := fun e => hne (by rw [hf, e])
      simp only [Option.bind_some]
      by_cases e : u < k
      · rw [if_pos e, if_pos (by omega)]
      · rw [if_neg e, if_neg (by omega)]
  have hs : ∀ y, f y = some (k : Int) → restr f (k + 1) y = some (k : Int) := by
    intro y hy
    unfold restr
    rw [hy]
    simp
    omega
  generalize txs.getD k tx0 = t at *
  by_cases hc : 0 < t.comp
  · rw [if_pos hc]
    unfold upd
    by_cases e1 : x = t.id
    · rw [if_pos e1]
      exact (hs x ((hh x hx).2 (.inr ⟨hc, e1.symm⟩))).symm
    · rw [if_neg e1]
      by_cases e2 : x = t.inv
      · rw [if_pos e2]
        exact (hs x ((hh x hx).2 (.inl e2.symm))).symm
      · rw [if_neg e2]
        refine (hr x hx (fun e => ?_)).symm
        rcases (hh x hx).1 e with h1 | ⟨_, h1⟩
        · exact e2 h1.symm
        · exact e1 h1.symm
  · rw [if_neg hc]
    unfold upd
    by_cases e2 : x = t.inv
    · rw [if_pos e2]
      exact (hs x ((hh x hx).2 (.inl e2.symm))).symm
    · rw [if_neg e2]
      refine (hr x hx (fun e => ?_)).symm
      rcases (hh x hx).1 e with h1 | ⟨h1, _⟩
      · exact e2 h1.symm
      · exact hc h1

/-! ### The callees -/
theorem block3 {w : World} {O : Nat} {a b c : Value} {t : TypeId} (h : w.heap[O]? = some (.cells #[a, b, c] t (0, 0))) :
    w.cell? ⟨O, 0, none⟩ = some a ∧ w.cell? ⟨O, 1, none⟩ = some b ∧ w.cell? ⟨O, 2, none⟩ = some c ∧ w.frozen? ⟨O, 0, none⟩ = false ∧ w.frozen? ⟨O, 1, none⟩ = false ∧ w.frozen? ⟨O, 2, none⟩ = false := by
  refine ⟨?_, ?_, ?_, ?_, ?_, ?_⟩
  · rw [cell_of_row w O 0 _ t (0, 0) h]; rfl
  · rw [cell_of_row w O 1 _ t (0, 0) h]; rfl
  · rw [cell_of_row w O 2 _ t (0, 0) h]; rfl
  all_goals
    unfold World.frozen?
    dsimp only
    rw [h]
    rfl

theorem len_any {w : World} {T : Nat} (n : Nat) (h : w.cell? ⟨T, 1, none⟩ = some (.int .i64 n)) :
    Calls Try.prog 35 #[.pointer (some ⟨T, 0, none⟩)] w fun e w' => e = .returned (.int .i64 n) ∧ w = w' := by
  go_enter Try.func35, Try.ntmps35
  go_wp2
  go_ret
  exact ⟨rfl, rfl⟩

theorem at_any {w : World} {T base : Nat} {av : Value} {Bs : List Nat} {txs : List Tx} (h : TxMem w base av Bs txs) (hT : w.cell? ⟨T, 0, none⟩ = some av) {u : Nat} (hu : u < txs.length) (hmax : txs.length ≤ 65536) :
    Calls Try.prog 36 #[.pointer (some ⟨T, 0, none⟩), .int .i64 u] w fun e w' => e = .returned (.pointer (some ⟨Bs.getD (u / 1024) 0, u % 1024 * 7, none⟩)) ∧ w = w' := by
  have hc := h.cover
  have hj : u / 1024 < Bs.length := by omega
  obtain ⟨g, cap, rfl, _, _, hcell⟩ := h.form (by omega)
  have c1 := hcell (u / 1024) hj
  have q1 : ((u / 1024 : Nat) : Int) < Bs.length := by omega
  unfold chunk at c1
  clear hcell h
  generalize Bs.getD (u / 1024) 0 = B at *
  generalize Bs.length = n at *
  go_enter Try.func36, Try.ntmps36
  go_wp2
  go_ret
  exact ⟨rfl, rfl⟩

/-! ### The owners' state -/
def OFacts (w : World) (m : Option Nat) (n : Nat) (f : Int → Option Int) (h : Int) (c : Bool) : Prop :=
  match m with
  | none => (c = false → ∀ x, I64 x → f x = none) ∧ (c = true → ∀ x, I64 x → f x ≠ none → x ≤ h)
  | some M => MapInt w M n f

structure OState (w : World) (O : Nat) (m : Option Nat) (n : Nat) (f : Int → Option Int) (h : Int) (c : Bool) : Prop where
  blk : w.heap[O]? = some (.cells #[.int .i64 h, .bool c, .map m] 46 (0, 0))
  facts : OFacts w m n f h c

/-- What claim leaves. -/
structure After (w : World) (O : Nat) (m : Option Nat) (n len : Nat) (f : Int → Option Int) (x t : Int) (w' : World) : Prop where
  st : ∃ m' n' h c, OState w' O m' n' (after f x t) h c ∧ (n' ≤ n + 1 ∨ n' ≤ 2 * len + 1) ∧ (m' = m ∨ (m = none ∧ ∃ M, m' = some M ∧ w.heap.size ≤ M)) ∧ (m' = none → f x = none)
  kept : KeptBut (fun b => b = O ∨ m = some b) w w'

def ClaimPost (w : World) (O : Nat) (m : Option Nat) (n len : Nat) (f : Int → Option Int) (x t : Int) (e : Ending) (w' : World) : Prop :=
  e = .returned (.tuple #[.int .i64 (other f x), .bool (taken f x t)]) ∧ After w O m n len f x t w'

theorem heap_setCell {w : World} {b o : Nat} {C : Array Value} {t : TypeId} {fr : Nat × Nat} (v : Value) (h : w.heap[b]? = some (.cells C t fr)) : (w.setCell ⟨b, o, none⟩ v).heap[b]? = some (.cells (C.setIfInBounds o v) t fr) := by
  simp [World.setCell, Array.getElem?_modify, h]

/-- Phase A, the index is above all others. -/
theorem claim_rise (O T : Nat) (n len : Nat) (f : Int → Option Int) (h : Int) (c : Bool) (x t : Int) (w : World) (hO : OState w O none n f h c) (hx : I64 x) (hc : c = false ∨ h < x) :
    Calls Try.prog 32 #[.pointer (some ⟨O, 0, none⟩), .int .i64 x, .int .i64 t, .pointer (some ⟨T, 0, none⟩)] w (ClaimPost w O none n len f x t) := by
  obtain ⟨hb, hf1, hf2⟩ := hO
  have hfx : f x = none := by
    cases c with
    | false => exact hf1 rfl x hx
    | true =>
      cases hfx : f x with
      | none => rfl
      | some u =>
        have := hf2 rfl x hx (by rw [hfx]; exact fun e => by cases e)
        rcases hc with h0 | h0
        · cases h0
        · omega
  have fin : ClaimPost w O none n len f x t (.returned (.tuple #[.int .i64 0, .bool false])) ((w.setCell ⟨O, 0, none⟩ (.int .i64 x)).setCell ⟨O, 1, none⟩ (.bool true)) := by
    refine ⟨by simp [other, taken, hfx], ⟨none, n, x, true, ⟨?_, ?_⟩, .inl (by omega), .inl rfl, fun _ => hfx⟩, ?_⟩
    · have := heap_setCell (o := 1) (.bool true) (heap_setCell (o := 0) (.int .i64 x) hb)
      simpa using this
    · refine ⟨fun e => absurd e (by simp), fun _ y hy hne => ?_⟩
      unfold after at hne
      rw [hfx] at hne
      simp only [Option.isSome_none, Bool.false_eq_true, if_false, upd] at hne
      split at hne
      · omega
      · cases c with
        | false => exact absurd (hf1 rfl y hy) hne
        | true =>
          have := hf2 rfl y hy hne
          rcases hc with h0 | h0
          · cases h0
          · omega
    · exact ((KeptBut.refl _ _).setCell (.inr (.inl rfl)) _).setCell (.inr (.inl rfl)) _
  have FIN := hid fin
  obtain ⟨c0, c1, c2, z0, z1, z2⟩ := block3 hb
  have hmn := fun W => run_eql_map_nil (P := Try.prog) W 44 2 3 none Try.underlying44
  clear fin hfx hf1 hf2 hb
  cases c with
  | false =>
    clear hc
    go_enter Try.func32, Try.ntmps32
    go_wp2
    go_ret2
    exact FIN.out
  | true =>
    have hlt : h < x := by
      rcases hc with h0 | h0
      · cases h0
      · exact h0
    clear hc
    go_enter Try.func32, Try.ntmps32
    go_wp2
    go_ret2
    exact FIN.out

/-- The tail: the map is there. -/
theorem post_owned {w w1 : World} {O M n n1 len : Nat} {m : Option Nat} {f : Int → Option Int} {h : Int} {c : Bool} {x t : Int} (hs : (f x).isSome = true) (hst : OState w1 O (some M) n1 f h c) (hn : n1 ≤ n + 1 ∨ n1 ≤ 2 * len + 1) (hm : some M = m ∨ (m = none ∧ w.heap.size ≤ M)) (hk : KeptBut (fun b => b = O ∨ m = some b) w w1) :
    ClaimPost w O m n len f x t (.returned (.tuple #[.int .i64 ((f x).getD 0), .bool ((f x).getD 0 != t)])) w1 := by
  refine ⟨?_, ⟨some M, n1, h, c, ?_, hn, ?_, fun e => by cases e⟩, hk⟩
  · obtain ⟨u, hu⟩ := Option.isSome_iff_exists.1 hs
    simp [other, taken, hu]
  · unfold after; rw [if_pos hs]; exact hst
  · rcases hm with h1 | ⟨h1, h2⟩
    · exact .inl h1
    · exact .inr ⟨h1, M, rfl, h2⟩

theorem post_free {w w1 w2 : World} {O M n n1 len : Nat} {m : Option Nat} {f : Int → Option Int} {h : Int} {c : Bool} {x t : Int} (hs : (f x).isSome = false) (hst : OState w1 O (some M) n1 f h c) (hn : n1 ≤ n ∨ n1 ≤ 2 * len) (hm : some M = m ∨ (m = none ∧ w.heap.size ≤ M)) (hk : KeptBut (fun b => b = O ∨ m = some b) w w1)
    (h2 : MapInt w2 M (n1 + 1) (upd f x t)) (hk2 : KeptBut (fun b => b = M) w1 w2) :
    ClaimPost w O m n len f x t (.returned (.tuple #[.int .i64 0, .bool false])) w2 := by
  have hne : O ≠ M := fun e => by
    obtain ⟨es, q, hM⟩ := (show MapInt w1 M n1 f from hst.facts).isMap
    have := hst.blk
    rw [e, hM] at this
    cases this
  refine ⟨?_, ⟨some M, n1 + 1, h, c, ⟨?_, ?_⟩, by omega, ?_, fun e => by cases e⟩, hk.trans hk2 (fun b hb e => ?_)⟩
  · have : f x = none := by simpa using hs
    simp [other, taken, this]
  · rw [hk2.block O (Array.getElem?_eq_some_iff.1 hst.blk).1 hne]
    exact hst.blk
  · show MapInt w2 M (n1 + 1) (after f x t)
    unfold after
    rw [if_neg (by rw [hs]; decide)]
    exact h2
  · rcases hm with h1 | ⟨h1, h2⟩
    · exact .inl h1
    · exact .inr ⟨h1, M, rfl, h2⟩
  · subst e
    rcases hm with h1 | ⟨_, h1⟩
    · exact .inr h1.symm
    · omega

set_option maxHeartbeats 1000000 in
/-- Phase B: the map is there already. -/
theorem claim_map (O T M : Nat) (n len : Nat) (f : Int → Option Int) (h : Int) (c : Bool) (x t : Int) (w : World) (hO : OState w O (some M) n f h c) (hx : I64 x) (ht : I64 t) (hn : n < maxLen) :
    Calls Try.prog 32 #[.pointer (some ⟨O, 0, none⟩), .int .i64 x, .int .i64 t, .pointer (some ⟨T, 0, none⟩)] w (ClaimPost w O (some M) n len f x t) := by
  obtain ⟨c0, c1, c2, z0, z1, z2⟩ := block3 hO.blk
  have hM : MapInt w M n f := hO.facts
  have HM := hid hM
  have HO := hid hO
  have hmn := fun W => run_eql_map_nil (P := Try.prog) W 44 2 3 (some M) Try.underlying44
  clear hM hO
  cases hs : (f x).isSome with
  | true =>
    go_enter Try.func32, Try.ntmps32
    go_wp2_with (at_lookup; refine wpList_look rfl (.tmp 84) (.tmp 85) rfl M n f x rfl rfl hx HM.out ?_)
    go_ret2
    exact post_owned hs HO.out (.inl (by omega)) (.inl rfl) (KeptBut.refl _ _)
  | false =>
    go_enter Try.func32, Try.ntmps32
    go_wp2_with (first
      | (at_lookup; refine wpList_look rfl (.tmp 84) (.tmp 85) rfl M n f x rfl rfl hx HM.out ?_)
      | (at_mapUpdate; refine wpList_upd rfl (.tmp 97) (.tmp 98) (.tmp 99) rfl M n f x t rfl rfl rfl hx ht hn HM.out ?_; intro w2 hM2 hk2))
    go_ret2
    exact post_free hs HO.out (.inl (by omega)) (.inl rfl) (KeptBut.refl _ _) hM2 hk2

/-- The state while the map is filled from the transactions. -/
structure Filling (w : World) (O M k : Nat) (f : Int → Option Int) (h : Int) (c : Bool) (wr : World) : Prop where
  blk : wr.heap[O]? = some (.cells #[.int .i64 h, .bool c, .map (some M)] 46 (0, 0))
  map : MapInt wr M (2 * k) (restr f k)
  kept : KeptBut (fun b => b = O) w wr

theorem Filling.ne {w wr : World} {O M k : Nat} {f : Int → Option Int} {h : Int} {c : Bool} (hF : Filling w O M k f h c wr) : O ≠ M := fun e => by
  obtain ⟨es, q, hM⟩ := hF.map.isMap
  have := hF.blk
  rw [e, hM] at this
  cases this

theorem Filling.step {w wr w1 : World} {O M k n : Nat} {f g : Int → Option Int} {h : Int} {c : Bool} (hF : Filling w O M k f h c wr) (hMw : w.heap.size ≤ M) (hk1 : KeptBut (fun b => b = M) wr w1) (hm : MapInt w1 M n g) (hn : n ≤ 2 * (k + 1)) (hg : ∀ x, I64 x → g x = restr f (k + 1) x) : Filling w O M (k + 1) f h c w1 := by
  refine ⟨?_, ?_, hF.kept.trans hk1 (fun b hb e => by subst e; omega)⟩
  · rw [hk1.block O (Array.getElem?_eq_some_iff.1 hF.blk).1 hF.ne]
    exact hF.blk
  · obtain ⟨D, h1, h2⟩ := hm.congr hg
    exact ⟨D, h1.mono hn, h2⟩

set_option maxHeartbeats 2000000 in
/-- Phase A, the index is not above all others: the map is made. -/
theorem claim_fall (O T : Nat) (n base : Nat) (av : Value) (Bs : List Nat) (txs : List Tx) (f : Int → Option Int) (h : Int) (x t : Int) (w : World) (hO : OState w O none n f h true) (hx : I64 x) (ht : I64 t) (hle : x ≤ h)
    (hfit : Fits f txs) (hwf : ∀ u, u < txs.length → I64 (txs.getD u tx0).inv ∧ I64 (txs.getD u tx0).id) (hmax : txs.length ≤ 32768) (hTx : TxMem w base av Bs txs) (hOb : O < base) (hT : base ≤ T) (hT0 : w.cell? ⟨T, 0, none⟩ = some av) (hT1 : w.cell? ⟨T, 1, none⟩ = some (.int .i64 txs.length)) :
    Calls Try.prog 32 #[.pointer (some ⟨O, 0, none⟩), .int .i64 x, .int .i64 t, .pointer (some ⟨T, 0, none⟩)] w (ClaimPost w O none n txs.length f x t) := by
  obtain ⟨c0, c1, c2, z0, z1, z2⟩ := block3 hO.blk
  have hOlt : O < w.heap.size := (Array.getElem?_eq_some_iff.1 hO.blk).1
  have hTlt : T < w.heap.size := World.block_lt_of_cell? w _ hT0
  have hmn := fun W => run_eql_map_nil (P := Try.prog) W 44 2 3 none Try.underlying44
  have hmk := run_makeMap_hint
  have HF := hid hfit
  have HW := hid hwf
  have HTX := hid hTx
  have HO := hid hO
  clear hfit hwf hTx hO
  have t0 : decide (h < x) = false := by simp; omega
  have z2a : ∀ o, (w.alloc o).frozen? ⟨O, 2, none⟩ = false := fun o => by rw [World.frozen?_alloc_past _ _ _ hOlt]; exact z2
  have c2a : ∀ o, (w.alloc o).cell? ⟨O, 2, none⟩ = some (.map none) := fun o => by rw [World.cell?_alloc_lt _ _ _ hOlt]; exact c2
  go_enter Try.func32, Try.ntmps32
  go_wp2_with fail
  refine (len_any txs.length hT1).mono ?_
  rintro e w' ⟨rfl, rfl⟩
  go_wp2_with fail
  have hblk : ((w.setCell ⟨O, 2, none⟩ (.map (some w.heap.size))).alloc (.map #[] 0)).heap[O]? = some (.cells #[.int .i64 h, .bool true, .map (some w.heap.size)] 46 (0, 0)) := by
    rw [Below.heap_alloc _ _ _ (by simpa [World.setCell] using hOlt)]
    have := heap_setCell (o := 2) (.map (some w.heap.size)) HO.out.blk
    simpa using this
  have hF : Filling w O w.heap.size 0 f h true ((w.setCell ⟨O, 2, none⟩ (.map (some w.heap.size))).alloc (.map #[] 0)) := by
    refine ⟨hblk, ?_, ((KeptBut.refl (fun b => b = O) w).setCell (.inr rfl) _).alloc _⟩
    have := MapInt.made (w.setCell ⟨O, 2, none⟩ (.map (some w.heap.size)))
    have e1 : (w.setCell ⟨O, 2, none⟩ (.map (some w.heap.size))).heap.size = w.heap.size := by simp [World.setCell]
    rw [e1] at this
    exact this.congr (fun y hy => (restr_zero f txs HF.out y hy).symm)
  have HFL := hid hF
  clear hF hblk c0 c1 c2 z0 z1 z2 z2a c2a hmn hmk
  generalize (w.setCell ⟨O, 2, none⟩ (.map (some w.heap.size))).alloc (.map #[] 0) = w1 at *
  have hT1' : w1.cell? ⟨T, 1, none⟩ = some (.int .i64 txs.length) := by rw [HFL.out.kept.cell (p := ⟨T, 1, none⟩) hTlt (fun e => by have e' : T = O := e; omega)]; exact hT1
  refine (len_any txs.length hT1').mono ?_
  rintro e w' ⟨rfl, rfl⟩
  go_wp2_with fail
  clear hT1'
  go_loopw [48] (fun i wr => ∃ k : Nat, k ≤ txs.length ∧ i = .int .i64 k ∧ Filling w O w.heap.size k f h true wr) (fun i _ => txs.length - (intOf i).toNat)
  case atStart => exact ⟨0, Nat.zero_le _, rfl, HFL.out⟩
  case round =>
    clear HFL
    obtain ⟨k, hk, rfl, hF⟩ := hrel
    have HFL := hid hF
    obtain ⟨c0, c1, c2, z0, z1, z2⟩ := block3 hF.blk
    clear hF
    by_cases hlt : k < txs.length
    · have hTx' := HTX.out.kept HFL.out.kept (fun b e => .inl (by omega))
      have hT0' : wr.cell? ⟨T, 0, none⟩ = some av := by rw [HFL.out.kept.cell (p := ⟨T, 0, none⟩) hTlt (fun e => by have e' : T = O := e; omega)]; exact hT0
      have R := hTx'.txs k hlt
      have R0 : wr.cell? ⟨Bs.getD (k / 1024) 0, k % 1024 * 7, none⟩ = some (.int .i64 (txs.getD k tx0).id) := R 0 _ rfl
      have R5 : wr.cell? ⟨Bs.getD (k / 1024) 0, k % 1024 * 7 + 5, none⟩ = some (.int .i64 (txs.getD k tx0).comp) := R 5 _ rfl
      have R6 : wr.cell? ⟨Bs.getD (k / 1024) 0, k % 1024 * 7 + 6, none⟩ = some (.int .i64 (txs.getD k tx0).inv) := R 6 _ rfl
      obtain ⟨wi, wd⟩ := HW.out k hlt
      have hk64 : I64 (k : Int) := WalkArith.wf_i64 (by omega)
      obtain ⟨w1, hrun1, hm1, hk1⟩ := (show MapInt wr.drew w.heap.size (2 * k) (restr f k) from HFL.out.map).store (by unfold maxLen; omega) wi hk64
      have hBlt : Bs.getD (k / 1024) 0 < w.heap.size := HTX.out.lt (blkAt (by have := HTX.out.cover; omega))
      have hBwr : Bs.getD (k / 1024) 0 < wr.drew.heap.size := Nat.lt_of_lt_of_le hBlt HFL.out.kept.size
      have hOwr : O < wr.drew.heap.size := Nat.lt_of_lt_of_le hOlt HFL.out.kept.size
      have HAT := hid (at_any hTx' hT0' hlt (by omega))
      have HST := hid (restr_step HF.out hlt)
      have HM1 := hid hm1
      clear hTx' hT0' R hm1
      generalize Bs.getD (k / 1024) 0 = B at *
      generalize txs.getD k tx0 = y at *
      have Q5 : w1.cell? ⟨B, k % 1024 * 7 + 5, none⟩ = some (.int .i64 y.comp) := by rw [hk1.cell (p := ⟨B, _, none⟩) hBwr (fun e => by have e' : B = w.heap.size := e; omega)]; exact R5
      have Q0 : w1.cell? ⟨B, k % 1024 * 7, none⟩ = some (.int .i64 y.id) := by rw [hk1.cell (p := ⟨B, _, none⟩) hBwr (fun e => by have e' : B = w.heap.size := e; omega)]; exact R0
      have Q2 : w1.cell? ⟨O, 2, none⟩ = some (.map (some w.heap.size)) := by rw [hk1.cell (p := ⟨O, _, none⟩) hOwr (fun e => by have e' : O = w.heap.size := e; omega)]; exact c2
      have hk1' : KeptBut (fun b => b = w.heap.size) wr w1 := ⟨hk1.os, hk1.tape, hk1.output, hk1.size, hk1.block⟩
      by_cases hcp : 0 < y.comp
      · obtain ⟨w2, hrun2, hm2, hk2⟩ := (show MapInt w1.drew w.heap.size (2 * k + 1) (upd (restr f k) y.inv k) from HM1.out).store (by unfold maxLen; omega) wd hk64
        have hk2' : KeptBut (fun b => b = w.heap.size) w1 w2 := ⟨hk2.os, hk2.tape, hk2.output, hk2.size, hk2.block⟩
        have FIN := hid (HFL.out.step (Nat.le_refl _) (hk1'.trans hk2' (fun _ _ e => e)) hm2 (by omega) (fun z hz => by have := HST.out z hz; rw [if_pos hcp] at this; exact this))
        clear hm2 hk2 hk2' hk1 hk1'
        go_wp2_with (go_at_call 36; refine Calls.mono HAT.out ?_; rintro e w' ⟨rfl, rfl⟩)
        go_region
        go_wp2
        go_region
        go_wp2
        go_roundw
        case rel => exact ⟨k + 1, by omega, by go_num, FIN.out⟩
        case measure => simp [intOf]; omega
      · have FIN := hid (HFL.out.step (Nat.le_refl _) hk1' HM1.out (by omega) (fun z hz => by have := HST.out z hz; rw [if_neg hcp] at this; exact this))
        clear hk1 hk1'
        go_wp2_with (go_at_call 36; refine Calls.mono HAT.out ?_; rintro e w' ⟨rfl, rfl⟩)
        go_region
        go_wp2
        go_roundw
        case rel => exact ⟨k + 1, by omega, by go_num, FIN.out⟩
        case measure => simp [intOf]; omega
    · obtain rfl : k = txs.length := by omega
      have HM := hid (HFL.out.map.congr (restr_full f txs HF.out))
      have HST := hid (show OState wr O (some w.heap.size) (2 * txs.length) f h true from ⟨HFL.out.blk, HM.out⟩)
      have HK := hid (show KeptBut (fun b => b = O ∨ none = some b) w wr from HFL.out.kept.widen (fun b _ e => .inl e))
      cases hs : (f x).isSome with
      | true =>
        go_wp2_with (at_lookup; refine wpList_look rfl (.tmp 84) (.tmp 85) rfl w.heap.size (2 * txs.length) f x rfl rfl hx HM.out ?_)
        go_ret2
        exact post_owned hs HST.out (.inr (by omega)) (.inr ⟨rfl, Nat.le_refl _⟩) HK.out
      | false =>
        go_wp2_with (first
          | (at_lookup; refine wpList_look rfl (.tmp 84) (.tmp 85) rfl w.heap.size (2 * txs.length) f x rfl rfl hx HM.out ?_)
          | (at_mapUpdate; refine wpList_upd rfl (.tmp 97) (.tmp 98) (.tmp 99) rfl w.heap.size (2 * txs.length) f x t rfl rfl rfl hx ht (by unfold maxLen; omega) HM.out ?_; intro w2 hM2 hk2))
        go_ret2
        exact post_free hs HST.out (.inr (by omega)) (.inr ⟨rfl, Nat.le_refl _⟩) HK.out hM2 hk2

/-- claim, whatever the state. -/
theorem claim_any (O T : Nat) (m : Option Nat) (n base : Nat) (av : Value) (Bs : List Nat) (txs : List Tx) (f : Int → Option Int) (h : Int) (c : Bool) (x t : Int) (w : World) (hO : OState w O m n f h c) (hx : I64 x) (ht : I64 t) (hn : n < maxLen)
    (hfit : m = none → Fits f txs) (hwf : ∀ u, u < txs.length → I64 (txs.getD u tx0).inv ∧ I64 (txs.getD u tx0).id) (hmax : txs.length ≤ 32768) (hTx : TxMem w base av Bs txs) (hOb : O < base) (hT : base ≤ T) (hT0 : w.cell? ⟨T, 0, none⟩ = some av) (hT1 : w.cell? ⟨T, 1, none⟩ = some (.int .i64 txs.length)) :
    Calls Try.prog 32 #[.pointer (some ⟨O, 0, none⟩), .int .i64 x, .int .i64 t, .pointer (some ⟨T, 0, none⟩)] w (ClaimPost w O m n txs.length f x t) := by
  cases m with
  | some M => exact claim_map O T M n txs.length f h c x t w hO hx ht hn
  | none =>
    by_cases hr : c = false ∨ h < x
    · exact claim_rise O T n txs.length f h c x t w hO hx hr
    · have hc : c = true := by cases c with
        | true => rfl
        | false => exact absurd (.inl rfl) hr
      subst hc
      exact claim_fall O T n base av Bs txs f h x t w hO hx ht (by omega) (hfit rfl) hwf hmax hTx hOb hT hT0 hT1

theorem zzclaim_any (O T : Nat) (m : Option Nat) (n base : Nat) (av : Value) (Bs : List Nat) (txs : List Tx) (f : Int → Option Int) (h : Int) (c : Bool) (x t : Int) (w : World) (hO : OState w O m n f h c) (hx : I64 x) (ht : I64 t) (hn : n < maxLen)
    (hfit : m = none → Fits f txs) (hwf : ∀ u, u < txs.length → I64 (txs.getD u tx0).inv ∧ I64 (txs.getD u tx0).id) (hmax : txs.length ≤ 32768) (hTx : TxMem w base av Bs txs) (hOb : O < base) (hT : base ≤ T) (hT0 : w.cell? ⟨T, 0, none⟩ = some av) (hT1 : w.cell? ⟨T, 1, none⟩ = some (.int .i64 txs.length)) :
    Calls Try.prog 25 #[.pointer (some ⟨O, 0, none⟩), .int .i64 x, .int .i64 t, .pointer (some ⟨T, 0, none⟩)] w (ClaimPost w O m n txs.length f x t) := by
  have HC := hid (claim_any O T m n base av Bs txs f h c x t w hO hx ht hn hfit hwf hmax hTx hOb hT hT0 hT1)
  clear hO hx ht hfit hwf hTx hT0 hT1
  go_enter Try.func25, Try.ntmps25
  go_wp2_with fail
  refine Calls.mono HC.out ?_
  rintro e w' ⟨rfl, hA⟩
  have HA := hid hA
  clear hA
  go_wp2
  go_ret2
  exact ⟨rfl, HA.out⟩

theorem makeTxns_any (av : Value) (a : Option Addr) (l c : Nat) (hav : av = .slice a l c) (n : Int) (w : World) :
    Calls Try.prog 26 #[av, .int .i64 n] w fun e w' => e = .returned (.pointer (some ⟨w.heap.size, 0, none⟩)) ∧ w' = w.alloc (.cells #[av, .int .i64 n] 76) := by
  subst hav
  go_enter Try.func26, Try.ntmps26
  go_wp2
  go_ret
  exact ⟨rfl, rfl⟩

theorem makeTxn_any (a b c d : Int) (w : World) :
    Calls Try.prog 27 #[.agg #[.int .i64 a, .int .u8 0, .int .i64 0, .slice none 0 0, .int .i64 b, .int .i64 c], .int .i64 d] w fun e w' =>
      e = .returned (.agg #[.int .i64 a, .int .u8 0, .int .i64 0, .slice none 0 0, .int .i64 b, .int .i64 c, .int .i64 d]) ∧ ∃ C1 C2 : Array Value, w' = (w.alloc (.cells C1 58)).alloc (.cells C2 60) := by
  go_enter Try.func27, Try.ntmps27
  go_wp2
  simp [bodyPost, results, Try.results27, go_sem]
  exact ⟨_, _, rfl⟩

theorem bytes24_any (a : Option Addr) (n cap : Nat) (w : World) (hn : n ≤ maxLen) :
    Calls Try.prog 24 #[.slice a n cap] w fun e w' => e = .returned (.bool (decide (n ≤ 1048576))) ∧ w = w' := by
  unfold maxLen at hn
  by_cases h : n ≤ 1048576
  · go_enter Try.func24, Try.ntmps24
    go_wp2
    go_ret
    exact ⟨ret_bool (by simp [h]), rfl⟩
  · go_enter Try.func24, Try.ntmps24
    go_wp2
    go_ret
    exact ⟨ret_bool (by simp [h]), rfl⟩

end Claims
end Go.Proofs.Qxb6601938a
