/-
  SEAT b6602369a. THE CLOSURES item AND add OF newSorter.
-/
import Derived.Test.Qxb6602369aMem
import Derived.Deep.RegionHeld3
namespace Go.Proofs.Qxb6602369a
open Go.RowKit

theorem info3 : (Try.prog.info? 3).map (fun i => (i.zero, i.size, i.bytes)) = some (some (.int .i64 0), 1, 8) := by kernel_rfl

/-- The variable s and the sorter behind it. -/
structure Srt (w : World) (bs bp : Nat) (S : Nat → Value) : Prop where
  var : w.cell? ⟨bs, 0, none⟩ = some (.pointer (some ⟨bp, 0, none⟩))
  str : w.rowIs bp 64 8 S

set_option maxHeartbeats 1000000 in
theorem add_any (w : World) (base bN bM T : Nat) (N M : Nat → List Nat) (U V : Nat → Value) (bs bp : Nat) (S : Nat → Value) (a b : Nat)
    (hR : Jag w base bN bM T N M U V) (hS : Srt w bs bp S) (hN : S 2 = .slice (some ⟨bN, 0, none⟩) T T) (hM : S 3 = .slice (some ⟨bM, 0, none⟩) T T) (hbs : bs < base) (hbp : bp < base) (n1 : bs ≠ bN) (n2 : bs ≠ bM) (n3 : bp ≠ bN) (n4 : bp ≠ bM) (ha : a < T) (hb : b < T)
    (hla : (N a).length ≤ 1048576) (hlb : (M b).length ≤ 1048576) :
    Calls Try.prog 45 #[.int .i64 a, .int .i64 b, .pointer (some ⟨bs, 0, none⟩)] w fun e w' => e = .returned (.tuple #[]) ∧ (∃ U' V', Jag w' base bN bM T (upd N a (N a ++ [b])) (upd M b (M b ++ [a])) U' V') ∧ Kept base bN bM w w' := by
  obtain ⟨i0, hi, hz0, hz1, hz2⟩ := info_parts info3
  have HR := hid hR
  have c1 := hS.var
  have c2 := hS.str.cell (i := 2) (by omega)
  have c3 := hS.str.cell (i := 3) (by omega)
  rw [hN] at c2
  rw [hM] at c3
  have c4 := hR.needs.cell ha
  have f4 := hR.needs.frozen a
  have hsz := hR.sz
  have hltN := hR.ltN
  have hltM := hR.ltM
  have hi1 : (a : Int) < (T : Int) := by omega
  have hi2 : (b : Int) < (T : Int) := by omega
  have OWN := hid (hR.ownN a ha)
  clear hR hS hN hM
  generalize hu : U a = u at *
  have HU := hid hu
  clear hu
  go_enter Try.func45, Try.ntmps45
  go_wp2_with fail
  refine wp_region_held_drew (S := (fun W => W.cell? ⟨bs, 0, none⟩ = some (.pointer (some ⟨bp, 0, none⟩)) ∧ W.cell? ⟨bp, 2, none⟩ = some (.slice (some ⟨bN, 0, none⟩) T T))) (by kernel_rfl) ⟨c1, c2⟩ (fun hHeld => ?_)
  refine wpAnyH_take (i := 0) (oi := ?oi0p) (v := ?v0p) ?hi0p ?hn0p ?hf0p ?hr0p ?hq0p ?hy0p (by assumption) ?rest0p
  case hi0p => (simp only [List.getElem?_toArray, List.getElem?_cons_zero]; rfl)
  case hn0p => kernel_rfl
  case hf0p => kernel_rfl
  case hr0p => kernel_rfl
  case hq0p => exact fun _ _ _ h => h
  case hy0p => (refine Or.inl ⟨by rfl, ?_⟩; intro w hSw; go_simp; try with_reducible rfl)
  try simp only [Act.put, List.setIfInBounds_toArray, List.set_cons_zero, List.set_cons_succ]
  refine wpAnyH_take (i := 1) (oi := ?oi1p) (v := ?v1p) ?hi1p ?hn1p ?hf1p ?hr1p ?hq1p ?hy1p (by assumption) ?rest1p
  case hi1p => (simp only [List.getElem?_toArray, List.getElem?_cons_zero, List.getElem?_cons_succ]; rfl)
  case hn1p => kernel_rfl
  case hf1p => kernel_rfl
  case hr1p => kernel_rfl
  case hq1p => exact fun _ _ _ h => h
  case hy1p => (refine Or.inl ⟨by rfl, ?_⟩; intro w hSw; go_simp; try with_reducible rfl)
  try simp only [Act.put, List.setIfInBounds_toArray, List.set_cons_zero, List.set_cons_succ]
  refine wpAnyH_take (i := 2) (oi := ?oi2p) (v := ?v2p) ?hi2p ?hn2p ?hf2p ?hr2p ?hq2p ?hy2p (by assumption) ?rest2p
  case hi2p => (simp only [List.getElem?_toArray, List.getElem?_cons_zero, List.getElem?_cons_succ]; rfl)
  case hn2p => kernel_rfl
  case hf2p => kernel_rfl
  case hr2p => kernel_rfl
  case hq2p => exact fun _ _ _ h => h
  case hy2p => (refine Or.inl ⟨by rfl, ?_⟩; intro w hSw; go_simp; try with_reducible rfl)
  try simp only [Act.put, List.setIfInBounds_toArray, List.set_cons_zero, List.set_cons_succ]
  refine wpAnyH_take (i := 3) (oi := ?oi3p) (v := ?v3p) ?hi3p ?hn3p ?hf3p ?hr3p ?hq3p ?hy3p (by assumption) ?rest3p
  case hi3p => (simp only [List.getElem?_toArray, List.getElem?_cons_zero, List.getElem?_cons_succ]; rfl)
  case hn3p => kernel_rfl
  case hf3p => kernel_rfl
  case hr3p => kernel_rfl
  case hq3p => exact fun _ _ _ h => h
  case hy3p => (refine Or.inl ⟨by rfl, ?_⟩; intro w hSw; go_simp; try with_reducible rfl)
  try simp only [Act.put, List.setIfInBounds_toArray, List.set_cons_zero, List.set_cons_succ]
  refine wpAnyH_take (i := 4) (oi := ?oi4p) (v := ?v4p) ?hi4p ?hn4p ?hf4p ?hr4p ?hq4p ?hy4p (by assumption) ?rest4p
  case hi4p => (simp only [List.getElem?_toArray, List.getElem?_cons_zero, List.getElem?_cons_succ]; rfl)
  case hn4p => kernel_rfl
  case hf4p => kernel_rfl
  case hr4p => kernel_rfl
  case hq4p => exact fun _ _ _ h => h
  case hy4p => (refine Or.inl ⟨by rfl, ?_⟩; intro w hSw; go_simp; try with_reducible rfl)
  try simp only [Act.put, List.setIfInBounds_toArray, List.set_cons_zero, List.set_cons_succ]
  refine wpAnyH_take (i := 5) (oi := ?oi5p) (v := ?v5p) ?hi5p ?hn5p ?hf5p ?hr5p ?hq5p ?hy5p (by assumption) ?rest5p
  case hi5p => (simp only [List.getElem?_toArray, List.getElem?_cons_zero, List.getElem?_cons_succ]; rfl)
  case hn5p => kernel_rfl
  case hf5p => kernel_rfl
  case hr5p => kernel_rfl
  case hq5p => exact fun _ _ _ h => h
  case hy5p => (refine Or.inl ⟨by rfl, ?_⟩; intro w hSw; go_simp; try with_reducible rfl)
  try simp only [Act.put, List.setIfInBounds_toArray, List.set_cons_zero, List.set_cons_succ]
  refine wpAnyH_take (i := 6) (oi := ?oi6p) (v := ?v6p) ?hi6p ?hn6p ?hf6p ?hr6p ?hq6p ?hy6p (by assumption) ?rest6p
  case hi6p => (simp only [List.getElem?_toArray, List.getElem?_cons_zero, List.getElem?_cons_succ]; rfl)
  case hn6p => kernel_rfl
  case hf6p => kernel_rfl
  case hr6p => kernel_rfl
  case hq6p => exact fun _ _ _ h => h
  case hy6p => (refine Or.inl ⟨by rfl, ?_⟩; intro w hSw; go_simp; try with_reducible rfl)
  try simp only [Act.put, List.setIfInBounds_toArray, List.set_cons_zero, List.set_cons_succ]
  refine wpAnyH_take (i := 7) (oi := ?oi7p) (v := ?v7p) ?hi7p ?hn7p ?hf7p ?hr7p ?hq7p ?hy7p (by assumption) ?rest7p
  case hi7p => (simp only [List.getElem?_toArray, List.getElem?_cons_zero, List.getElem?_cons_succ]; rfl)
  case hn7p => kernel_rfl
  case hf7p => kernel_rfl
  case hr7p => kernel_rfl
  case hq7p => exact fun _ _ _ h => h
  case hy7p => (refine Or.inl ⟨by rfl, ?_⟩; intro w hSw; go_simp; try with_reducible rfl)
  try simp only [Act.put, List.setIfInBounds_toArray, List.set_cons_zero, List.set_cons_succ]
  refine wpAnyH_take (i := 8) (oi := ?oi8p) (v := ?v8p) ?hi8p ?hn8p ?hf8p ?hr8p ?hq8p ?hy8p (by assumption) ?rest8p
  case hi8p => (simp only [List.getElem?_toArray, List.getElem?_cons_zero, List.getElem?_cons_succ]; rfl)
  case hn8p => kernel_rfl
  case hf8p => kernel_rfl
  case hr8p => kernel_rfl
  case hq8p => exact fun _ _ _ h => h
  case hy8p => (refine Or.inl ⟨by rfl, ?_⟩; intro w hSw; go_simp; try with_reducible rfl)
  try simp only [Act.put, List.setIfInBounds_toArray, List.set_cons_zero, List.set_cons_succ]
  refine wpAnyH_take (i := 9) (oi := ?oi9p) (v := ?v9p) ?hi9p ?hn9p ?hf9p ?hr9p ?hq9p ?hy9p (by assumption) ?rest9p
  case hi9p => (simp only [List.getElem?_toArray, List.getElem?_cons_zero, List.getElem?_cons_succ]; rfl)
  case hn9p => kernel_rfl
  case hf9p => kernel_rfl
  case hr9p => kernel_rfl
  case hq9p => exact fun _ _ _ h => h
  case hy9p => (refine Or.inl ⟨by rfl, ?_⟩; intro w hSw; go_simp; try with_reducible rfl)
  try simp only [Act.put, List.setIfInBounds_toArray, List.set_cons_zero, List.set_cons_succ]
  refine wpAnyH_take (i := 10) (oi := ?oi10p) (v := ?v10p) ?hi10p ?hn10p ?hf10p ?hr10p ?hq10p ?hy10p (by assumption) ?rest10p
  case hi10p => (simp only [List.getElem?_toArray, List.getElem?_cons_zero, List.getElem?_cons_succ]; rfl)
  case hn10p => kernel_rfl
  case hf10p => kernel_rfl
  case hr10p => kernel_rfl
  case hq10p => exact fun _ _ _ h => h
  case hy10p => (refine Or.inl ⟨by rfl, ?_⟩; intro w hSw; go_simp; try with_reducible rfl)
  try simp only [Act.put, List.setIfInBounds_toArray, List.set_cons_zero, List.set_cons_succ]
  refine wpAnyH_take (i := 12) (oi := ?oi12p) (v := ?v12p) ?hi12p ?hn12p ?hf12p ?hr12p ?hq12p ?hy12p (by assumption) ?rest12p
  case hi12p => (simp only [List.getElem?_toArray, List.getElem?_cons_zero, List.getElem?_cons_succ]; rfl)
  case hn12p => kernel_rfl
  case hf12p => kernel_rfl
  case hr12p => kernel_rfl
  case hq12p => exact fun _ _ _ h => h
  case hy12p => (refine Or.inl ⟨by rfl, ?_⟩; intro w hSw; go_simp; try with_reducible rfl)
  try simp only [Act.put, List.setIfInBounds_toArray, List.set_cons_zero, List.set_cons_succ]
  refine wpAnyH_ready (rs := [11, 13]) (by kernel_rfl) (by simp) ?_
  refine AllReadyH.cons (o := ?oi11p) ?hi11p ?hk11p (AllReadyH.cons (o := ?oi13p) ?hi13p ?hk13p AllReadyH.nil)
  case hi11p => (simp only [List.getElem?_toArray, List.getElem?_cons_zero, List.getElem?_cons_succ]; rfl)
  case hi13p => (simp only [List.getElem?_toArray, List.getElem?_cons_zero, List.getElem?_cons_succ]; rfl)
  case hk11p =>
    intro K hK
    go_simp
    refine hK.out _ _ hHeld (fun hHeld => ?_)
    clear hK K
    try simp only [Act.put, List.setIfInBounds_toArray, List.set_cons_zero, List.set_cons_succ]
    refine wpAnyH_ready (rs := [13]) (by kernel_rfl) (by simp) ?_
    refine AllReadyH.cons (o := ?oi13pa) ?hi13pa ?hk13pa AllReadyH.nil
    case hi13pa => (simp only [List.getElem?_toArray, List.getElem?_cons_zero, List.getElem?_cons_succ]; rfl)
    intro K hK
    go_simp
    refine hK.out _ _ ⟨cell_alloc hHeld.1 _, cell_alloc hHeld.2 _⟩ (fun hHeld => ?_)
    clear hK K
    try simp only [Act.put, List.setIfInBounds_toArray, List.set_cons_zero, List.set_cons_succ]
    refine wpAnyH_ready (rs := [14]) (by kernel_rfl) (by simp) ?_
    refine AllReadyH.cons (o := ?oi14pa) ?hi14pa ?hk14pa AllReadyH.nil
    case hi14pa => (simp only [List.getElem?_toArray, List.getElem?_cons_zero, List.getElem?_cons_succ]; rfl)
    intro K hK
    refine step_append_lies _ rfl (.tmp 16) (.tmp 18) 28 rfl base 3 i0 (.int .i64 0) 1 8 Try.underlying28 hi hz0 hz1 hz2 rfl (by decide) u (N a).length (nats (N a)) rfl (OWN.out.alloc _) ⟨w.heap.size, 0, none⟩ 1 1 [.int .i64 b] rfl rfl (cell_one_new _ _ _) (by simp [Value.oneCell']) (by decide) (by unfold maxLen; omega) (by omega) (by simp; omega) (w.heap.size + 1) (by simp) ?_
    intro g cap w2 hown hgrow hat hlt
    have hne : ∀ k, k < base → some k ≠ u.ownBlock := fun k hk e => by have := (OWN.out.lt k e.symm).1; omega
    refine hK.out _ _ ⟨hgrow.cell hHeld.1 (hne _ hbs), hgrow.cell hHeld.2 (hne _ hbp)⟩ (fun hHeld => ?_)
    clear hK K
    try simp only [Act.put, List.setIfInBounds_toArray, List.set_cons_zero, List.set_cons_succ]
    refine wpAnyH_take (i := 15) (oi := ?oi15pa) (v := ?v15pa) ?hi15pa ?hn15pa ?hf15pa ?hr15pa ?hq15pa ?hy15pa (by assumption) ?rest15pa
    case hi15pa => (simp only [List.getElem?_toArray, List.getElem?_cons_zero, List.getElem?_cons_succ]; rfl)
    case hn15pa => kernel_rfl
    case hf15pa => kernel_rfl
    case hr15pa => kernel_rfl
    case hq15pa => exact fun _ _ _ h => h
    case hy15pa => (refine Or.inl ⟨by rfl, ?_⟩; intro w hSw; go_simp; try with_reducible rfl)
    try simp only [Act.put, List.setIfInBounds_toArray, List.set_cons_zero, List.set_cons_succ]
    have fz := grown_frozen (p := ⟨bN, a, none⟩) hgrow (by simp; omega) (hne _ (by omega)) (frozen_alloc' (by simp; omega) f4 _)
    have cz := hgrow.cell (a := ⟨bN, a, none⟩) (cell_alloc (w := w) c4 _) (hne _ (by omega))
    have hgrow' : (w.alloc (.cells #[.int .i64 b] 3)).grownBy w2 (U a).ownBlock := by rw [HU.out]; exact ⟨hgrow.os, hgrow.tape, hgrow.output, hgrow.size, hgrow.block⟩
    have HP := hid (HR.out.push ha hown hgrow' (by rw [HU.out]; exact hat))
    clear hown hgrow hat hne hgrow'
    refine wpAnyH_ready (rs := [16]) (by kernel_rfl) (by simp) ?_
    refine AllReadyH.cons (o := ?oi16pa) ?hi16pa ?hk16pa AllReadyH.nil
    case hi16pa => (simp only [List.getElem?_toArray, List.getElem?_cons_zero, List.getElem?_cons_succ]; rfl)
    intro K hK
    go_simp
    refine hK.out _ _ ⟨cell_set hHeld.1 (by simp; omega) _, cell_set hHeld.2 (by simp; omega) _⟩ (fun hHeld => ?_)
    clear hK K
    try simp only [Act.put]
    refine wpAnyH_done (by kernel_rfl) ?_ _
    have HJ := hid HP.out.1
    have HK1 := hid HP.out.2
    have c1 := hHeld.1
    have c2 := (World.cell?_of_block (w := w) (a := ⟨bp, 3, none⟩) (HK1.out.low bp hbp n3 n4)).trans c3
    generalize w2.setCell ⟨bN, a, none⟩ (.slice (some ⟨g, 0, none⟩) ((N a).length + 1) cap) = w3 at *
    have c4 := HJ.out.by_.cell hb
    have f4 := HJ.out.by_.frozen b
    have hsz3 := HJ.out.sz
    have OWN2 := hid (HJ.out.ownM b hb)
    clear HP HR HU OWN c3 fz cz hHeld hlt
    generalize hv : V b = v at c4 OWN2
    have HU := hid hv
    clear hv
    go_wp2_with fail
    refine wp_region_held_drew (S := (fun W => W.cell? ⟨bs, 0, none⟩ = some (.pointer (some ⟨bp, 0, none⟩)) ∧ W.cell? ⟨bp, 3, none⟩ = some (.slice (some ⟨bM, 0, none⟩) T T))) (by kernel_rfl) ⟨c1, c2⟩ (fun hHeld => ?_)
    refine wpAnyH_take (i := 0) (oi := ?oi0qpa) (v := ?v0qpa) ?hi0qpa ?hn0qpa ?hf0qpa ?hr0qpa ?hq0qpa ?hy0qpa (by assumption) ?rest0qpa
    case hi0qpa => (simp only [List.getElem?_toArray, List.getElem?_cons_zero]; rfl)
    case hn0qpa => kernel_rfl
    case hf0qpa => kernel_rfl
    case hr0qpa => kernel_rfl
    case hq0qpa => exact fun _ _ _ h => h
    case hy0qpa => (refine Or.inl ⟨by rfl, ?_⟩; intro w hSw; go_simp; try with_reducible rfl)
    try simp only [Act.put, List.setIfInBounds_toArray, List.set_cons_zero, List.set_cons_succ]
    refine wpAnyH_take (i := 1) (oi := ?oi1qpa) (v := ?v1qpa) ?hi1qpa ?hn1qpa ?hf1qpa ?hr1qpa ?hq1qpa ?hy1qpa (by assumption) ?rest1qpa
    case hi1qpa => (simp only [List.getElem?_toArray, List.getElem?_cons_zero, List.getElem?_cons_succ]; rfl)
    case hn1qpa => kernel_rfl
    case hf1qpa => kernel_rfl
    case hr1qpa => kernel_rfl
    case hq1qpa => exact fun _ _ _ h => h
    case hy1qpa => (refine Or.inl ⟨by rfl, ?_⟩; intro w hSw; go_simp; try with_reducible rfl)
    try simp only [Act.put, List.setIfInBounds_toArray, List.set_cons_zero, List.set_cons_succ]
    refine wpAnyH_take (i := 2) (oi := ?oi2qpa) (v := ?v2qpa) ?hi2qpa ?hn2qpa ?hf2qpa ?hr2qpa ?hq2qpa ?hy2qpa (by assumption) ?rest2qpa
    case hi2qpa => (simp only [List.getElem?_toArray, List.getElem?_cons_zero, List.getElem?_cons_succ]; rfl)
    case hn2qpa => kernel_rfl
    case hf2qpa => kernel_rfl
    case hr2qpa => kernel_rfl
    case hq2qpa => exact fun _ _ _ h => h
    case hy2qpa => (refine Or.inl ⟨by rfl, ?_⟩; intro w hSw; go_simp; try with_reducible rfl)
    try simp only [Act.put, List.setIfInBounds_toArray, List.set_cons_zero, List.set_cons_succ]
    refine wpAnyH_take (i := 3) (oi := ?oi3qpa) (v := ?v3qpa) ?hi3qpa ?hn3qpa ?hf3qpa ?hr3qpa ?hq3qpa ?hy3qpa (by assumption) ?rest3qpa
    case hi3qpa => (simp only [List.getElem?_toArray, List.getElem?_cons_zero, List.getElem?_cons_succ]; rfl)
    case hn3qpa => kernel_rfl
    case hf3qpa => kernel_rfl
    case hr3qpa => kernel_rfl
    case hq3qpa => exact fun _ _ _ h => h
    case hy3qpa => (refine Or.inl ⟨by rfl, ?_⟩; intro w hSw; go_simp; try with_reducible rfl)
    try simp only [Act.put, List.setIfInBounds_toArray, List.set_cons_zero, List.set_cons_succ]
    refine wpAnyH_take (i := 4) (oi := ?oi4qpa) (v := ?v4qpa) ?hi4qpa ?hn4qpa ?hf4qpa ?hr4qpa ?hq4qpa ?hy4qpa (by assumption) ?rest4qpa
    case hi4qpa => (simp only [List.getElem?_toArray, List.getElem?_cons_zero, List.getElem?_cons_succ]; rfl)
    case hn4qpa => kernel_rfl
    case hf4qpa => kernel_rfl
    case hr4qpa => kernel_rfl
    case hq4qpa => exact fun _ _ _ h => h
    case hy4qpa => (refine Or.inl ⟨by rfl, ?_⟩; intro w hSw; go_simp; try with_reducible rfl)
    try simp only [Act.put, List.setIfInBounds_toArray, List.set_cons_zero, List.set_cons_succ]
    refine wpAnyH_take (i := 5) (oi := ?oi5qpa) (v := ?v5qpa) ?hi5qpa ?hn5qpa ?hf5qpa ?hr5qpa ?hq5qpa ?hy5qpa (by assumption) ?rest5qpa
    case hi5qpa => (simp only [List.getElem?_toArray, List.getElem?_cons_zero, List.getElem?_cons_succ]; rfl)
    case hn5qpa => kernel_rfl
    case hf5qpa => kernel_rfl
    case hr5qpa => kernel_rfl
    case hq5qpa => exact fun _ _ _ h => h
    case hy5qpa => (refine Or.inl ⟨by rfl, ?_⟩; intro w hSw; go_simp; try with_reducible rfl)
    try simp only [Act.put, List.setIfInBounds_toArray, List.set_cons_zero, List.set_cons_succ]
    refine wpAnyH_take (i := 6) (oi := ?oi6qpa) (v := ?v6qpa) ?hi6qpa ?hn6qpa ?hf6qpa ?hr6qpa ?hq6qpa ?hy6qpa (by assumption) ?rest6qpa
    case hi6qpa => (simp only [List.getElem?_toArray, List.getElem?_cons_zero, List.getElem?_cons_succ]; rfl)
    case hn6qpa => kernel_rfl
    case hf6qpa => kernel_rfl
    case hr6qpa => kernel_rfl
    case hq6qpa => exact fun _ _ _ h => h
    case hy6qpa => (refine Or.inl ⟨by rfl, ?_⟩; intro w hSw; go_simp; try with_reducible rfl)
    try simp only [Act.put, List.setIfInBounds_toArray, List.set_cons_zero, List.set_cons_succ]
    refine wpAnyH_take (i := 7) (oi := ?oi7qpa) (v := ?v7qpa) ?hi7qpa ?hn7qpa ?hf7qpa ?hr7qpa ?hq7qpa ?hy7qpa (by assumption) ?rest7qpa
    case hi7qpa => (simp only [List.getElem?_toArray, List.getElem?_cons_zero, List.getElem?_cons_succ]; rfl)
    case hn7qpa => kernel_rfl
    case hf7qpa => kernel_rfl
    case hr7qpa => kernel_rfl
    case hq7qpa => exact fun _ _ _ h => h
    case hy7qpa => (refine Or.inl ⟨by rfl, ?_⟩; intro w hSw; go_simp; try with_reducible rfl)
    try simp only [Act.put, List.setIfInBounds_toArray, List.set_cons_zero, List.set_cons_succ]
    refine wpAnyH_take (i := 8) (oi := ?oi8qpa) (v := ?v8qpa) ?hi8qpa ?hn8qpa ?hf8qpa ?hr8qpa ?hq8qpa ?hy8qpa (by assumption) ?rest8qpa
    case hi8qpa => (simp only [List.getElem?_toArray, List.getElem?_cons_zero, List.getElem?_cons_succ]; rfl)
    case hn8qpa => kernel_rfl
    case hf8qpa => kernel_rfl
    case hr8qpa => kernel_rfl
    case hq8qpa => exact fun _ _ _ h => h
    case hy8qpa => (refine Or.inl ⟨by rfl, ?_⟩; intro w hSw; go_simp; try with_reducible rfl)
    try simp only [Act.put, List.setIfInBounds_toArray, List.set_cons_zero, List.set_cons_succ]
    refine wpAnyH_take (i := 9) (oi := ?oi9qpa) (v := ?v9qpa) ?hi9qpa ?hn9qpa ?hf9qpa ?hr9qpa ?hq9qpa ?hy9qpa (by assumption) ?rest9qpa
    case hi9qpa => (simp only [List.getElem?_toArray, List.getElem?_cons_zero, List.getElem?_cons_succ]; rfl)
    case hn9qpa => kernel_rfl
    case hf9qpa => kernel_rfl
    case hr9qpa => kernel_rfl
    case hq9qpa => exact fun _ _ _ h => h
    case hy9qpa => (refine Or.inl ⟨by rfl, ?_⟩; intro w hSw; go_simp; try with_reducible rfl)
    try simp only [Act.put, List.setIfInBounds_toArray, List.set_cons_zero, List.set_cons_succ]
    refine wpAnyH_take (i := 10) (oi := ?oi10qpa) (v := ?v10qpa) ?hi10qpa ?hn10qpa ?hf10qpa ?hr10qpa ?hq10qpa ?hy10qpa (by assumption) ?rest10qpa
    case hi10qpa => (simp only [List.getElem?_toArray, List.getElem?_cons_zero, List.getElem?_cons_succ]; rfl)
    case hn10qpa => kernel_rfl
    case hf10qpa => kernel_rfl
    case hr10qpa => kernel_rfl
    case hq10qpa => exact fun _ _ _ h => h
    case hy10qpa => (refine Or.inl ⟨by rfl, ?_⟩; intro w hSw; go_simp; try with_reducible rfl)
    try simp only [Act.put, List.setIfInBounds_toArray, List.set_cons_zero, List.set_cons_succ]
    refine wpAnyH_take (i := 12) (oi := ?oi12qpa) (v := ?v12qpa) ?hi12qpa ?hn12qpa ?hf12qpa ?hr12qpa ?hq12qpa ?hy12qpa (by assumption) ?rest12qpa
    case hi12qpa => (simp only [List.getElem?_toArray, List.getElem?_cons_zero, List.getElem?_cons_succ]; rfl)
    case hn12qpa => kernel_rfl
    case hf12qpa => kernel_rfl
    case hr12qpa => kernel_rfl
    case hq12qpa => exact fun _ _ _ h => h
    case hy12qpa => (refine Or.inl ⟨by rfl, ?_⟩; intro w hSw; go_simp; try with_reducible rfl)
    try simp only [Act.put, List.setIfInBounds_toArray, List.set_cons_zero, List.set_cons_succ]
    refine wpAnyH_ready (rs := [11, 13]) (by kernel_rfl) (by simp) ?_
    refine AllReadyH.cons (o := ?oi11qpa) ?hi11qpa ?hk11qpa (AllReadyH.cons (o := ?oi13qpa) ?hi13qpa ?hk13qpa AllReadyH.nil)
    case hi11qpa => (simp only [List.getElem?_toArray, List.getElem?_cons_zero, List.getElem?_cons_succ]; rfl)
    case hi13qpa => (simp only [List.getElem?_toArray, List.getElem?_cons_zero, List.getElem?_cons_succ]; rfl)
    case hk11qpa =>
      intro K hK
      go_simp
      refine hK.out _ _ hHeld (fun hHeld => ?_)
      clear hK K
      try simp only [Act.put, List.setIfInBounds_toArray, List.set_cons_zero, List.set_cons_succ]
      refine wpAnyH_ready (rs := [13]) (by kernel_rfl) (by simp) ?_
      refine AllReadyH.cons (o := ?oi13qpaa) ?hi13qpaa ?hk13qpaa AllReadyH.nil
      case hi13qpaa => (simp only [List.getElem?_toArray, List.getElem?_cons_zero, List.getElem?_cons_succ]; rfl)
      intro K hK
      go_simp
      refine hK.out _ _ ⟨cell_alloc hHeld.1 _, cell_alloc hHeld.2 _⟩ (fun hHeld => ?_)
      clear hK K
      try simp only [Act.put, List.setIfInBounds_toArray, List.set_cons_zero, List.set_cons_succ]
      refine wpAnyH_ready (rs := [14]) (by kernel_rfl) (by simp) ?_
      refine AllReadyH.cons (o := ?oi14qpaa) ?hi14qpaa ?hk14qpaa AllReadyH.nil
      case hi14qpaa => (simp only [List.getElem?_toArray, List.getElem?_cons_zero, List.getElem?_cons_succ]; rfl)
      intro K hK
      refine step_append_lies _ rfl (.tmp 32) (.tmp 34) 28 rfl base 3 i0 (.int .i64 0) 1 8 Try.underlying28 hi hz0 hz1 hz2 rfl (by decide) v (M b).length (nats (M b)) rfl (OWN2.out.alloc _) ⟨w3.heap.size, 0, none⟩ 1 1 [.int .i64 a] rfl rfl (cell_one_new _ _ _) (by simp [Value.oneCell']) (by decide) (by unfold maxLen; omega) (by omega) (by simp; omega) (w3.heap.size + 1) (by simp) ?_
      intro g cap w4 hown hgrow hat hlt
      have hne : ∀ k, k < base → some k ≠ v.ownBlock := fun k hk e => by have := (OWN2.out.lt k e.symm).1; omega
      refine hK.out _ _ ⟨hgrow.cell hHeld.1 (hne _ hbs), hgrow.cell hHeld.2 (hne _ hbp)⟩ (fun hHeld => ?_)
      clear hK K
      try simp only [Act.put, List.setIfInBounds_toArray, List.set_cons_zero, List.set_cons_succ]
      refine wpAnyH_take (i := 15) (oi := ?oi15qpaa) (v := ?v15qpaa) ?hi15qpaa ?hn15qpaa ?hf15qpaa ?hr15qpaa ?hq15qpaa ?hy15qpaa (by assumption) ?rest15qpaa
      case hi15qpaa => (simp only [List.getElem?_toArray, List.getElem?_cons_zero, List.getElem?_cons_succ]; rfl)
      case hn15qpaa => kernel_rfl
      case hf15qpaa => kernel_rfl
      case hr15qpaa => kernel_rfl
      case hq15qpaa => exact fun _ _ _ h => h
      case hy15qpaa => (refine Or.inl ⟨by rfl, ?_⟩; intro w hSw; go_simp; try with_reducible rfl)
      try simp only [Act.put, List.setIfInBounds_toArray, List.set_cons_zero, List.set_cons_succ]
      have fz := grown_frozen (p := ⟨bM, b, none⟩) hgrow (by simp; omega) (hne _ (by omega)) (frozen_alloc' (by simp; omega) f4 _)
      have cz := hgrow.cell (a := ⟨bM, b, none⟩) (cell_alloc (w := w3) c4 _) (hne _ (by omega))
      have hgrow' : (w3.alloc (.cells #[.int .i64 a] 3)).grownBy w4 (V b).ownBlock := by rw [HU.out]; exact ⟨hgrow.os, hgrow.tape, hgrow.output, hgrow.size, hgrow.block⟩
      have HP := hid (HJ.out.swap.push hb hown hgrow' (by rw [HU.out]; exact hat))
      clear hown hgrow hat hne hgrow'
      refine wpAnyH_ready (rs := [16]) (by kernel_rfl) (by simp) ?_
      refine AllReadyH.cons (o := ?oi16qpaa) ?hi16qpaa ?hk16qpaa AllReadyH.nil
      case hi16qpaa => (simp only [List.getElem?_toArray, List.getElem?_cons_zero, List.getElem?_cons_succ]; rfl)
      intro K hK
      go_simp
      refine hK.out _ _ ⟨cell_set hHeld.1 (by simp; omega) _, cell_set hHeld.2 (by simp; omega) _⟩ (fun hHeld => ?_)
      clear hK K
      try simp only [Act.put]
      refine wpAnyH_done (by kernel_rfl) ?_ _
      go_wp2_with fail
      go_end0
      exact ⟨rfl, ⟨_, _, HP.out.1.swap⟩, HK1.out.trans HP.out.2.swap⟩
    case hk13qpa =>
      intro K hK
      have c4' := cell_alloc (w := w3) c4 (.cells #[.int .i64 a] 3)
      go_simp
      refine hK.out _ _ ⟨cell_alloc hHeld.1 _, cell_alloc hHeld.2 _⟩ (fun hHeld => ?_)
      clear hK K
      try simp only [Act.put, List.setIfInBounds_toArray, List.set_cons_zero, List.set_cons_succ]
      refine wpAnyH_ready (rs := [11]) (by kernel_rfl) (by simp) ?_
      refine AllReadyH.cons (o := ?oi11qpab) ?hi11qpab ?hk11qpab AllReadyH.nil
      case hi11qpab => (simp only [List.getElem?_toArray, List.getElem?_cons_zero, List.getElem?_cons_succ]; rfl)
      intro K hK
      go_simp
      refine hK.out _ _ hHeld (fun hHeld => ?_)
      clear hK K
      try simp only [Act.put, List.setIfInBounds_toArray, List.set_cons_zero, List.set_cons_succ]
      refine wpAnyH_ready (rs := [14]) (by kernel_rfl) (by simp) ?_
      refine AllReadyH.cons (o := ?oi14qpab) ?hi14qpab ?hk14qpab AllReadyH.nil
      case hi14qpab => (simp only [List.getElem?_toArray, List.getElem?_cons_zero, List.getElem?_cons_succ]; rfl)
      intro K hK
      refine step_append_lies _ rfl (.tmp 32) (.tmp 34) 28 rfl base 3 i0 (.int .i64 0) 1 8 Try.underlying28 hi hz0 hz1 hz2 rfl (by decide) v (M b).length (nats (M b)) rfl (OWN2.out.alloc _) ⟨w3.heap.size, 0, none⟩ 1 1 [.int .i64 a] rfl rfl (cell_one_new _ _ _) (by simp [Value.oneCell']) (by decide) (by unfold maxLen; omega) (by omega) (by simp; omega) (w3.heap.size + 1) (by simp) ?_
      intro g cap w4 hown hgrow hat hlt
      have hne : ∀ k, k < base → some k ≠ v.ownBlock := fun k hk e => by have := (OWN2.out.lt k e.symm).1; omega
      refine hK.out _ _ ⟨hgrow.cell hHeld.1 (hne _ hbs), hgrow.cell hHeld.2 (hne _ hbp)⟩ (fun hHeld => ?_)
      clear hK K
      try simp only [Act.put, List.setIfInBounds_toArray, List.set_cons_zero, List.set_cons_succ]
      refine wpAnyH_take (i := 15) (oi := ?oi15qpab) (v := ?v15qpab) ?hi15qpab ?hn15qpab ?hf15qpab ?hr15qpab ?hq15qpab ?hy15qpab (by assumption) ?rest15qpab
      case hi15qpab => (simp only [List.getElem?_toArray, List.getElem?_cons_zero, List.getElem?_cons_succ]; rfl)
      case hn15qpab => kernel_rfl
      case hf15qpab => kernel_rfl
      case hr15qpab => kernel_rfl
      case hq15qpab => exact fun _ _ _ h => h
      case hy15qpab => (refine Or.inl ⟨by rfl, ?_⟩; intro w hSw; go_simp; try with_reducible rfl)
      try simp only [Act.put, List.setIfInBounds_toArray, List.set_cons_zero, List.set_cons_succ]
      have fz := grown_frozen (p := ⟨bM, b, none⟩) hgrow (by simp; omega) (hne _ (by omega)) (frozen_alloc' (by simp; omega) f4 _)
      have cz := hgrow.cell (a := ⟨bM, b, none⟩) (cell_alloc (w := w3) c4 _) (hne _ (by omega))
      have hgrow' : (w3.alloc (.cells #[.int .i64 a] 3)).grownBy w4 (V b).ownBlock := by rw [HU.out]; exact ⟨hgrow.os, hgrow.tape, hgrow.output, hgrow.size, hgrow.block⟩
      have HP := hid (HJ.out.swap.push hb hown hgrow' (by rw [HU.out]; exact hat))
      clear hown hgrow hat hne hgrow'
      refine wpAnyH_ready (rs := [16]) (by kernel_rfl) (by simp) ?_
      refine AllReadyH.cons (o := ?oi16qpab) ?hi16qpab ?hk16qpab AllReadyH.nil
      case hi16qpab => (simp only [List.getElem?_toArray, List.getElem?_cons_zero, List.getElem?_cons_succ]; rfl)
      intro K hK
      go_simp
      refine hK.out _ _ ⟨cell_set hHeld.1 (by simp; omega) _, cell_set hHeld.2 (by simp; omega) _⟩ (fun hHeld => ?_)
      clear hK K
      try simp only [Act.put]
      refine wpAnyH_done (by kernel_rfl) ?_ _
      go_wp2_with fail
      go_end0
      exact ⟨rfl, ⟨_, _, HP.out.1.swap⟩, HK1.out.trans HP.out.2.swap⟩
  case hk13p =>
    intro K hK
    have c4' := cell_alloc (w := w) c4 (.cells #[.int .i64 b] 3)
    go_simp
    refine hK.out _ _ ⟨cell_alloc hHeld.1 _, cell_alloc hHeld.2 _⟩ (fun hHeld => ?_)
    clear hK K
    try simp only [Act.put, List.setIfInBounds_toArray, List.set_cons_zero, List.set_cons_succ]
    refine wpAnyH_ready (rs := [11]) (by kernel_rfl) (by simp) ?_
    refine AllReadyH.cons (o := ?oi11pb) ?hi11pb ?hk11pb AllReadyH.nil
    case hi11pb => (simp only [List.getElem?_toArray, List.getElem?_cons_zero, List.getElem?_cons_succ]; rfl)
    intro K hK
    go_simp
    refine hK.out _ _ hHeld (fun hHeld => ?_)
    clear hK K
    try simp only [Act.put, List.setIfInBounds_toArray, List.set_cons_zero, List.set_cons_succ]
    refine wpAnyH_ready (rs := [14]) (by kernel_rfl) (by simp) ?_
    refine AllReadyH.cons (o := ?oi14pb) ?hi14pb ?hk14pb AllReadyH.nil
    case hi14pb => (simp only [List.getElem?_toArray, List.getElem?_cons_zero, List.getElem?_cons_succ]; rfl)
    intro K hK
    refine step_append_lies _ rfl (.tmp 16) (.tmp 18) 28 rfl base 3 i0 (.int .i64 0) 1 8 Try.underlying28 hi hz0 hz1 hz2 rfl (by decide) u (N a).length (nats (N a)) rfl (OWN.out.alloc _) ⟨w.heap.size, 0, none⟩ 1 1 [.int .i64 b] rfl rfl (cell_one_new _ _ _) (by simp [Value.oneCell']) (by decide) (by unfold maxLen; omega) (by omega) (by simp; omega) (w.heap.size + 1) (by simp) ?_
    intro g cap w2 hown hgrow hat hlt
    have hne : ∀ k, k < base → some k ≠ u.ownBlock := fun k hk e => by have := (OWN.out.lt k e.symm).1; omega
    refine hK.out _ _ ⟨hgrow.cell hHeld.1 (hne _ hbs), hgrow.cell hHeld.2 (hne _ hbp)⟩ (fun hHeld => ?_)
    clear hK K
    try simp only [Act.put, List.setIfInBounds_toArray, List.set_cons_zero, List.set_cons_succ]
    refine wpAnyH_take (i := 15) (oi := ?oi15pb) (v := ?v15pb) ?hi15pb ?hn15pb ?hf15pb ?hr15pb ?hq15pb ?hy15pb (by assumption) ?rest15pb
    case hi15pb => (simp only [List.getElem?_toArray, List.getElem?_cons_zero, List.getElem?_cons_succ]; rfl)
    case hn15pb => kernel_rfl
    case hf15pb => kernel_rfl
    case hr15pb => kernel_rfl
    case hq15pb => exact fun _ _ _ h => h
    case hy15pb => (refine Or.inl ⟨by rfl, ?_⟩; intro w hSw; go_simp; try with_reducible rfl)
    try simp only [Act.put, List.setIfInBounds_toArray, List.set_cons_zero, List.set_cons_succ]
    have fz := grown_frozen (p := ⟨bN, a, none⟩) hgrow (by simp; omega) (hne _ (by omega)) (frozen_alloc' (by simp; omega) f4 _)
    have cz := hgrow.cell (a := ⟨bN, a, none⟩) (cell_alloc (w := w) c4 _) (hne _ (by omega))
    have hgrow' : (w.alloc (.cells #[.int .i64 b] 3)).grownBy w2 (U a).ownBlock := by rw [HU.out]; exact ⟨hgrow.os, hgrow.tape, hgrow.output, hgrow.size, hgrow.block⟩
    have HP := hid (HR.out.push ha hown hgrow' (by rw [HU.out]; exact hat))
    clear hown hgrow hat hne hgrow'
    refine wpAnyH_ready (rs := [16]) (by kernel_rfl) (by simp) ?_
    refine AllReadyH.cons (o := ?oi16pb) ?hi16pb ?hk16pb AllReadyH.nil
    case hi16pb => (simp only [List.getElem?_toArray, List.getElem?_cons_zero, List.getElem?_cons_succ]; rfl)
    intro K hK
    go_simp
    refine hK.out _ _ ⟨cell_set hHeld.1 (by simp; omega) _, cell_set hHeld.2 (by simp; omega) _⟩ (fun hHeld => ?_)
    clear hK K
    try simp only [Act.put]
    refine wpAnyH_done (by kernel_rfl) ?_ _
    have HJ := hid HP.out.1
    have HK1 := hid HP.out.2
    have c1 := hHeld.1
    have c2 := (World.cell?_of_block (w := w) (a := ⟨bp, 3, none⟩) (HK1.out.low bp hbp n3 n4)).trans c3
    generalize w2.setCell ⟨bN, a, none⟩ (.slice (some ⟨g, 0, none⟩) ((N a).length + 1) cap) = w3 at *
    have c4 := HJ.out.by_.cell hb
    have f4 := HJ.out.by_.frozen b
    have hsz3 := HJ.out.sz
    have OWN2 := hid (HJ.out.ownM b hb)
    clear HP HR HU OWN c3 fz cz hHeld hlt
    generalize hv : V b = v at c4 OWN2
    have HU := hid hv
    clear hv
    go_wp2_with fail
    refine wp_region_held_drew (S := (fun W => W.cell? ⟨bs, 0, none⟩ = some (.pointer (some ⟨bp, 0, none⟩)) ∧ W.cell? ⟨bp, 3, none⟩ = some (.slice (some ⟨bM, 0, none⟩) T T))) (by kernel_rfl) ⟨c1, c2⟩ (fun hHeld => ?_)
    refine wpAnyH_take (i := 0) (oi := ?oi0qpb) (v := ?v0qpb) ?hi0qpb ?hn0qpb ?hf0qpb ?hr0qpb ?hq0qpb ?hy0qpb (by assumption) ?rest0qpb
    case hi0qpb => (simp only [List.getElem?_toArray, List.getElem?_cons_zero]; rfl)
    case hn0qpb => kernel_rfl
    case hf0qpb => kernel_rfl
    case hr0qpb => kernel_rfl
    case hq0qpb => exact fun _ _ _ h => h
    case hy0qpb => (refine Or.inl ⟨by rfl, ?_⟩; intro w hSw; go_simp; try with_reducible rfl)
    try simp only [Act.put, List.setIfInBounds_toArray, List.set_cons_zero, List.set_cons_succ]
    refine wpAnyH_take (i := 1) (oi := ?oi1qpb) (v := ?v1qpb) ?hi1qpb ?hn1qpb ?hf1qpb ?hr1qpb ?hq1qpb ?hy1qpb (by assumption) ?rest1qpb
    case hi1qpb => (simp only [List.getElem?_toArray, List.getElem?_cons_zero, List.getElem?_cons_succ]; rfl)
    case hn1qpb => kernel_rfl
    case hf1qpb => kernel_rfl
    case hr1qpb => kernel_rfl
    case hq1qpb => exact fun _ _ _ h => h
    case hy1qpb => (refine Or.inl ⟨by rfl, ?_⟩; intro w hSw; go_simp; try with_reducible rfl)
    try simp only [Act.put, List.setIfInBounds_toArray, List.set_cons_zero, List.set_cons_succ]
    refine wpAnyH_take (i := 2) (oi := ?oi2qpb) (v := ?v2qpb) ?hi2qpb ?hn2qpb ?hf2qpb ?hr2qpb ?hq2qpb ?hy2qpb (by assumption) ?rest2qpb
    case hi2qpb => (simp only [List.getElem?_toArray, List.getElem?_cons_zero, List.getElem?_cons_succ]; rfl)
    case hn2qpb => kernel_rfl
    case hf2qpb => kernel_rfl
    case hr2qpb => kernel_rfl
    case hq2qpb => exact fun _ _ _ h => h
    case hy2qpb => (refine Or.inl ⟨by rfl, ?_⟩; intro w hSw; go_simp; try with_reducible rfl)
    try simp only [Act.put, List.setIfInBounds_toArray, List.set_cons_zero, List.set_cons_succ]
    refine wpAnyH_take (i := 3) (oi := ?oi3qpb) (v := ?v3qpb) ?hi3qpb ?hn3qpb ?hf3qpb ?hr3qpb ?hq3qpb ?hy3qpb (by assumption) ?rest3qpb
    case hi3qpb => (simp only [List.getElem?_toArray, List.getElem?_cons_zero, List.getElem?_cons_succ]; rfl)
    case hn3qpb => kernel_rfl
    case hf3qpb => kernel_rfl
    case hr3qpb => kernel_rfl
    case hq3qpb => exact fun _ _ _ h => h
    case hy3qpb => (refine Or.inl ⟨by rfl, ?_⟩; intro w hSw; go_simp; try with_reducible rfl)
    try simp only [Act.put, List.setIfInBounds_toArray, List.set_cons_zero, List.set_cons_succ]
    refine wpAnyH_take (i := 4) (oi := ?oi4qpb) (v := ?v4qpb) ?hi4qpb ?hn4qpb ?hf4qpb ?hr4qpb ?hq4qpb ?hy4qpb (by assumption) ?rest4qpb
    case hi4qpb => (simp only [List.getElem?_toArray, List.getElem?_cons_zero, List.getElem?_cons_succ]; rfl)
    case hn4qpb => kernel_rfl
    case hf4qpb => kernel_rfl
    case hr4qpb => kernel_rfl
    case hq4qpb => exact fun _ _ _ h => h
    case hy4qpb => (refine Or.inl ⟨by rfl, ?_⟩; intro w hSw; go_simp; try with_reducible rfl)
    try simp only [Act.put, List.setIfInBounds_toArray, List.set_cons_zero, List.set_cons_succ]
    refine wpAnyH_take (i := 5) (oi := ?oi5qpb) (v := ?v5qpb) ?hi5qpb ?hn5qpb ?hf5qpb ?hr5qpb ?hq5qpb ?hy5qpb (by assumption) ?rest5qpb
    case hi5qpb => (simp only [List.getElem?_toArray, List.getElem?_cons_zero, List.getElem?_cons_succ]; rfl)
    case hn5qpb => kernel_rfl
    case hf5qpb => kernel_rfl
    case hr5qpb => kernel_rfl
    case hq5qpb => exact fun _ _ _ h => h
    case hy5qpb => (refine Or.inl ⟨by rfl, ?_⟩; intro w hSw; go_simp; try with_reducible rfl)
    try simp only [Act.put, List.setIfInBounds_toArray, List.set_cons_zero, List.set_cons_succ]
    refine wpAnyH_take (i := 6) (oi := ?oi6qpb) (v := ?v6qpb) ?hi6qpb ?hn6qpb ?hf6qpb ?hr6qpb ?hq6qpb ?hy6qpb (by assumption) ?rest6qpb
    case hi6qpb => (simp only [List.getElem?_toArray, List.getElem?_cons_zero, List.getElem?_cons_succ]; rfl)
    case hn6qpb => kernel_rfl
    case hf6qpb => kernel_rfl
    case hr6qpb => kernel_rfl
    case hq6qpb => exact fun _ _ _ h => h
    case hy6qpb => (refine Or.inl ⟨by rfl, ?_⟩; intro w hSw; go_simp; try with_reducible rfl)
    try simp only [Act.put, List.setIfInBounds_toArray, List.set_cons_zero, List.set_cons_succ]
    refine wpAnyH_take (i := 7) (oi := ?oi7qpb) (v := ?v7qpb) ?hi7qpb ?hn7qpb ?hf7qpb ?hr7qpb ?hq7qpb ?hy7qpb (by assumption) ?rest7qpb
    case hi7qpb => (simp only [List.getElem?_toArray, List.getElem?_cons_zero, List.getElem?_cons_succ]; rfl)
    case hn7qpb => kernel_rfl
    case hf7qpb => kernel_rfl
    case hr7qpb => kernel_rfl
    case hq7qpb => exact fun _ _ _ h => h
    case hy7qpb => (refine Or.inl ⟨by rfl, ?_⟩; intro w hSw; go_simp; try with_reducible rfl)
    try simp only [Act.put, List.setIfInBounds_toArray, List.set_cons_zero, List.set_cons_succ]
    refine wpAnyH_take (i := 8) (oi := ?oi8qpb) (v := ?v8qpb) ?hi8qpb ?hn8qpb ?hf8qpb ?hr8qpb ?hq8qpb ?hy8qpb (by assumption) ?rest8qpb
    case hi8qpb => (simp only [List.getElem?_toArray, List.getElem?_cons_zero, List.getElem?_cons_succ]; rfl)
    case hn8qpb => kernel_rfl
    case hf8qpb => kernel_rfl
    case hr8qpb => kernel_rfl
    case hq8qpb => exact fun _ _ _ h => h
    case hy8qpb => (refine Or.inl ⟨by rfl, ?_⟩; intro w hSw; go_simp; try with_reducible rfl)
    try simp only [Act.put, List.setIfInBounds_toArray, List.set_cons_zero, List.set_cons_succ]
    refine wpAnyH_take (i := 9) (oi := ?oi9qpb) (v := ?v9qpb) ?hi9qpb ?hn9qpb ?hf9qpb ?hr9qpb ?hq9qpb ?hy9qpb (by assumption) ?rest9qpb
    case hi9qpb => (simp only [List.getElem?_toArray, List.getElem?_cons_zero, List.getElem?_cons_succ]; rfl)
    case hn9qpb => kernel_rfl
    case hf9qpb => kernel_rfl
    case hr9qpb => kernel_rfl
    case hq9qpb => exact fun _ _ _ h => h
    case hy9qpb => (refine Or.inl ⟨by rfl, ?_⟩; intro w hSw; go_simp; try with_reducible rfl)
    try simp only [Act.put, List.setIfInBounds_toArray, List.set_cons_zero, List.set_cons_succ]
    refine wpAnyH_take (i := 10) (oi := ?oi10qpb) (v := ?v10qpb) ?hi10qpb ?hn10qpb ?hf10qpb ?hr10qpb ?hq10qpb ?hy10qpb (by assumption) ?rest10qpb
    case hi10qpb => (simp only [List.getElem?_toArray, List.getElem?_cons_zero, List.getElem?_cons_succ]; rfl)
    case hn10qpb => kernel_rfl
    case hf10qpb => kernel_rfl
    case hr10qpb => kernel_rfl
    case hq10qpb => exact fun _ _ _ h => h
    case hy10qpb => (refine Or.inl ⟨by rfl, ?_⟩; intro w hSw; go_simp; try with_reducible rfl)
    try simp only [Act.put, List.setIfInBounds_toArray, List.set_cons_zero, List.set_cons_succ]
    refine wpAnyH_take (i := 12) (oi := ?oi12qpb) (v := ?v12qpb) ?hi12qpb ?hn12qpb ?hf12qpb ?hr12qpb ?hq12qpb ?hy12qpb (by assumption) ?rest12qpb
    case hi12qpb => (simp only [List.getElem?_toArray, List.getElem?_cons_zero, List.getElem?_cons_succ]; rfl)
    case hn12qpb => kernel_rfl
    case hf12qpb => kernel_rfl
    case hr12qpb => kernel_rfl
    case hq12qpb => exact fun _ _ _ h => h
    case hy12qpb => (refine Or.inl ⟨by rfl, ?_⟩; intro w hSw; go_simp; try with_reducible rfl)
    try simp only [Act.put, List.setIfInBounds_toArray, List.set_cons_zero, List.set_cons_succ]
    refine wpAnyH_ready (rs := [11, 13]) (by kernel_rfl) (by simp) ?_
    refine AllReadyH.cons (o := ?oi11qpb) ?hi11qpb ?hk11qpb (AllReadyH.cons (o := ?oi13qpb) ?hi13qpb ?hk13qpb AllReadyH.nil)
    case hi11qpb => (simp only [List.getElem?_toArray, List.getElem?_cons_zero, List.getElem?_cons_succ]; rfl)
    case hi13qpb => (simp only [List.getElem?_toArray, List.getElem?_cons_zero, List.getElem?_cons_succ]; rfl)
    case hk11qpb =>
      intro K hK
      go_simp
      refine hK.out _ _ hHeld (fun hHeld => ?_)
      clear hK K
      try simp only [Act.put, List.setIfInBounds_toArray, List.set_cons_zero, List.set_cons_succ]
      refine wpAnyH_ready (rs := [13]) (by kernel_rfl) (by simp) ?_
      refine AllReadyH.cons (o := ?oi13qpba) ?hi13qpba ?hk13qpba AllReadyH.nil
      case hi13qpba => (simp only [List.getElem?_toArray, List.getElem?_cons_zero, List.getElem?_cons_succ]; rfl)
      intro K hK
      go_simp
      refine hK.out _ _ ⟨cell_alloc hHeld.1 _, cell_alloc hHeld.2 _⟩ (fun hHeld => ?_)
      clear hK K
      try simp only [Act.put, List.setIfInBounds_toArray, List.set_cons_zero, List.set_cons_succ]
      refine wpAnyH_ready (rs := [14]) (by kernel_rfl) (by simp) ?_
      refine AllReadyH.cons (o := ?oi14qpba) ?hi14qpba ?hk14qpba AllReadyH.nil
      case hi14qpba => (simp only [List.getElem?_toArray, List.getElem?_cons_zero, List.getElem?_cons_succ]; rfl)
      intro K hK
      refine step_append_lies _ rfl (.tmp 32) (.tmp 34) 28 rfl base 3 i0 (.int .i64 0) 1 8 Try.underlying28 hi hz0 hz1 hz2 rfl (by decide) v (M b).length (nats (M b)) rfl (OWN2.out.alloc _) ⟨w3.heap.size, 0, none⟩ 1 1 [.int .i64 a] rfl rfl (cell_one_new _ _ _) (by simp [Value.oneCell']) (by decide) (by unfold maxLen; omega) (by omega) (by simp; omega) (w3.heap.size + 1) (by simp) ?_
      intro g cap w4 hown hgrow hat hlt
      have hne : ∀ k, k < base → some k ≠ v.ownBlock := fun k hk e => by have := (OWN2.out.lt k e.symm).1; omega
      refine hK.out _ _ ⟨hgrow.cell hHeld.1 (hne _ hbs), hgrow.cell hHeld.2 (hne _ hbp)⟩ (fun hHeld => ?_)
      clear hK K
      try simp only [Act.put, List.setIfInBounds_toArray, List.set_cons_zero, List.set_cons_succ]
      refine wpAnyH_take (i := 15) (oi := ?oi15qpba) (v := ?v15qpba) ?hi15qpba ?hn15qpba ?hf15qpba ?hr15qpba ?hq15qpba ?hy15qpba (by assumption) ?rest15qpba
      case hi15qpba => (simp only [List.getElem?_toArray, List.getElem?_cons_zero, List.getElem?_cons_succ]; rfl)
      case hn15qpba => kernel_rfl
      case hf15qpba => kernel_rfl
      case hr15qpba => kernel_rfl
      case hq15qpba => exact fun _ _ _ h => h
      case hy15qpba => (refine Or.inl ⟨by rfl, ?_⟩; intro w hSw; go_simp; try with_reducible rfl)
      try simp only [Act.put, List.setIfInBounds_toArray, List.set_cons_zero, List.set_cons_succ]
      have fz := grown_frozen (p := ⟨bM, b, none⟩) hgrow (by simp; omega) (hne _ (by omega)) (frozen_alloc' (by simp; omega) f4 _)
      have cz := hgrow.cell (a := ⟨bM, b, none⟩) (cell_alloc (w := w3) c4 _) (hne _ (by omega))
      have hgrow' : (w3.alloc (.cells #[.int .i64 a] 3)).grownBy w4 (V b).ownBlock := by rw [HU.out]; exact ⟨hgrow.os, hgrow.tape, hgrow.output, hgrow.size, hgrow.block⟩
      have HP := hid (HJ.out.swap.push hb hown hgrow' (by rw [HU.out]; exact hat))
      clear hown hgrow hat hne hgrow'
      refine wpAnyH_ready (rs := [16]) (by kernel_rfl) (by simp) ?_
      refine AllReadyH.cons (o := ?oi16qpba) ?hi16qpba ?hk16qpba AllReadyH.nil
      case hi16qpba => (simp only [List.getElem?_toArray, List.getElem?_cons_zero, List.getElem?_cons_succ]; rfl)
      intro K hK
      go_simp
      refine hK.out _ _ ⟨cell_set hHeld.1 (by simp; omega) _, cell_set hHeld.2 (by simp; omega) _⟩ (fun hHeld => ?_)
      clear hK K
      try simp only [Act.put]
      refine wpAnyH_done (by kernel_rfl) ?_ _
      go_wp2_with fail
      go_end0
      exact ⟨rfl, ⟨_, _, HP.out.1.swap⟩, HK1.out.trans HP.out.2.swap⟩
    case hk13qpb =>
      intro K hK
      have c4' := cell_alloc (w := w3) c4 (.cells #[.int .i64 a] 3)
      go_simp
      refine hK.out _ _ ⟨cell_alloc hHeld.1 _, cell_alloc hHeld.2 _⟩ (fun hHeld => ?_)
      clear hK K
      try simp only [Act.put, List.setIfInBounds_toArray, List.set_cons_zero, List.set_cons_succ]
      refine wpAnyH_ready (rs := [11]) (by kernel_rfl) (by simp) ?_
      refine AllReadyH.cons (o := ?oi11qpbb) ?hi11qpbb ?hk11qpbb AllReadyH.nil
      case hi11qpbb => (simp only [List.getElem?_toArray, List.getElem?_cons_zero, List.getElem?_cons_succ]; rfl)
      intro K hK
      go_simp
      refine hK.out _ _ hHeld (fun hHeld => ?_)
      clear hK K
      try simp only [Act.put, List.setIfInBounds_toArray, List.set_cons_zero, List.set_cons_succ]
      refine wpAnyH_ready (rs := [14]) (by kernel_rfl) (by simp) ?_
      refine AllReadyH.cons (o := ?oi14qpbb) ?hi14qpbb ?hk14qpbb AllReadyH.nil
      case hi14qpbb => (simp only [List.getElem?_toArray, List.getElem?_cons_zero, List.getElem?_cons_succ]; rfl)
      intro K hK
      refine step_append_lies _ rfl (.tmp 32) (.tmp 34) 28 rfl base 3 i0 (.int .i64 0) 1 8 Try.underlying28 hi hz0 hz1 hz2 rfl (by decide) v (M b).length (nats (M b)) rfl (OWN2.out.alloc _) ⟨w3.heap.size, 0, none⟩ 1 1 [.int .i64 a] rfl rfl (cell_one_new _ _ _) (by simp [Value.oneCell']) (by decide) (by unfold maxLen; omega) (by omega) (by simp; omega) (w3.heap.size + 1) (by simp) ?_
      intro g cap w4 hown hgrow hat hlt
      have hne : ∀ k, k < base → some k ≠ v.ownBlock := fun k hk e => by have := (OWN2.out.lt k e.symm).1; omega
      refine hK.out _ _ ⟨hgrow.cell hHeld.1 (hne _ hbs), hgrow.cell hHeld.2 (hne _ hbp)⟩ (fun hHeld => ?_)
      clear hK K
      try simp only [Act.put, List.setIfInBounds_toArray, List.set_cons_zero, List.set_cons_succ]
      refine wpAnyH_take (i := 15) (oi := ?oi15qpbb) (v := ?v15qpbb) ?hi15qpbb ?hn15qpbb ?hf15qpbb ?hr15qpbb ?hq15qpbb ?hy15qpbb (by assumption) ?rest15qpbb
      case hi15qpbb => (simp only [List.getElem?_toArray, List.getElem?_cons_zero, List.getElem?_cons_succ]; rfl)
      case hn15qpbb => kernel_rfl
      case hf15qpbb => kernel_rfl
      case hr15qpbb => kernel_rfl
      case hq15qpbb => exact fun _ _ _ h => h
      case hy15qpbb => (refine Or.inl ⟨by rfl, ?_⟩; intro w hSw; go_simp; try with_reducible rfl)
      try simp only [Act.put, List.setIfInBounds_toArray, List.set_cons_zero, List.set_cons_succ]
      have fz := grown_frozen (p := ⟨bM, b, none⟩) hgrow (by simp; omega) (hne _ (by omega)) (frozen_alloc' (by simp; omega) f4 _)
      have cz := hgrow.cell (a := ⟨bM, b, none⟩) (cell_alloc (w := w3) c4 _) (hne _ (by omega))
      have hgrow' : (w3.alloc (.cells #[.int .i64 a] 3)).grownBy w4 (V b).ownBlock := by rw [HU.out]; exact ⟨hgrow.os, hgrow.tape, hgrow.output, hgrow.size, hgrow.block⟩
      have HP := hid (HJ.out.swap.push hb hown hgrow' (by rw [HU.out]; exact hat))
      clear hown hgrow hat hne hgrow'
      refine wpAnyH_ready (rs := [16]) (by kernel_rfl) (by simp) ?_
      refine AllReadyH.cons (o := ?oi16qpbb) ?hi16qpbb ?hk16qpbb AllReadyH.nil
      case hi16qpbb => (simp only [List.getElem?_toArray, List.getElem?_cons_zero, List.getElem?_cons_succ]; rfl)
      intro K hK
      go_simp
      refine hK.out _ _ ⟨cell_set hHeld.1 (by simp; omega) _, cell_set hHeld.2 (by simp; omega) _⟩ (fun hHeld => ?_)
      clear hK K
      try simp only [Act.put]
      refine wpAnyH_done (by kernel_rfl) ?_ _
      go_wp2_with fail
      go_end0
      exact ⟨rfl, ⟨_, _, HP.out.1.swap⟩, HK1.out.trans HP.out.2.swap⟩

theorem item_any (w : World) (bs bp : Nat) (S : Nat → Value) (bF n : Nat) (F : Nat → Nat) (x p : Nat) (hS : Srt w bs bp S) (hF : S 0 = .slice (some ⟨bF, 0, none⟩) n n) (hr : w.rowIs bF 3 n (fun j => .int .i64 ((F j : Nat) : Int))) (hx : x < n) (hb : F x + p ≤ 1048576) :
    Calls Try.prog 44 #[.agg #[.int .i64 x, .int .i64 p], .pointer (some ⟨bs, 0, none⟩)] w fun e w' => e = .returned (.int .i64 ((F x + p : Nat) : Int)) ∧ ∃ k, w' = (w.alloc (.cells #[.int .i64 x, .int .i64 p] 49)).drewN k := by
  have c1 := cell_alloc hS.var (.cells #[.int .i64 x, .int .i64 p] 49)
  have c2 := cell_alloc (hS.str.cell (i := 0) (by omega)) (.cells #[.int .i64 x, .int .i64 p] 49)
  have c3 := cell_alloc (hr.cell hx) (.cells #[.int .i64 x, .int .i64 p] 49)
  rw [hF] at c2
  have hi1 : (x : Int) < (n : Int) := by omega
  have k1 : IntKind.i64.wrap ((F x : Int) + (p : Int)) = ((F x + p : Nat) : Int) := by rw [IntKind.wrap_i64]; omega
  clear hS hr hF
  generalize F x = f at *
  go_enter Try.func44, Try.ntmps44
  go_wp2_with fail
  go_quiet (fail)
  go_wp2_with fail
  go_ret
  exact ⟨rfl, _, rfl⟩
end Go.Proofs.Qxb6602369a
