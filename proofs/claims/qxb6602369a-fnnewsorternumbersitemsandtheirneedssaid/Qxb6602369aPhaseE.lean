/-
  SEAT b6602369a. UNITS AND WAITING; WHAT newSorter LEAVES.
-/
import Derived.Test.Qxb6602369aPhaseD
namespace Go.Proofs.Qxb6602369a
open Go.RowKit

/-! ### Plain -/
theorem nb_append (A B : List (Nat × Nat)) (i : Nat) : nb (A ++ B) i = nb A i ++ nb B i := by simp [nb]
theorem nb_row (r : List Nat) (s i : Nat) : nb (r.map (fun b => (s, b))) i = if s = i then r else [] := by
  by_cases h : s = i
  · subst h
    simp [nb, List.filter_map, Function.comp_def]
  · have : (s == i) = false := by simp; omega
    simp [nb, List.filter_map, Function.comp_def, this, h]
theorem nb_edges : ∀ (rows : List (List Nat)) (s i : Nat), nb (edgesFrom s rows) i = if s ≤ i then rows.getD (i - s) [] else []
  | [], s, i => by simp [edgesFrom, nb]
  | r :: rows, s, i => by
    rw [edgesFrom, nb_append, nb_row, nb_edges rows (s + 1) i]
    by_cases h : s = i
    · subst h
      rw [if_pos rfl, if_neg (by omega), if_pos (Nat.le_refl _)]
      simp
    · by_cases h2 : s ≤ i
      · have h3 : s + 1 ≤ i := by omega
        rw [if_neg h, if_pos h3, if_pos h2, show i - s = (i - (s + 1)) + 1 by omega]
        simp
      · have h3 : ¬ s + 1 ≤ i := by omega
        rw [if_neg h, if_neg h3, if_neg h2]
        rfl
theorem nb_at (nds : List Nd) (n i : Nat) : nb (edges nds n) i = (allRows nds n).getD i [] := by
  unfold edges
  rw [nb_edges, if_pos (Nat.zero_le _), Nat.sub_zero]

/-- The edges of the first k items. -/
def rowEdges (nds : List Nd) (n k : Nat) : List (Nat × Nat) := edgesFrom 0 ((allRows nds n).take k)
theorem rowEdges_succ (nds : List Nd) (n k : Nat) (h : k < first nds n) : rowEdges nds n (k + 1) = rowEdges nds n k ++ (nb (edges nds n) k).map (fun b => (k, b)) := by
  unfold rowEdges
  have hl : k < (allRows nds n).length := by rw [allRows_length]; exact h
  rw [take_snoc _ [] _ hl, edgesFrom_append, nb_at]
  simp [edgesFrom, List.length_take, Nat.min_eq_left (Nat.le_of_lt hl)]
theorem rowEdges_all (nds : List Nd) (n : Nat) : rowEdges nds n (first nds n) = edges nds n := by
  unfold rowEdges edges
  rw [← allRows_length, List.take_length]

theorem rowEdges_mono (nds : List Nd) (n : Nat) {i : Nat} (_h : i < first nds n) : (rowEdges nds n (i + 1)).length ≤ (rowEdges nds n (first nds n)).length := by
  rw [rowEdges_all]
  unfold rowEdges edges
  have := edgesFrom_append ((allRows nds n).take (i + 1)) ((allRows nds n).drop (i + 1)) 0
  rw [List.take_append_drop] at this
  rw [this, List.length_append]
  omega
theorem wt_length (u : Nat → Nat) (E : List (Nat × Nat)) (i : Nat) : wt u E i ≤ E.length := List.length_filter_le _ _
theorem allRows_lt {nds : List Nd} (hN : Named nds) : ∀ n, n ≤ nds.length → ∀ r ∈ allRows nds n, ∀ b ∈ r, b < first nds nds.length
  | 0, _, r, hr => by simp [allRows] at hr
  | n + 1, hn, r, hr => by
    intro b hb
    rw [allRows] at hr
    rcases List.mem_append.1 hr with h | h
    · exact allRows_lt hN n (by omega) r h b hb
    · obtain ⟨h1, h2⟩ := hN n hn
      simp only [rowsOf, List.mem_cons, List.mem_map] at h
      have key : ∀ (rs : List (Int × Int)), (∀ j, j < rs.length → RefOk nds (rs.getD j (0, 0))) → b ∈ rs.map (item nds) → b < first nds nds.length := by
        intro rs hrs hm
        obtain ⟨x, hx, rfl⟩ := List.mem_map.1 hm
        obtain ⟨j, hj, rfl⟩ := List.mem_iff_getElem.1 hx
        have := hrs j hj
        rw [show rs.getD j (0, 0) = rs[j] by simp [List.getD, hj]] at this
        exact item_lt this
      rcases h with rfl | ⟨p, hp, rfl⟩
      · exact key _ h1 hb
      · obtain ⟨i, hi, rfl⟩ := List.mem_iff_getElem.1 hp
        have := h2 i hi
        rw [show (nod nds n).parts.getD i [] = (nod nds n).parts[i] by simp [List.getD, hi]] at this
        rcases List.mem_cons.1 hb with rfl | hb
        · exact first_lt nds hn (Nat.zero_le _)
        · exact key _ this hb
theorem nb_lt {nds : List Nd} (hN : Named nds) (i j : Nat) (hj : j < (nb (edges nds nds.length) i).length) : (nb (edges nds nds.length) i).getD j 0 < first nds nds.length := by
  rw [nb_at] at hj ⊢
  have hi : i < (allRows nds nds.length).length := by
    rcases Nat.lt_or_ge i (allRows nds nds.length).length with h | h
    · exact h
    · rw [show (allRows nds nds.length).getD i [] = [] by simp [List.getD, List.getElem?_eq_none h]] at hj; simp at hj
  have e1 : (allRows nds nds.length).getD i [] = (allRows nds nds.length)[i] := by simp [List.getD, hi]
  rw [e1] at hj ⊢
  refine allRows_lt hN _ (Nat.le_refl _) _ (List.getElem_mem hi) _ ?_
  rw [show (allRows nds nds.length)[i].getD j 0 = (allRows nds nds.length)[i][j] by simp [List.getD, hj]]
  exact List.getElem_mem hj

/-! ### Memory -/
structure PhE (w6 : World) (T bN : Nat) (u v : Nat → Nat) (wr : World) : Prop where
  os : wr.os = w6.os
  tape : wr.tape = w6.tape
  output : wr.output = w6.output
  size : wr.heap.size = w6.heap.size
  blk : ∀ k : Nat, k ≠ bN + 2 → k ≠ bN + 3 → wr.heap[k]? = w6.heap[k]?
  unit : wr.rowIs (bN + 2) 3 T (fun j => .int .i64 ((u j : Nat) : Int))
  wait : wr.rowIs (bN + 3) 3 T (fun j => .int .i64 ((v j : Nat) : Int))

theorem PhE.start {w6 : World} {T bN : Nat} (h1 : w6.rowIs (bN + 2) 3 T (fun _ => .int .i64 0)) (h2 : w6.rowIs (bN + 3) 3 T (fun _ => .int .i64 0)) : PhE w6 T bN (fun _ => 0) (fun _ => 0) w6 :=
  ⟨rfl, rfl, rfl, rfl, fun _ _ _ => rfl, h1, h2⟩
theorem PhE.drewN {w6 wr : World} {T bN : Nat} {u v : Nat → Nat} (h : PhE w6 T bN u v wr) (k : Nat) : PhE w6 T bN u v (wr.drewN k) := ⟨h.os, h.tape, h.output, h.size, h.blk, h.unit, h.wait⟩
theorem PhE.drew {w6 wr : World} {T bN : Nat} {u v : Nat → Nat} (h : PhE w6 T bN u v wr) : PhE w6 T bN u v wr.drew := ⟨h.os, h.tape, h.output, h.size, h.blk, h.unit, h.wait⟩
theorem PhE.setU {w6 wr : World} {T bN : Nat} {u v : Nat → Nat} (h : PhE w6 T bN u v wr) (k x : Nat) : PhE w6 T bN (upd u k x) v (wr.setCell ⟨bN + 2, k, none⟩ (.int .i64 ((x : Nat) : Int))) := by
  refine ⟨h.os, h.tape, h.output, by simpa using h.size, fun q h1 h2 => ?_, (h.unit.set k _).congr (fun j _ => ?_), h.wait.setOther (by simp) _⟩
  · rw [Below.heap_setCell _ _ _ _ h1]; exact h.blk q h1 h2
  · by_cases e : j = k
    · subst e; simp [upd]
    · simp [upd, e]
theorem PhE.setW {w6 wr : World} {T bN : Nat} {u v : Nat → Nat} (h : PhE w6 T bN u v wr) (k x : Nat) : PhE w6 T bN u (upd v k x) (wr.setCell ⟨bN + 3, k, none⟩ (.int .i64 ((x : Nat) : Int))) := by
  refine ⟨h.os, h.tape, h.output, by simpa using h.size, fun q h1 h2 => ?_, h.unit.setOther (by simp) _, (h.wait.set k _).congr (fun j _ => ?_)⟩
  · rw [Below.heap_setCell _ _ _ _ h2]; exact h.blk q h1 h2
  · by_cases e : j = k
    · subst e; simp [upd]
    · simp [upd, e]
theorem PhE.cell {w6 wr : World} {T bN : Nat} {u v : Nat → Nat} (h : PhE w6 T bN u v wr) {p : Addr} {x : Value} (hc : w6.cell? p = some x) (h1 : p.block ≠ bN + 2) (h2 : p.block ≠ bN + 3) : wr.cell? p = some x := by
  rw [World.cell?_of_block (w := w6) (h.blk _ h1 h2)]; exact hc

/-- A row of the two, opened. -/
theorem row_open {w : World} {base : Nat} {v : Value} {xs : List Nat} (h : w.ownsRow base 3 1 v xs.length (nats xs)) : ∃ a c g, v = .slice a xs.length c ∧ (0 < xs.length → a = some ⟨g, 0, none⟩ ∧ base ≤ g) ∧ ∀ j, j < xs.length → w.cell? ⟨g, j, none⟩ = some (.int .i64 ((xs.getD j 0 : Nat) : Int)) := by
  rcases h.2 with ⟨h1, h2⟩ | ⟨g, cap, cur, h1, h2, _⟩
  · exact ⟨none, 0, 0, by rw [h1, h2], fun h => by omega, fun j hj => by omega⟩
  · refine ⟨_, cap, g, h1, fun _ => ⟨rfl, h2⟩, fun j hj => ?_⟩
    have := h.cells (g := g) (by rw [h1]; rfl) j (.int .i64 ((xs.getD j 0 : Nat) : Int)) (by simp [nats, List.getD, hj])
    rw [Addr.add_lit, Nat.zero_add] at this
    exact this

/-- ref's cells when all is numbered. -/
def RefIn (x : World) (lo hi : Nat) (ra : Option Addr) (R : List (Nat × Nat)) : Prop := ∃ g, (0 < R.length → ra = some ⟨g, 0, none⟩ ∧ lo ≤ g ∧ g < hi) ∧ ∀ i, i < R.length → x.cell? ⟨g, i * 2, none⟩ = some (.int .i64 (((R.getD i (0, 0)).1 : Nat) : Int)) ∧ x.cell? ⟨g, i * 2 + 1, none⟩ = some (.int .i64 (((R.getD i (0, 0)).2 : Nat) : Int))
theorem refs_in {w wB x : World} {n T : Nat} {ra : Option Addr} {rc : Nat} {R : List (Nat × Nat)} {F : Nat → Nat} (h : PhB w wB n (.slice ra T rc) R F) (hT : R.length = T) (old : ∀ k : Nat, k < wB.heap.size → k ≠ w.heap.size + 1 → x.heap[k]? = wB.heap[k]?) : RefIn x (w.heap.size + 3) wB.heap.size ra R := by
  rcases h.ref.2 with ⟨h1, h2⟩ | ⟨g, cap, cur, h1, h2, h3, _⟩
  · exact ⟨0, fun h => by omega, fun i hi => by omega⟩
  · have hg : g < wB.heap.size := (Array.getElem?_eq_some_iff.1 h3).1
    simp only [Value.slice.injEq] at h1
    refine ⟨g, fun _ => ⟨h1.1, h2, hg⟩, fun i hi => ?_⟩
    obtain ⟨q1, q2⟩ := refCells_at R i hi
    have c1 := h.ref.cells (g := g) (by rw [h1.1]; rfl) _ _ q1
    have c2 := h.ref.cells (g := g) (by rw [h1.1]; rfl) _ _ q2
    have hb := old g hg (by omega)
    rw [Addr.add_lit, Nat.zero_add] at c1 c2
    constructor
    · rw [World.cell?_of_block (w := wB) hb]; exact c1
    · rw [World.cell?_of_block (w := wB) hb]; exact c2
theorem RefIn.blk {x y : World} {lo hi : Nat} {ra : Option Addr} {R : List (Nat × Nat)} (h : RefIn x lo hi ra R) (hb : ∀ k : Nat, lo ≤ k → k < hi → y.heap[k]? = x.heap[k]?) : RefIn y lo hi ra R := by
  obtain ⟨g, h1, h2⟩ := h
  refine ⟨g, h1, fun i hi => ?_⟩
  obtain ⟨q1, q2, q3⟩ := h1 (by omega)
  have := hb g q2 q3
  exact ⟨by rw [World.cell?_of_block (w := x) this]; exact (h2 i hi).1, by rw [World.cell?_of_block (w := x) this]; exact (h2 i hi).2⟩

/-- The first k nodes' own items. -/
def fst (nds : List Nd) (k : Nat) : Nat → Nat := fun j => if j < k then first nds j else 0

/-- What newSorter leaves. -/
structure Out (nds : List Nd) (w w' : World) (bN T : Nat) (S : Nat → Value) (ra : Option Addr) (rc : Nat) (U V : Nat → Value) : Prop where
  below : Below w.heap.size w w'
  str : w'.rowIs (w.heap.size + 1) 64 8 S
  sy : S 0 = .slice (some ⟨w.heap.size, 0, none⟩) nds.length nds.length ∧ S 1 = .slice ra T rc ∧ S 2 = .slice (some ⟨bN, 0, none⟩) T T ∧ S 3 = .slice (some ⟨bN + 1, 0, none⟩) T T ∧ S 4 = .slice (some ⟨bN + 2, 0, none⟩) T T ∧ S 5 = .slice (some ⟨bN + 3, 0, none⟩) T T ∧ S 6 = .slice (some ⟨bN + 4, 0, none⟩) T T ∧ S 7 = .int .i64 0
  hb : w.heap.size + 3 ≤ bN
  fst : w'.rowIs w.heap.size 3 nds.length (fun j => .int .i64 ((fst nds nds.length j : Nat) : Int))
  ref : RefIn w' (w.heap.size + 3) bN ra (refs nds nds.length)
  jag : Jag w' (bN + 5) bN (bN + 1) T (nb (edges nds nds.length)) (mb (edges nds nds.length)) U V
  unt : w'.rowIs (bN + 2) 3 T (fun j => .int .i64 ((unit nds nds.length j : Nat) : Int))
  wait : w'.rowIs (bN + 3) 3 T (fun j => .int .i64 ((wt (unit nds nds.length) (edges nds nds.length) j : Nat) : Int))
  placed : w'.rowIs (bN + 4) 4 T (fun _ => .bool false)

theorem own_blk {w w' : World} {base e size n : Nat} {v : Value} {xs : List Value} (h : w.ownsRow base e size v n xs) (hb : ∀ k : Nat, base ≤ k → w'.heap[k]? = w.heap[k]?) : w'.ownsRow base e size v n xs := by
  refine ⟨h.1, ?_⟩
  rcases h.2 with hn | ⟨g, cap, cur, h1, h2, h3, rest⟩
  · exact .inl hn
  · exact .inr ⟨g, cap, cur, h1, h2, by rw [hb g h2]; exact h3, rest⟩
theorem Jag.blk {w w' : World} {base bN bM T : Nat} {N M : Nat → List Nat} {U V : Nat → Value} (h : Jag w base bN bM T N M U V) (hb : ∀ k : Nat, k = bN ∨ k = bM ∨ base ≤ k → w'.heap[k]? = w.heap[k]?) (hs : w.heap.size ≤ w'.heap.size) : Jag w' base bN bM T N M U V :=
  ⟨h.needs.of_block (hb _ (.inl rfl)), h.by_.of_block (hb _ (.inr (.inl rfl))), h.ne, h.ltN, h.ltM, fun i hi => own_blk (h.ownN i hi) (fun k hk => hb k (.inr (.inr hk))), fun i hi => own_blk (h.ownM i hi) (fun k hk => hb k (.inr (.inr hk))), h.apNN, h.apMM, h.apNM, Nat.le_trans h.sz hs⟩
end Go.Proofs.Qxb6602369a
