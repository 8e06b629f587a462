/-
  SEAT b6602369a. THE PLAIN LAWS OF THE SORTER.
-/
import Derived.Test.Qxb6602369aPhaseE
namespace Go.Proofs.Qxb6602369a

theorem allRows_at (nds : List Nd) : ∀ {n a p : Nat}, a < n → p ≤ pl nds a → (allRows nds n).getD (first nds a + p) [] = (rowsOf nds a).getD p []
  | n + 1, a, p, h, hp => by
    simp only [allRows]
    by_cases e : a = n
    · subst e
      have hl := allRows_length nds a
      have h1 : (allRows nds a).length ≤ first nds a + p := by omega
      simp only [List.getD, List.getElem?_append_right h1, hl, Nat.add_sub_cancel_left]
    · have hlt : a < n := by omega
      have := allRows_at nds hlt hp
      have h1 : first nds a + p < (allRows nds n).length := by rw [allRows_length]; exact first_lt nds hlt hp
      simp only [List.getD, List.getElem?_append_left h1]
      exact this

theorem row_zero (nds : List Nd) {n a : Nat} (h : a < n) : nb (edges nds n) (first nds a) = (nod nds a).needs.map (item nds) := by
  rw [nb_at]
  have := allRows_at nds h (Nat.zero_le (pl nds a))
  rw [Nat.add_zero] at this
  rw [this]
  rfl
theorem row_part (nds : List Nd) {n a p : Nat} (h : a < n) (hp : p < pl nds a) : nb (edges nds n) (first nds a + (p + 1)) = first nds a :: ((nod nds a).parts.getD p []).map (item nds) := by
  rw [nb_at, allRows_at nds h (show p + 1 ≤ pl nds a from hp)]
  simp only [rowsOf, List.getD_cons_succ]
  have hp' : p < (nod nds a).parts.length := hp
  simp [List.getD, hp']

theorem refs_item {nds : List Nd} {r : Int × Int} (h : RefOk nds r) : (refs nds nds.length).getD (item nds r) (0, 0) = (r.1.toNat, r.2.toNat) := by
  obtain ⟨h1, h2, h3, h4⟩ := h
  exact refs_at nds (by omega) (by omega)
theorem unit_item {nds : List Nd} {r : Int × Int} (h : RefOk nds r) : unit nds nds.length (item nds r) = first nds r.1.toNat := by
  obtain ⟨h1, h2, h3, h4⟩ := h
  exact unit_at nds (by omega) (by omega)
theorem first_inj (nds : List Nd) {a b p : Nat} (hp : p ≤ pl nds a) (h : first nds a + p = first nds b) : a = b ∧ p = 0 := by
  rcases Nat.lt_trichotomy a b with q | q | q
  · have := first_lt nds q hp; omega
  · subst q; exact ⟨rfl, by omega⟩
  · have := first_lt nds q (Nat.zero_le _); omega

/-- How many Refs name another node. -/
def others (own : Nat) (rs : List (Int × Int)) : Nat := (rs.filter (fun r => r.1 != (own : Int))).length
theorem others_append (own : Nat) (A B : List (Int × Int)) : others own (A ++ B) = others own A + others own B := by simp [others]
def oth (nds : List Nd) (a : Nat) : Nat := others a (nod nds a).needs + ((nod nds a).parts.map (others a)).sum

theorem wt_append (u : Nat → Nat) (A B : List (Nat × Nat)) (i : Nat) : wt u (A ++ B) i = wt u A i + wt u B i := by simp [wt]
theorem wt_row (u : Nat → Nat) (s i : Nat) (r : List Nat) : wt u (r.map (fun b => (s, b))) i = if u s = i then (r.filter (fun b => u s != u b)).length else 0 := by
  by_cases h : u s = i
  · simp [wt, List.filter_map, Function.comp_def, h]
  · have : (u s == i) = false := by simp [h]
    simp [wt, List.filter_map, Function.comp_def, h]

theorem filter_items {nds : List Nd} {m : Nat} : ∀ (rs : List (Int × Int)), (∀ j, j < rs.length → RefOk nds (rs.getD j (0, 0))) → ((rs.map (item nds)).filter (fun b => first nds m != unit nds nds.length b)).length = others m rs
  | [], _ => rfl
  | r :: rs, h => by
    have h0 := h 0 (by simp)
    have hr : RefOk nds r := by simpa using h0
    have ih := filter_items (m := m) rs (fun j hj => by simpa using h (j + 1) (by simpa using hj))
    have e : (first nds m != unit nds nds.length (item nds r)) = (r.1 != (m : Int)) := by
      rw [unit_item hr]
      obtain ⟨h1, h2, h3, h4⟩ := hr
      by_cases q : r.1 = (m : Int)
      · simp [q]
      · have : first nds m ≠ first nds r.1.toNat := fun e => by
          have := (first_inj nds (b := r.1.toNat) (Nat.zero_le (pl nds m)) (by rw [Nat.add_zero]; exact e)).1
          omega
        have e1 : (first nds m != first nds r.1.toNat) = true := bne_iff_ne.2 this
        have e2 : (r.1 != (m : Int)) = true := bne_iff_ne.2 q
        rw [e1, e2]
    simp only [List.map_cons, List.filter, others, e]
    unfold others at ih
    cases hb : (r.1 != (m : Int)) <;> simp [ih]

theorem wt_parts {nds : List Nd} {m i : Nat} (hm : m < nds.length) : ∀ (ps : List (List (Int × Int))) (q : Nat), q + ps.length ≤ pl nds m + 1 → (∀ x ∈ ps, ∀ j, j < x.length → RefOk nds (x.getD j (0, 0))) →
    wt (unit nds nds.length) (edgesFrom (first nds m + q) (ps.map (fun p => first nds m :: p.map (item nds)))) i = if first nds m = i then (ps.map (others m)).sum else 0
  | [], q, _, _ => by simp [edgesFrom, wt]
  | p :: ps, q, hq, h => by
    rw [List.map_cons, edgesFrom, wt_append, wt_row, unit_at nds hm (show q ≤ pl nds m by simp at hq; omega), Nat.add_assoc, wt_parts hm ps (q + 1) (by simp at hq; omega) (fun x hx => h x (by simp [hx]))]
    by_cases e : first nds m = i
    · rw [if_pos e, if_pos e, if_pos e]
      have e2 : (first nds m != unit nds nds.length (first nds m)) = false := by
        have := unit_at nds hm (Nat.zero_le (pl nds m))
        rw [Nat.add_zero] at this
        simp [this]
      rw [List.filter_cons_of_neg (by rw [e2]; simp), filter_items p (h p (by simp))]
      simp
    · rw [if_neg e, if_neg e, if_neg e]

theorem wt_node {nds : List Nd} (hN : Named nds) {m i : Nat} (hm : m < nds.length) : wt (unit nds nds.length) (edgesFrom (first nds m) (rowsOf nds m)) i = if first nds m = i then oth nds m else 0 := by
  obtain ⟨h1, h2⟩ := hN m hm
  unfold rowsOf
  rw [edgesFrom, wt_append, wt_row, wt_parts hm _ 1 (by show 1 + (nod nds m).parts.length ≤ (nod nds m).parts.length + 1; omega) ?_]
  · have := unit_at nds hm (Nat.zero_le (pl nds m))
    rw [Nat.add_zero] at this
    rw [this, filter_items _ h1]
    by_cases e : first nds m = i
    · rw [if_pos e, if_pos e, if_pos e]; rfl
    · rw [if_neg e, if_neg e, if_neg e]
  · intro x hx
    obtain ⟨q, hq, rfl⟩ := List.mem_iff_getElem.1 hx
    have := h2 q hq
    rwa [show (nod nds m).parts.getD q [] = (nod nds m).parts[q] by simp [List.getD, hq]] at this

theorem wt_edges {nds : List Nd} (hN : Named nds) {a p : Nat} (hp : p ≤ pl nds a) : ∀ m, m ≤ nds.length → wt (unit nds nds.length) (edges nds m) (first nds a + p) = if p = 0 ∧ a < m then oth nds a else 0
  | 0, _ => by simp [edges, allRows, edgesFrom, wt]
  | m + 1, hm => by
    rw [edges_succ, wt_append, wt_edges hN hp m (by omega), wt_node hN hm]
    by_cases e : first nds m = first nds a + p
    · obtain ⟨rfl, rfl⟩ := first_inj nds hp e.symm
      rw [if_neg (by omega), if_pos e, if_pos ⟨rfl, by omega⟩]
      omega
    · rw [if_neg e]
      by_cases h : p = 0 ∧ a < m
      · rw [if_pos h, if_pos ⟨h.1, by omega⟩]; rfl
      · rw [if_neg h, if_neg (fun q => h ⟨q.1, ?_⟩)]
        have : a ≠ m := fun q2 => e (by rw [q.1, q2, Nat.add_zero])
        omega
theorem wt_zero {nds : List Nd} (hN : Named nds) {a : Nat} (ha : a < nds.length) : wt (unit nds nds.length) (edges nds nds.length) (first nds a) = oth nds a := by
  have := wt_edges hN (Nat.zero_le (pl nds a)) nds.length (Nat.le_refl _)
  rw [Nat.add_zero, if_pos ⟨rfl, ha⟩] at this
  exact this
theorem wt_part {nds : List Nd} (hN : Named nds) {a p : Nat} (hp : p < pl nds a) : wt (unit nds nds.length) (edges nds nds.length) (first nds a + (p + 1)) = 0 := by
  rw [wt_edges hN (show p + 1 ≤ pl nds a from hp) nds.length (Nat.le_refl _), if_neg (by omega)]

/-! ### The edges turned around -/
theorem mb_append (A B : List (Nat × Nat)) (i : Nat) : mb (A ++ B) i = mb A i ++ mb B i := by simp [mb]
theorem mb_cons (a b i : Nat) (B : List (Nat × Nat)) : mb ((a, b) :: B) i = if b = i then a :: mb B i else mb B i := by
  by_cases h : b = i
  · simp [mb, h]
  · have : (b == i) = false := by simp [h]
    simp [mb, this, h]

/-- The edges that come before entry j of row k. -/
def pre (nds : List Nd) (n k j : Nat) : List (Nat × Nat) := rowEdges nds n k ++ ((nb (edges nds n) k).take j).map (fun b => (k, b))

theorem pre_split (nds : List Nd) (n k j : Nat) (hk : k < first nds n) (hj : j < (nb (edges nds n) k).length) : ∃ rest, edges nds n = pre nds n k j ++ (k, (nb (edges nds n) k).getD j 0) :: rest := by
  unfold pre
  have hl : k < (allRows nds n).length := by rw [allRows_length]; exact hk
  have e1 : (allRows nds n).getD k [] = (allRows nds n)[k] := by simp [List.getD, hl]
  have e2 : nb (edges nds n) k = (allRows nds n)[k] := by rw [nb_at, e1]
  have e3 : allRows nds n = (allRows nds n).take k ++ (allRows nds n)[k] :: (allRows nds n).drop (k + 1) := by
    rw [← List.drop_eq_getElem_cons hl, List.take_append_drop]
  have e4 : edges nds n = rowEdges nds n k ++ ((nb (edges nds n) k).map (fun b => (k, b)) ++ edgesFrom (k + 1) ((allRows nds n).drop (k + 1))) := by
    rw [e2]
    unfold edges rowEdges
    conv => lhs; rw [e3]
    rw [edgesFrom_append]
    simp only [edgesFrom, List.length_take, Nat.min_eq_left (Nat.le_of_lt hl), Nat.zero_add]
  generalize nb (edges nds n) k = row at *
  have e5 : row = row.take j ++ row.getD j 0 :: row.drop (j + 1) := by
    rw [show row.getD j 0 = row[j] by simp [List.getD, hj], ← List.drop_eq_getElem_cons hj, List.take_append_drop]
  refine ⟨(row.drop (j + 1)).map (fun b => (k, b)) ++ edgesFrom (k + 1) ((allRows nds n).drop (k + 1)), ?_⟩
  have e6 : row.map (fun b => (k, b)) = (row.take j).map (fun b => (k, b)) ++ (k, row.getD j 0) :: (row.drop (j + 1)).map (fun b => (k, b)) := by
    conv => lhs; rw [e5]
    rw [List.map_append, List.map_cons]
  rw [e4, e6]
  simp only [List.append_assoc, List.cons_append]

theorem seen_at (nds : List Nd) (n k j : Nat) (hk : k < first nds n) (hj : j < (nb (edges nds n) k).length) :
    (mb (pre nds n k j) ((nb (edges nds n) k).getD j 0)).length < (mb (edges nds n) ((nb (edges nds n) k).getD j 0)).length ∧ (mb (edges nds n) ((nb (edges nds n) k).getD j 0)).getD (mb (pre nds n k j) ((nb (edges nds n) k).getD j 0)).length 0 = k := by
  obtain ⟨rest, h⟩ := pre_split nds n k j hk hj
  generalize (nb (edges nds n) k).getD j 0 = b at *
  generalize pre nds n k j = A at *
  rw [h, mb_append, mb_cons, if_pos rfl]
  constructor
  · simp
  · simp [List.getD]
end Go.Proofs.Qxb6602369a
