/-
  SEAT b6602369a. PLAIN: THE ITEMS, THEIR ROWS, THE EDGES.
-/
import Derived.Test.Qxb6602369aMem
namespace Go.Proofs.Qxb6602369a

structure Nd where
  needs : List (Int × Int)
  parts : List (List (Int × Int))
  lead : Bool

def nd0 : Nd := ⟨[], [], false⟩
def nod (nds : List Nd) (k : Nat) : Nd := nds.getD k nd0
def pl (nds : List Nd) (k : Nat) : Nat := (nod nds k).parts.length

/-- A node's own item. -/
def first (nds : List Nd) : Nat → Nat
  | 0 => 0
  | k + 1 => first nds k + pl nds k + 1

def item (nds : List Nd) (r : Int × Int) : Nat := first nds r.1.toNat + r.2.toNat

/-- The items' Refs. -/
def refs (nds : List Nd) : Nat → List (Nat × Nat)
  | 0 => []
  | k + 1 => refs nds k ++ (List.range (pl nds k + 1)).map (fun p => (k, p))

/-- What the items of a node need. -/
def rowsOf (nds : List Nd) (k : Nat) : List (List Nat) :=
  (nod nds k).needs.map (item nds) :: (nod nds k).parts.map (fun p => first nds k :: p.map (item nds))

def allRows (nds : List Nd) : Nat → List (List Nat)
  | 0 => []
  | k + 1 => allRows nds k ++ rowsOf nds k

def edgesFrom : Nat → List (List Nat) → List (Nat × Nat)
  | _, [] => []
  | s, r :: rs => r.map (fun b => (s, b)) ++ edgesFrom (s + 1) rs

def edges (nds : List Nd) (k : Nat) : List (Nat × Nat) := edgesFrom 0 (allRows nds k)

/-- The two rows of an item. -/
def nb (E : List (Nat × Nat)) (a : Nat) : List Nat := (E.filter (fun e => e.1 == a)).map Prod.snd
def mb (E : List (Nat × Nat)) (b : Nat) : List Nat := (E.filter (fun e => e.2 == b)).map Prod.fst

theorem nb_push (E : List (Nat × Nat)) (a b : Nat) : upd (nb E) a (nb E a ++ [b]) = nb (E ++ [(a, b)]) := by
  funext j
  by_cases h : j = a
  · subst h
    rw [upd_same]
    simp [nb]
  · rw [upd_other _ _ _ h]
    have : (a == j) = false := by simp; omega
    simp [nb, this]
theorem mb_push (E : List (Nat × Nat)) (a b : Nat) : upd (mb E) b (mb E b ++ [a]) = mb (E ++ [(a, b)]) := by
  funext j
  by_cases h : j = b
  · subst h
    rw [upd_same]
    simp [mb]
  · rw [upd_other _ _ _ h]
    have : (b == j) = false := by simp; omega
    simp [mb, this]
theorem nb_length (E : List (Nat × Nat)) (a : Nat) : (nb E a).length ≤ E.length := by
  unfold nb; rw [List.length_map]; exact List.length_filter_le _ _
theorem mb_length (E : List (Nat × Nat)) (a : Nat) : (mb E a).length ≤ E.length := by
  unfold mb; rw [List.length_map]; exact List.length_filter_le _ _

theorem edgesFrom_append : ∀ (A B : List (List Nat)) (s : Nat), edgesFrom s (A ++ B) = edgesFrom s A ++ edgesFrom (s + A.length) B
  | [], B, s => by simp [edgesFrom]
  | r :: A, B, s => by
    simp only [List.cons_append, edgesFrom, edgesFrom_append A B (s + 1), List.append_assoc, List.length_cons]
    rw [show s + 1 + A.length = s + (A.length + 1) by omega]

theorem rowsOf_length (nds : List Nd) (k : Nat) : (rowsOf nds k).length = pl nds k + 1 := by simp [rowsOf, pl]
theorem allRows_length (nds : List Nd) : ∀ k, (allRows nds k).length = first nds k
  | 0 => rfl
  | k + 1 => by simp only [allRows, List.length_append, allRows_length nds k, rowsOf_length, first]; omega
theorem refs_length (nds : List Nd) : ∀ k, (refs nds k).length = first nds k
  | 0 => rfl
  | k + 1 => by simp only [refs, List.length_append, refs_length nds k, first, List.length_map, List.length_range]; omega

theorem edges_succ (nds : List Nd) (k : Nat) : edges nds (k + 1) = edges nds k ++ edgesFrom (first nds k) (rowsOf nds k) := by
  unfold edges
  rw [allRows, edgesFrom_append, allRows_length, Nat.zero_add]

/-- The edges of a node's needs, and of its first parts. -/
def needEdges (nds : List Nd) (k j : Nat) : List (Nat × Nat) := (((nod nds k).needs.take j).map (item nds)).map (fun b => (first nds k, b))
def partEdges (nds : List Nd) (k i j : Nat) : List (Nat × Nat) := (first nds k + 1 + i, first nds k) :: ((((nod nds k).parts.getD i []).take j).map (item nds)).map (fun b => (first nds k + 1 + i, b))
def upto (nds : List Nd) (k i : Nat) : List (Nat × Nat) := edgesFrom (first nds k) ((nod nds k).needs.map (item nds) :: ((nod nds k).parts.take i).map (fun p => first nds k :: p.map (item nds)))

theorem needEdges_zero (nds : List Nd) (k : Nat) : needEdges nds k 0 = [] := by simp [needEdges]
theorem take_snoc {α : Type} (xs : List α) (d : α) (j : Nat) (h : j < xs.length) : xs.take (j + 1) = xs.take j ++ [xs.getD j d] := by
  rw [List.take_succ_eq_append_getElem h]; simp [List.getD, h]
theorem needEdges_succ (nds : List Nd) (k j : Nat) (h : j < (nod nds k).needs.length) : needEdges nds k (j + 1) = needEdges nds k j ++ [(first nds k, item nds ((nod nds k).needs.getD j (0, 0)))] := by
  simp only [needEdges, take_snoc _ (0, 0) _ h, List.map_append, List.map_cons, List.map_nil]
theorem needEdges_all (nds : List Nd) (k : Nat) : needEdges nds k (nod nds k).needs.length = upto nds k 0 := by
  simp [needEdges, upto, edgesFrom]
theorem partEdges_succ (nds : List Nd) (k i j : Nat) (h : j < ((nod nds k).parts.getD i []).length) : partEdges nds k i (j + 1) = partEdges nds k i j ++ [(first nds k + 1 + i, item nds (((nod nds k).parts.getD i []).getD j (0, 0)))] := by
  simp only [partEdges, take_snoc _ (0, 0) _ h, List.map_append, List.map_cons, List.map_nil, List.cons_append]
theorem upto_succ (nds : List Nd) (k i : Nat) (h : i < pl nds k) : upto nds k (i + 1) = upto nds k i ++ partEdges nds k i ((nod nds k).parts.getD i []).length := by
  unfold upto
  rw [take_snoc _ [] _ h, List.map_append, ← List.cons_append, edgesFrom_append]
  congr 1
  have hl : ((nod nds k).parts.take i).length = i := by simp [pl] at h ⊢; omega
  simp only [List.length_cons, List.length_map, hl, List.map_cons, List.map_nil, edgesFrom, List.append_nil, partEdges, List.take_length]
  rw [show first nds k + (i + 1) = first nds k + 1 + i by omega]
theorem upto_all (nds : List Nd) (k : Nat) : edges nds (k + 1) = edges nds k ++ upto nds k (pl nds k) := by
  rw [edges_succ]
  simp [upto, rowsOf, pl]

theorem upto_mono (nds : List Nd) (k : Nat) : ∀ {i j : Nat}, i ≤ j → j ≤ pl nds k → (upto nds k i).length ≤ (upto nds k j).length
  | i, 0, h, _ => by obtain rfl : i = 0 := by omega
                     exact Nat.le_refl _
  | i, j + 1, h, hj => by
    by_cases e : i = j + 1
    · subst e; exact Nat.le_refl _
    · have := upto_mono nds k (show i ≤ j by omega) (by omega)
      rw [upto_succ nds k j (by omega), List.length_append]
      omega

theorem len_needs (nds : List Nd) (k j : Nat) (h : j ≤ (nod nds k).needs.length) : (edges nds k).length + j ≤ (edges nds (k + 1)).length ∧ (edges nds k ++ needEdges nds k j).length = (edges nds k).length + j := by
  have h2 := upto_mono nds k (Nat.zero_le (pl nds k)) (Nat.le_refl _)
  have h3 : (upto nds k 0).length = (nod nds k).needs.length := by rw [← needEdges_all]; simp [needEdges]
  have h4 : (needEdges nds k j).length = j := by simp [needEdges]; omega
  rw [upto_all]
  simp only [List.length_append, h4]
  exact ⟨by omega, trivial⟩
theorem len_parts (nds : List Nd) (k i j : Nat) (hi : i < pl nds k) (h : j ≤ ((nod nds k).parts.getD i []).length) : (edges nds k).length + (upto nds k i).length + (j + 1) ≤ (edges nds (k + 1)).length ∧ (edges nds k ++ upto nds k i ++ partEdges nds k i j).length = (edges nds k).length + (upto nds k i).length + (j + 1) := by
  have h2 := upto_mono nds k (show i + 1 ≤ pl nds k from hi) (Nat.le_refl _)
  rw [upto_succ nds k i hi] at h2
  have h3 : (partEdges nds k i ((nod nds k).parts.getD i []).length).length = ((nod nds k).parts.getD i []).length + 1 := by simp [partEdges]
  have h4 : (partEdges nds k i j).length = j + 1 := by simp only [partEdges, List.length_cons, List.length_map, List.length_take]; omega
  rw [upto_all]
  simp only [List.length_append, h4, h3] at h2 ⊢
  exact ⟨by omega, trivial⟩
theorem partEdges_zero (nds : List Nd) (k i : Nat) : partEdges nds k i 0 = [(first nds k + 1 + i, first nds k)] := by simp [partEdges]

/-- How many edges there are. -/
def cost (nds : List Nd) : Nat → Nat
  | 0 => 0
  | k + 1 => cost nds k + ((nod nds k).needs.length + ((nod nds k).parts.map (fun p => p.length + 1)).sum)

theorem edgesFrom_length : ∀ (R : List (List Nat)) (s : Nat), (edgesFrom s R).length = (R.map List.length).sum
  | [], s => rfl
  | r :: R, s => by simp [edgesFrom, edgesFrom_length R (s + 1)]
theorem edges_length (nds : List Nd) : ∀ k, (edges nds k).length = cost nds k
  | 0 => rfl
  | k + 1 => by
    rw [edges_succ, List.length_append, edges_length nds k, edgesFrom_length, cost]
    simp [rowsOf, Function.comp_def]

theorem first_mono (nds : List Nd) : ∀ {a b : Nat}, a ≤ b → first nds a ≤ first nds b
  | a, 0, h => by obtain rfl : a = 0 := by omega
                  exact Nat.le_refl _
  | a, b + 1, h => by
    by_cases e : a = b + 1
    · subst e; exact Nat.le_refl _
    · have := first_mono nds (show a ≤ b by omega)
      simp only [first]; omega
theorem first_lt (nds : List Nd) {a b p : Nat} (h : a < b) (hp : p ≤ pl nds a) : first nds a + p < first nds b := by
  have := first_mono nds (show a + 1 ≤ b from h)
  simp only [first] at this
  omega
theorem cost_mono (nds : List Nd) : ∀ {a b : Nat}, a ≤ b → cost nds a ≤ cost nds b
  | a, 0, h => by obtain rfl : a = 0 := by omega
                  exact Nat.le_refl _
  | a, b + 1, h => by
    by_cases e : a = b + 1
    · subst e; exact Nat.le_refl _
    · have := cost_mono nds (show a ≤ b by omega)
      simp only [cost]; omega

/-- All Refs name items. -/
def RefOk (nds : List Nd) (r : Int × Int) : Prop := 0 ≤ r.1 ∧ r.1 < nds.length ∧ 0 ≤ r.2 ∧ r.2 ≤ pl nds r.1.toNat
def Named (nds : List Nd) : Prop := ∀ k, k < nds.length → (∀ j, j < (nod nds k).needs.length → RefOk nds ((nod nds k).needs.getD j (0, 0))) ∧ ∀ i, i < pl nds k → ∀ j, j < ((nod nds k).parts.getD i []).length → RefOk nds (((nod nds k).parts.getD i []).getD j (0, 0))

theorem item_lt {nds : List Nd} {r : Int × Int} (h : RefOk nds r) : item nds r < first nds nds.length := by
  obtain ⟨h1, h2, h3, h4⟩ := h
  exact first_lt nds (by omega) (by omega)

theorem refs_at (nds : List Nd) : ∀ {n a p : Nat}, a < n → p ≤ pl nds a → (refs nds n).getD (first nds a + p) (0, 0) = (a, p)
  | n + 1, a, p, h, hp => by
    simp only [refs]
    by_cases e : a = n
    · subst e
      have hl := refs_length nds a
      have h1 : (refs nds a).length ≤ first nds a + p := by omega
      simp only [List.getD, List.getElem?_append_right h1, hl, Nat.add_sub_cancel_left]
      rw [List.getElem?_map, List.getElem?_range (by omega)]
      rfl
    · have hlt : a < n := by omega
      have := refs_at nds hlt hp
      have h1 : first nds a + p < (refs nds n).length := by rw [refs_length]; exact first_lt nds hlt hp
      simp only [List.getD, List.getElem?_append_left h1]
      exact this

theorem item_of (nds : List Nd) : ∀ {n i : Nat}, i < first nds n → ∃ a p, a < n ∧ p ≤ pl nds a ∧ i = first nds a + p
  | 0, i, h => by simp [first] at h
  | n + 1, i, h => by
    by_cases e : i < first nds n
    · obtain ⟨a, p, h1, h2, h3⟩ := item_of nds e
      exact ⟨a, p, by omega, h2, h3⟩
    · simp only [first] at h
      exact ⟨n, i - first nds n, by omega, by omega, by omega⟩

/-- The unit of an item. -/
def unit (nds : List Nd) (n i : Nat) : Nat := first nds ((refs nds n).getD i (0, 0)).1
theorem unit_at (nds : List Nd) {n a p : Nat} (h : a < n) (hp : p ≤ pl nds a) : unit nds n (first nds a + p) = first nds a := by
  unfold unit
  rw [refs_at nds h hp]

/-- How many needs of a unit lie outside it. -/
def wt (u : Nat → Nat) (E : List (Nat × Nat)) (i : Nat) : Nat := (E.filter (fun e => u e.1 == i && u e.1 != u e.2)).length
theorem wt_hit (u : Nat → Nat) (E : List (Nat × Nat)) (a b : Nat) (h : u a ≠ u b) : upd (wt u E) (u a) (wt u E (u a) + 1) = wt u (E ++ [(a, b)]) := by
  funext i
  by_cases e : i = u a
  · subst e
    rw [upd_same]
    simp [wt, h]
  · rw [upd_other _ _ _ e]
    have : (u a == i) = false := by simp; omega
    simp [wt, this]
theorem wt_miss (u : Nat → Nat) (E : List (Nat × Nat)) (a b : Nat) (h : u a = u b) : wt u E = wt u (E ++ [(a, b)]) := by
  funext i
  simp [wt, h]
end Go.Proofs.Qxb6602369a
