/-
  SEAT b6602327a. THE PLAIN LAWS OF columns.
-/
import Derived.Test.Qxb6602327aColumns
namespace Go.Proofs.Qxb6602327a

theorem getD_drop (hs : List ByteArray) (n i : Nat) : (hs.drop n).getD i str0 = hs.getD (n + i) str0 := by simp [List.getD]

/-- What run answers: column by column. -/
theorem run_spec (hs : List ByteArray) : ∀ (ys : List ByteArray) (next : Nat) (cs : List Nat), run hs next ys = some cs →
    cs.length = ys.length ∧ ∀ i, i < ys.length → (if i = 0 then next else cs.getD (i - 1) 0 + 1) ≤ cs.getD i 0 ∧ cs.getD i 0 < hs.length ∧ hs.getD (cs.getD i 0) str0 = ys.getD i str0 ∧ ∀ j, (if i = 0 then next else cs.getD (i - 1) 0 + 1) ≤ j → j < cs.getD i 0 → hs.getD j str0 ≠ ys.getD i str0
  | [], next, cs, h => by
    cases h
    exact ⟨rfl, fun i hi => by simp at hi⟩
  | x :: r, next, cs, h => by
    rw [run] at h
    cases hf : findAt x (hs.drop next) with
    | none => rw [hf] at h; cases h
    | some j =>
      rw [hf] at h
      obtain ⟨cs', h1, rfl⟩ := Option.map_eq_some_iff.1 h
      obtain ⟨f1, f2, f3⟩ := findAt_some hf
      obtain ⟨g1, g2⟩ := run_spec hs r _ cs' h1
      refine ⟨by simp [g1], fun i hi => ?_⟩
      cases i with
      | zero =>
        simp only [if_true, List.getD_cons_zero]
        refine ⟨by omega, by simp at f1; omega, by rw [← getD_drop]; exact f2, fun j' k1 k2 => ?_⟩
        have := f3 (j' - next) (by omega)
        rw [getD_drop] at this
        rwa [show next + (j' - next) = j' by omega] at this
      | succ i =>
        have := g2 i (by simpa using hi)
        simp only [List.getD_cons_succ, Nat.succ_ne_zero, if_false, Nat.add_sub_cancel]
        cases i with
        | zero => simpa using this
        | succ i => simpa using this

/-- The greedy embedding lies no later than any other. -/
theorem run_embed (hs : List ByteArray) : ∀ (ch : List Nat) (next : Nat), (∀ c ∈ ch, next ≤ c ∧ c < hs.length) → ch.Pairwise (· < ·) →
    ∃ cs, run hs next (ch.map (hs.getD · str0)) = some cs ∧ ∀ i, i < ch.length → cs.getD i 0 ≤ ch.getD i 0
  | [], next, _, _ => ⟨[], rfl, fun i hi => by simp at hi⟩
  | c :: ch, next, h1, h2 => by
    have hc := h1 c (by simp)
    rw [List.pairwise_cons] at h2
    cases hf : findAt (hs.getD c str0) (hs.drop next) with
    | none =>
      have := findAt_none hf (c - next) (by simp; omega)
      rw [getD_drop, show next + (c - next) = c by omega] at this
      exact absurd rfl this
    | some j =>
      obtain ⟨f1, f2, f3⟩ := findAt_some hf
      have hj : j ≤ c - next := by
        rcases Nat.lt_or_ge (c - next) j with q | q
        · have := f3 _ q
          rw [getD_drop, show next + (c - next) = c by omega] at this
          exact absurd rfl this
        · exact q
      obtain ⟨cs, g1, g2⟩ := run_embed hs ch (next + j + 1) (fun c' hc' => ⟨by have := h2.1 c' hc'; omega, (h1 c' (by simp [hc'])).2⟩) h2.2
      refine ⟨(next + j) :: cs, ?_, fun i hi => ?_⟩
      · rw [List.map_cons, run, hf]
        simp only [g1, Option.map_some]
      · cases i with
        | zero => simp; omega
        | succ i => simpa using g2 i (by simpa using hi)

theorem range_getD (r i : Nat) (h : i < r) : (List.range r).getD i 0 = i := by simp [List.getD, h]

theorem append_lo {α : Type} (A B : List α) (d : α) (i : Nat) (h : i < A.length) : (A ++ B).getD i d = A.getD i d := by simp [List.getD, List.getElem?_append_left h]
theorem append_hi {α : Type} (A B : List α) (d : α) (i : Nat) (h : A.length ≤ i) : (A ++ B).getD i d = B.getD (i - A.length) d := by simp [List.getD, List.getElem?_append_right h]

/-- Where a column may start. -/
def lo (cs : List Nat) (r i : Nat) : Nat := if i = r then r else cs.getD (i - 1) 0 + 1

structure Leftmost (xs hs : List ByteArray) (r : Nat) (cs : List Nat) : Prop where
  len : cs.length = xs.length
  rle : r ≤ xs.length
  low : ∀ i, i < r → cs.getD i 0 = i
  high : ∀ i, r ≤ i → i < xs.length → lo cs r i ≤ cs.getD i 0 ∧ cs.getD i 0 < hs.length ∧ hs.getD (cs.getD i 0) str0 = xs.getD i str0 ∧ ∀ j, lo cs r i ≤ j → j < cs.getD i 0 → hs.getD j str0 ≠ xs.getD i str0

theorem columns_spec {xs hs : List ByteArray} {r : Nat} {cs : List Nat} (h : columns xs hs r = some cs) : Leftmost xs hs r cs := by
  unfold columns at h
  split at h
  · cases h
  · rename_i hn
    have h1 : ¬ xs.length < r := fun q => hn (.inl q)
    obtain ⟨cs', h2, rfl⟩ := Option.map_eq_some_iff.1 h
    obtain ⟨g1, g2⟩ := run_spec hs _ _ _ h2
    simp at g1
    have hi' : ∀ i, r ≤ i → (List.range r ++ cs').getD i 0 = cs'.getD (i - r) 0 := fun i hi => by
      rw [append_hi _ _ _ _ (by simpa using hi)]; simp
    refine ⟨by simp [g1]; omega, by omega, fun i hi => ?_, fun i h3 h4 => ?_⟩
    · rw [append_lo _ _ _ _ (by simpa using hi), range_getD _ _ hi]
    · have := g2 (i - r) (by simp; omega)
      have e : lo (List.range r ++ cs') r i = if i - r = 0 then r else cs'.getD (i - r - 1) 0 + 1 := by
        unfold lo
        by_cases q : i = r
        · rw [if_pos q, if_pos (by omega)]
        · rw [if_neg q, if_neg (by omega), hi' (i - 1) (by omega), show i - 1 - r = i - r - 1 by omega]
      rw [e, hi' i h3]
      rw [getD_drop, show r + (i - r) = i by omega] at this
      exact this

/-- The chosen places. -/
def pick (r : Nat) (keep : List Bool) (n : Nat) : List Nat := (List.range n).filter (fun j => decide (j < r) || keep.getD j false)
def texts (hs : List ByteArray) (ch : List Nat) : List ByteArray := ch.map (hs.getD · str0)

theorem pick_succ (r : Nat) (keep : List Bool) (n : Nat) : pick r keep (n + 1) = pick r keep n ++ (if (decide (n < r) || keep.getD n false) then [n] else []) := by
  unfold pick
  rw [List.range_succ, List.filter_append]
  congr 1
  by_cases q : (decide (n < r) || keep.getD n false) = true
  · rw [if_pos q]; exact List.filter_cons_of_pos (p := fun j => decide (j < r) || keep.getD j false) q
  · rw [if_neg q]; exact List.filter_cons_of_neg (p := fun j => decide (j < r) || keep.getD j false) q

theorem pick_length (r : Nat) (keep : List Bool) (n : Nat) : (pick r keep n).length ≤ n := by
  have := List.length_filter_le (fun j => decide (j < r) || keep.getD j false) (List.range n)
  simpa [pick] using this

theorem pick_split (r : Nat) (keep : List Bool) : ∀ (m : Nat), ∃ ch, pick r keep (r + m) = List.range r ++ ch ∧ (∀ c ∈ ch, r ≤ c ∧ c < r + m) ∧ ch.Pairwise (· < ·)
  | 0 => by
    refine ⟨[], ?_, by simp, by simp⟩
    simp only [List.append_nil, Nat.add_zero, pick]
    refine List.filter_eq_self.2 fun a ha => ?_
    simp at ha
    simp [ha]
  | m + 1 => by
    obtain ⟨ch, h1, h2, h3⟩ := pick_split r keep m
    rw [← Nat.add_assoc, pick_succ, h1]
    split
    · refine ⟨ch ++ [r + m], by simp, fun c hc => ?_, ?_⟩
      · rcases List.mem_append.1 hc with q | q
        · have := h2 c q; omega
        · simp at q; omega
      · rw [List.pairwise_append]
        exact ⟨h3, by simp, fun a ha b hb => by simp at hb; have := h2 a ha; omega⟩
    · exact ⟨ch, by simp, fun c hc => by have := h2 c hc; omega, h3⟩

theorem trim_law (hs : List ByteArray) (r : Nat) (keep : List Bool) (hr : r ≤ hs.length) :
    ∃ cs, columns (texts hs (pick r keep hs.length)) hs r = some cs ∧ ∀ i, i < (pick r keep hs.length).length → cs.getD i 0 ≤ (pick r keep hs.length).getD i 0 := by
  obtain ⟨ch, h1, h2, h3⟩ := pick_split r keep (hs.length - r)
  rw [show r + (hs.length - r) = hs.length by omega] at h1 h2
  rw [h1]
  have e1 : (texts hs (List.range r ++ ch)).take r = hs.take r := by
    unfold texts
    rw [List.map_append, List.take_append_of_le_length (by simp), List.take_of_length_le (by simp)]
    apply List.ext_getElem
    · simp; omega
    · intro i k1 k2
      simp at k1
      have : i < hs.length := by omega
      simp [List.getD, this]
  have e2 : (texts hs (List.range r ++ ch)).drop r = ch.map (hs.getD · str0) := by
    unfold texts
    rw [List.map_append, List.drop_append_of_le_length (by simp), List.drop_of_length_le (by simp)]
    rfl
  obtain ⟨cs, g1, g2⟩ := run_embed hs ch r h2 h3
  refine ⟨List.range r ++ cs, ?_, fun i hi => ?_⟩
  · unfold columns
    rw [if_neg ?_, e2, g1]
    · rfl
    · rintro (q | q)
      · simp [texts] at q; omega
      · exact q e1
  · by_cases q : i < r
    · rw [append_lo _ _ _ _ (by simpa using q), append_lo _ _ _ _ (by simpa using q)]
      exact Nat.le_refl _
    · rw [append_hi _ _ _ _ (by simp; omega), append_hi _ _ _ _ (by simp; omega)]
      simp at hi
      simpa using g2 (i - r) (by omega)

/-- Strictly rising, and naming the same texts, all at once. -/
theorem Leftmost.rise {xs hs : List ByteArray} {r : Nat} {cs : List Nat} (h : Leftmost xs hs r cs) (i : Nat) (h0 : 0 < i) (hi : i < xs.length) : cs.getD (i - 1) 0 < cs.getD i 0 := by
  by_cases q : i < r
  · rw [h.low i q, h.low (i - 1) (by omega)]; omega
  · have := (h.high i (by omega) hi).1
    unfold lo at this
    by_cases e : i = r
    · rw [if_pos e] at this
      rw [h.low (i - 1) (by omega)]; omega
    · rw [if_neg e] at this; omega

theorem Leftmost.names {xs hs : List ByteArray} {r : Nat} {cs : List Nat} (h : Leftmost xs hs r cs) (hr : r ≤ hs.length) (ht : xs.take r = hs.take r) (i : Nat) (hi : i < xs.length) : cs.getD i 0 < hs.length ∧ hs.getD (cs.getD i 0) str0 = xs.getD i str0 := by
  by_cases q : i < r
  · rw [h.low i q]
    refine ⟨by omega, ?_⟩
    have h1 : (xs.take r)[i]? = (hs.take r)[i]? := by rw [ht]
    simp only [List.getElem?_take, q, if_true] at h1
    simp [List.getD, h1]
  · exact ⟨(h.high i (by omega) hi).2.1, (h.high i (by omega) hi).2.2.1⟩

theorem columns_take {xs hs : List ByteArray} {r : Nat} {cs : List Nat} (h : columns xs hs r = some cs) : xs.take r = hs.take r := by
  unfold columns at h
  split at h
  · cases h
  · rename_i hn
    exact Classical.byContradiction fun q => hn (.inr q)

/-! ### Subsequences -/
theorem sub_other {A B : List ByteArray} {x y : ByteArray} (h : x ≠ y) : (x :: A).Sublist (y :: B) ↔ (x :: A).Sublist B := by
  constructor
  · intro q
    cases q with
    | cons _ q => exact q
    | cons_cons _ q => exact absurd rfl h
  · exact fun q => q.cons _

theorem findAt_sub {x : ByteArray} {r : List ByteArray} : ∀ {L : List ByteArray} {j : Nat}, findAt x L = some j → ((x :: r).Sublist L ↔ r.Sublist (L.drop (j + 1)))
  | [], _, h => by cases h
  | y :: L, j, h => by
    unfold findAt at h
    by_cases e : x = y
    · rw [if_pos e] at h
      cases h
      subst e
      simp
    · rw [if_neg e] at h
      obtain ⟨j', h1, rfl⟩ := Option.map_eq_some_iff.1 h
      rw [sub_other e, findAt_sub h1]
      simp

theorem run_sub (hs : List ByteArray) : ∀ (ys : List ByteArray) (next : Nat), (run hs next ys).isSome ↔ ys.Sublist (hs.drop next)
  | [], next => by simp [run]
  | x :: r, next => by
    rw [run]
    cases hf : findAt x (hs.drop next) with
    | none =>
      simp only [Option.isSome_none, Bool.false_eq_true, false_iff]
      intro hs'
      have hm : x ∈ hs.drop next := hs'.subset (by simp)
      obtain ⟨i, hi, e⟩ := List.mem_iff_getElem.1 hm
      exact findAt_none hf i hi (by rw [getD_eq hi]; exact e)
    | some j =>
      simp only [Option.isSome_map]
      rw [run_sub hs r, findAt_sub hf, List.drop_drop, Nat.add_assoc]

theorem snoc_same {A B : List ByteArray} {x : ByteArray} : (A ++ [x]).Sublist (B ++ [x]) ↔ A.Sublist B := by
  rw [← List.reverse_sublist]
  simp
theorem snoc_other {A B : List ByteArray} {x y : ByteArray} (h : x ≠ y) : (A ++ [x]).Sublist (B ++ [y]) ↔ (A ++ [x]).Sublist B := by
  rw [← List.reverse_sublist, ← List.reverse_sublist (l₂ := B)]
  simp only [List.reverse_append, List.reverse_cons, List.reverse_nil, List.nil_append, List.cons_append]
  exact sub_other h

/-- The stretch from r up to n. -/
def mid (xs : List ByteArray) (r n : Nat) : List ByteArray := (xs.take n).drop r
theorem mid_snoc (xs : List ByteArray) (r n : Nat) (h1 : r ≤ n) (h2 : n < xs.length) : mid xs r (n + 1) = mid xs r n ++ [xs.getD n str0] := by
  unfold mid
  rw [List.take_succ_eq_append_getElem h2, List.drop_append_of_le_length (by simp; omega), getD_eq h2]
theorem mid_all (xs : List ByteArray) (r : Nat) : mid xs r xs.length = xs.drop r := by simp [mid]
theorem mid_nil (xs : List ByteArray) (r n : Nat) (h : n ≤ r) : mid xs r n = [] := by
  unfold mid
  exact List.drop_eq_nil_of_le (by simp; omega)
theorem mid_pos (xs : List ByteArray) (r n : Nat) (h1 : r < n) (h2 : n ≤ xs.length) : mid xs r n ≠ [] := by
  obtain ⟨m, rfl⟩ : ∃ m, n = m + 1 := ⟨n - 1, by omega⟩
  rw [mid_snoc xs r m (by omega) (by omega)]
  simp

theorem columns_some_iff {xs hs : List ByteArray} {r : Nat} : (columns xs hs r).isSome ↔ ((r ≤ xs.length ∧ xs.take r = hs.take r) ∧ (xs.drop r).Sublist (hs.drop r)) := by
  unfold columns
  split
  · rename_i h
    simp only [Option.isSome_none, Bool.false_eq_true, false_iff]
    rintro ⟨⟨h1, h2⟩, _⟩
    rcases h with q | q
    · omega
    · exact q h2
  · rename_i h
    rw [Option.isSome_map, run_sub]
    constructor
    · intro q
      exact ⟨⟨by have : ¬ xs.length < r := fun q => h (.inl q); omega, Classical.byContradiction fun q => h (.inr q)⟩, q⟩
    · exact fun q => q.2
end Go.Proofs.Qxb6602327a
