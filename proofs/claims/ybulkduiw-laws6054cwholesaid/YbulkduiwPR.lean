/-
  The plain law of ranks: what sits at place k once sorted is, up to the key, whatever has at most k less and more than k not greater.
-/
import Derived.Test.YbulkduiwPF
import Derived.Sort.AssemblyPlain
namespace Go.Proofs.Ybulkduiw
open Go.Sort

/-- The sorted list. -/
def srt (xs : List Nat) : List Nat := (Sort.sort ltF xs.toArray).toList

theorem srt_length (xs : List Nat) : (srt xs).length = xs.length := by
  have h := (sort_sorts ltF swo xs.toArray).1.1
  simpa [srt] using h

theorem srt_perm (xs : List Nat) : (srt xs).Perm xs := by
  have h := (sort_sorts ltF swo xs.toArray).1
  have h3 := h.2.2
  have e1 : (Sort.sort ltF xs.toArray).size = xs.toArray.size := h.1
  rw [← e1] at h3
  rw [Array.extract_size] at h3
  have e2 : xs.toArray.extract 0 (Sort.sort ltF xs.toArray).size = xs.toArray := by rw [e1, Array.extract_size]
  rw [e2] at h3
  simpa [srt] using h3

theorem srt_sorted (xs : List Nat) (i j : Nat) (hij : i < j) (hj : j < xs.length) : ltF ((srt xs).getD j 0) ((srt xs).getD i 0) = false := by
  have h := (sort_sorts ltF swo xs.toArray).2 i j (Nat.zero_le _) hij (by simpa using hj)
  have e : ∀ t, (Sort.sort ltF xs.toArray)[t]! = (srt xs).getD t 0 := by
    intro t
    unfold srt
    rw [List.getD]
    rw [getElem!_def, ← Array.getElem?_toList]
    cases (Sort.sort ltF xs.toArray).toList[t]? <;> rfl
  rw [e, e] at h
  exact h

theorem countP_all {l : List Nat} {p : Nat → Bool} (h : ∀ j, j < l.length → p (l.getD j 0) = true) : l.countP p = l.length := by
  rw [List.countP_eq_length]
  intro a ha
  obtain ⟨j, hj, rfl⟩ := List.mem_iff_getElem.1 ha
  have := h j hj
  simpa [List.getD, hj] using this

theorem countP_none {l : List Nat} {p : Nat → Bool} (h : ∀ j, j < l.length → p (l.getD j 0) = false) : l.countP p = 0 := by
  rw [List.countP_eq_zero]
  intro a ha
  obtain ⟨j, hj, rfl⟩ := List.mem_iff_getElem.1 ha
  have := h j hj
  rw [List.getD, List.getElem?_eq_getElem hj] at this
  simpa using this

/-- At most k have p where none from place k on has. -/
theorem countP_le {l : List Nat} {p : Nat → Bool} (k : Nat) (h : ∀ j, k ≤ j → j < l.length → p (l.getD j 0) = false) : l.countP p ≤ k := by
  have e : l.countP p = (l.take k).countP p + (l.drop k).countP p := by
    rw [← List.countP_append, List.take_append_drop]
  have h0 : (l.drop k).countP p = 0 := countP_none fun j hj => by
    have hj2 : k + j < l.length := by simp at hj; omega
    have := h (k + j) (by omega) hj2
    simpa [List.getD] using this
  have h1 : (l.take k).countP p ≤ (l.take k).length := List.countP_le_length
  have h2 : (l.take k).length ≤ k := by simp; omega
  omega

/-- More than k have p where all up to place k have. -/
theorem countP_gt {l : List Nat} {p : Nat → Bool} (k : Nat) (hk : k < l.length) (h : ∀ j, j ≤ k → p (l.getD j 0) = true) : k < l.countP p := by
  have e : l.countP p = (l.take (k + 1)).countP p + (l.drop (k + 1)).countP p := by
    rw [← List.countP_append, List.take_append_drop]
  have h0 : (l.take (k + 1)).countP p = (l.take (k + 1)).length := countP_all fun j hj => by
    have hj2 : j < k + 1 := by simp at hj; omega
    have := h j (by omega)
    simpa [List.getD, List.getElem?_take, hj2] using this
  have h2 : (l.take (k + 1)).length = k + 1 := by simp; omega
  omega

def Hit (xs : List Nat) (k e : Nat) : Prop := xs.countP (fun y => ltF y e) ≤ k ∧ k < xs.countP (fun y => !ltF e y)

theorem hit_key {xs : List Nat} {k e : Nat} (hk : k < xs.length) (h : Hit xs k e) : fk e = fk ((srt xs).getD k 0) := by
  obtain ⟨h1, h2⟩ := h
  rw [← (srt_perm xs).countP_eq] at h1 h2
  have hl := srt_length xs
  refine fk_of_not_lt ?_ ?_
  · cases hc : ltF e ((srt xs).getD k 0) with
    | false => rfl
    | true =>
      exfalso
      have : (srt xs).countP (fun y => !ltF e y) ≤ k := countP_le k fun j hj hj2 => by
        have hs : ltF ((srt xs).getD j 0) ((srt xs).getD k 0) = false := by
          rcases Nat.lt_or_ge k j with h | h
          · exact srt_sorted xs k j h (by omega)
          · rw [show j = k by omega]; exact swo.irrefl _
        cases hd : ltF e ((srt xs).getD j 0) with
        | true => rfl
        | false => rw [swo.ntrans _ _ _ hd hs] at hc; cases hc
      omega
  · cases hc : ltF ((srt xs).getD k 0) e with
    | false => rfl
    | true =>
      exfalso
      have : k < (srt xs).countP (fun y => ltF y e) := countP_gt k (by omega) fun j hj => by
        have hs : ltF ((srt xs).getD k 0) ((srt xs).getD j 0) = false := by
          rcases Nat.lt_or_ge j k with h | h
          · exact srt_sorted xs j k h (by omega)
          · rw [show j = k by omega]; exact swo.irrefl _
        cases hd : ltF ((srt xs).getD j 0) e with
        | true => rfl
        | false => rw [swo.ntrans _ _ _ hs hd] at hc; cases hc
      omega

theorem hit_exists {xs : List Nat} {k : Nat} (hk : k < xs.length) : ∃ i, i < xs.length ∧ Hit xs k (xs.getD i 0) := by
  have hl := srt_length xs
  have hmem : (srt xs).getD k 0 ∈ xs := by
    rw [← (srt_perm xs).mem_iff, List.getD, List.getElem?_eq_getElem (by omega)]
    exact List.getElem_mem _
  obtain ⟨i, hi, e⟩ := List.mem_iff_getElem.1 hmem
  refine ⟨i, hi, ?_⟩
  rw [List.getD, List.getElem?_eq_getElem hi]
  show Hit xs k xs[i]
  rw [e]
  unfold Hit
  rw [← (srt_perm xs).countP_eq, ← (srt_perm xs).countP_eq]
  constructor
  · refine countP_le k fun j hj hj2 => ?_
    rcases Nat.lt_or_ge k j with h | h
    · exact srt_sorted xs k j h (by omega)
    · rw [show j = k by omega]; exact swo.irrefl _
  · refine countP_gt k (by omega) fun j hj => ?_
    have hs : ltF ((srt xs).getD k 0) ((srt xs).getD j 0) = false := by
      rcases Nat.lt_or_ge j k with h | h
      · exact srt_sorted xs j k h (by omega)
      · rw [show j = k by omega]; exact swo.irrefl _
    rw [hs]
    rfl

/-- The counts after j elements. -/
def cLt (xs : List Nat) (e j : Nat) : Nat := (xs.take j).countP (fun y => ltF y e)
def cLe (xs : List Nat) (e j : Nat) : Nat := (xs.take j).countP (fun y => !ltF e y)

theorem take_snoc {xs : List Nat} {j : Nat} (h : j < xs.length) : xs.take (j + 1) = xs.take j ++ [xs.getD j 0] := by
  rw [List.take_add_one, List.getD, List.getElem?_eq_getElem h]
  rfl
theorem cLt_succ {xs : List Nat} {e j : Nat} (h : j < xs.length) : cLt xs e (j + 1) = cLt xs e j + (if ltF (xs.getD j 0) e = true then 1 else 0) := by
  unfold cLt
  rw [take_snoc h, List.countP_append, List.countP_singleton]
theorem cLe_succ {xs : List Nat} {e j : Nat} (h : j < xs.length) : cLe xs e (j + 1) = cLe xs e j + (if ltF e (xs.getD j 0) = true then 0 else 1) := by
  unfold cLe
  rw [take_snoc h, List.countP_append, List.countP_singleton]
  cases ltF e (xs.getD j 0) <;> rfl
theorem cLt_le (xs : List Nat) (e j : Nat) : cLt xs e j ≤ j := by
  have h1 : (xs.take j).countP (fun y => ltF y e) ≤ (xs.take j).length := List.countP_le_length
  have h2 : (xs.take j).length ≤ j := by simp; omega
  exact Nat.le_trans h1 h2
theorem cLe_le (xs : List Nat) (e j : Nat) : cLe xs e j ≤ j := by
  have h1 : (xs.take j).countP (fun y => !ltF e y) ≤ (xs.take j).length := List.countP_le_length
  have h2 : (xs.take j).length ≤ j := by simp; omega
  exact Nat.le_trans h1 h2
theorem hit_iff (xs : List Nat) (k e : Nat) : Hit xs k e ↔ cLt xs e xs.length ≤ k ∧ k < cLe xs e xs.length := by
  unfold Hit cLt cLe
  rw [List.take_length]

end Go.Proofs.Ybulkduiw
