import Derived.Test.Qxb6605386aHadAll
namespace Go.Proofs.Qxb6605386a
open Go.RowKit

/-- the list and the map of a keySet that was fed from nothing and has met the different keys D -/
def stL (D : List ByteArray) : List ByteArray := D.take 16
def stM (D : List ByteArray) : Option (List ByteArray) := if D.length ≤ 16 then none else some D

theorem stL_small {D : List ByteArray} (h : D.length ≤ 16) : stL D = D := List.take_of_length_le h
theorem stM_small {D : List ByteArray} (h : D.length ≤ 16) : stM D = none := if_pos h
theorem stM_big {D : List ByteArray} (h : ¬ D.length ≤ 16) : stM D = some D := if_neg h

theorem hadB_st (D : List ByteArray) (key : ByteArray) : hadB (stL D) (stM D) key = hasS D key := by
  by_cases h : D.length ≤ 16
  · rw [stL_small h, stM_small h]; rfl
  · rw [stM_big h]; rfl

theorem hadL_st (D : List ByteArray) (key : ByteArray) : hadL (stL D) (stM D) key = stL (dstep D key) := by
  by_cases h : D.length ≤ 16
  · rw [stL_small h, stM_small h]
    unfold hadL dstep
    by_cases hh : hasS D key = true
    · simp [hh, stL_small h]
    · by_cases hl : D.length < 16
      · simp [hh, hl, stL_small (D := D ++ [key]) (by simp; omega)]
      · have h16 : D.length = 16 := by omega
        simp [hh, stL, h16]
  · rw [stM_big h]
    unfold hadL dstep
    by_cases hh : hasS D key = true
    · simp [hh]
    · simp only [hh]
      unfold stL
      rw [if_neg (by simp), List.take_append_of_le_length (by omega)]

theorem hadM_st (D : List ByteArray) (key : ByteArray) : hadM (stL D) (stM D) key = stM (dstep D key) := by
  by_cases h : D.length ≤ 16
  · rw [stL_small h, stM_small h]
    unfold hadM dstep
    by_cases hh : hasS D key = true
    · simp [hh, stM_small h]
    · by_cases hl : D.length < 16
      · simp [hh, hl, stM_small (D := D ++ [key]) (by simp; omega)]
      · simp only [hh, hl]
        rw [if_neg (by simp), if_neg (by simp), if_neg (by simp), stM_big (by simp; omega)]
  · rw [stM_big h]
    unfold hadM dstep
    by_cases hh : hasS D key = true
    · simp [hh, stM_big h]
    · simp only [hh]
      rw [if_neg (by simp), if_neg (by simp), stM_big (by simp; omega)]

theorem dd_prefix (l : List ByteArray) : ∀ D : List ByteArray, D <+: l.foldl dstep D := by
  induction l with
  | nil => intro D; exact List.prefix_refl _
  | cons x l ih =>
    intro D
    refine List.IsPrefix.trans ?_ (ih (dstep D x))
    unfold dstep
    split
    · exact List.prefix_refl _
    · exact List.prefix_append _ _

theorem dd_take_prefix (ss : List ByteArray) (k : Nat) : dd (ss.take k) <+: dd ss := by
  have h : dd ss = (ss.drop k).foldl dstep (dd (ss.take k)) := by
    unfold dd
    rw [← List.foldl_append, List.take_append_drop]
  rw [h]
  exact dd_prefix _ _

/-- the next different key stands at its place -/
theorem dd_at (ss : List ByteArray) (k : Nat) (h : k < ss.length) (hn : hasS (ss.take k) ss[k] = false) : (dd ss)[(dd (ss.take k)).length]? = some ss[k] ∧ (dd (ss.take k)).length < (dd ss).length := by
  have hp := dd_take_prefix ss (k + 1)
  rw [take_snocS ss k h, dd_snoc] at hp
  unfold dstep at hp
  rw [hasS_dd, hn] at hp
  simp only [Bool.false_eq_true, if_false] at hp
  obtain ⟨t, ht⟩ := hp
  rw [← ht]
  constructor
  · simp
  · simp

theorem mem_dd {l : List ByteArray} {x : ByteArray} (h : x ∈ dd l) : x ∈ l := by
  have : ∀ (l D : List ByteArray), x ∈ l.foldl dstep D → x ∈ D ∨ x ∈ l := by
    intro l
    induction l with
    | nil => intro D h; exact .inl h
    | cons y l ih =>
      intro D h
      rcases ih _ h with h | h
      · unfold dstep at h
        split at h
        · exact .inl h
        · simp at h
          rcases h with h | h
          · exact .inl h
          · exact .inr (by simp [h])
      · exact .inr (by simp [h])
  rcases this l [] h with h | h
  · simp at h
  · exact h

theorem dd_dd (l : List ByteArray) : dd (dd l) = dd l := by
  have : ∀ (n : Nat) (l : List ByteArray), l.length = n → dd (dd l) = dd l := by
    intro n
    induction n with
    | zero => intro l hl; rw [List.length_eq_zero_iff.1 hl]; rfl
    | succ n ih =>
      intro l hl
      have hne : l ≠ [] := by intro e; rw [e] at hl; simp at hl
      have e := List.dropLast_concat_getLast hne
      have hi := ih l.dropLast (by simp; omega)
      rw [← e, dd_snoc]
      by_cases hh : hasS (dd l.dropLast) (l.getLast hne) = true
      · have : dstep (dd l.dropLast) (l.getLast hne) = dd l.dropLast := by simp [dstep, hh]
        rw [this, hi]
      · have : dstep (dd l.dropLast) (l.getLast hne) = dd l.dropLast ++ [l.getLast hne] := by simp [dstep, hh]
        rw [this, dd_snoc, hi, this]
  exact this _ l rfl

theorem hasS_self {l : List ByteArray} {k : Nat} (h : k < l.length) : hasS l l[k] = true := hasS_of_mem h (by simp)

end Go.Proofs.Qxb6605386a
