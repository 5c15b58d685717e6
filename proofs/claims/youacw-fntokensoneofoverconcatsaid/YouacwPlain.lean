/-
  THE PLAIN PART: rows of numbers as functions, 'does t stand among the first n'. No Go in sight.
-/
import Derived.WalkKit
import Derived.WalkSpells
namespace Go.Proofs.Youacw.Toks
open Go.RowKit

/-- Does t stand among f 0, .., f (n - 1)? -/
def has (f : Nat → Int) : Nat → Int → Bool
  | 0, _ => false
  | n + 1, t => has f n t || f n == t

theorem has_iff (f : Nat → Int) (n : Nat) (t : Int) : has f n t = true ↔ ∃ j, j < n ∧ f j = t := by
  induction n with
  | zero => simp [has]
  | succ n ih =>
    simp only [has, Bool.or_eq_true, ih, beq_iff_eq]
    constructor
    · rintro (⟨j, hj, e⟩ | e)
      · exact ⟨j, by omega, e⟩
      · exact ⟨n, by omega, e⟩
    · rintro ⟨j, hj, e⟩
      by_cases h : j = n
      · subst h; exact .inr e
      · exact .inl ⟨j, by omega, e⟩

theorem has_of_iff {f g : Nat → Int} {n m : Nat} {t : Int} (h : (∃ j, j < n ∧ f j = t) ↔ ∃ j, j < m ∧ g j = t) : has f n t = has g m t := by
  rw [Bool.eq_iff_iff, has_iff, has_iff]; exact h

theorem has_hit {f : Nat → Int} {n k : Nat} {t : Int} (hk : k < n) (h : f k = t) : has f n t = true := (has_iff f n t).2 ⟨k, hk, h⟩

theorem has_miss {f : Nat → Int} {k : Nat} {t : Int} (h0 : has f k t = false) (h : ¬ f k = t) : has f (k + 1) t = false := by
  simp [has, h0, h]

/-- A row of noughts into whose first k places f has been laid. -/
def pre (f : Nat → Int) (k j : Nat) : Int := if j < k then f j else 0

theorem pre_succ (f : Nat → Int) (k n : Nat) : ∀ j, j < n → pre f (k + 1) j = if j = k then f k else pre f k j := by
  intro j _
  unfold pre
  by_cases h : j = k
  · subst h; simp
  · rw [if_neg h]
    by_cases h2 : j < k
    · rw [if_pos h2, if_pos (by omega)]
    · rw [if_neg h2, if_neg (by omega)]

/-! ### The two laws -/
/-- a, and behind it b. -/
def cat (f g : Nat → Int) (n : Nat) (j : Nat) : Int := if j < n then f j else g (j - n)

theorem has_cat (f g : Nat → Int) (n m : Nat) (t : Int) : has (cat f g n) (n + m) t = (has f n t || has g m t) := by
  rw [Bool.eq_iff_iff, Bool.or_eq_true, has_iff, has_iff, has_iff]
  constructor
  · rintro ⟨j, hj, e⟩
    unfold cat at e
    by_cases h : j < n
    · rw [if_pos h] at e; exact .inl ⟨j, h, e⟩
    · rw [if_neg h] at e; exact .inr ⟨j - n, by omega, e⟩
  · rintro (⟨j, hj, e⟩ | ⟨j, hj, e⟩)
    · exact ⟨j, by omega, by unfold cat; rw [if_pos hj]; exact e⟩
    · exact ⟨n + j, by omega, by unfold cat; rw [if_neg (by omega)]; rw [show n + j - n = j by omega]; exact e⟩

theorem pre_cat (f g : Nat → Int) (n m N : Nat) : ∀ j, j < N → pre (cat f g n) (n + (m + 1)) j = if j = n + m then g m else pre (cat f g n) (n + m) j := by
  intro j hj
  rw [← Nat.add_assoc, pre_succ (cat f g n) (n + m) N j hj]
  have e : cat f g n (n + m) = g m := by unfold cat; rw [if_neg (by omega), show n + m - n = m by omega]
  rw [e]

theorem has_last (f : Nat → Int) (n : Nat) (t : Int) : has (fun j => if j = n then t else f j) (n + 1) t = true :=
  has_hit (k := n) (by omega) (by simp)

theorem has_rev (f : Nat → Int) (n : Nat) (t : Int) : has (fun j => f (n - 1 - j)) n t = has f n t := by
  refine has_of_iff ⟨?_, ?_⟩
  · rintro ⟨j, hj, e⟩; exact ⟨n - 1 - j, by omega, e⟩
  · rintro ⟨j, hj, e⟩; exact ⟨n - 1 - j, by omega, by show f (n - 1 - (n - 1 - j)) = t; rw [show n - 1 - (n - 1 - j) = j by omega]; exact e⟩

/-- A row of n noughts into whose last k places the first k of f have been laid, from the end. -/
def suf (f : Nat → Int) (n k j : Nat) : Int := if n ≤ j + k then f (n - 1 - j) else 0

theorem suf_succ (f : Nat → Int) (n k : Nat) (hk : k < n) : ∀ j, j < n → suf f n (k + 1) j = if j = n - 1 - k then f k else suf f n k j := by
  intro j hj
  unfold suf
  by_cases h : j = n - 1 - k
  · rw [if_pos h, if_pos (by omega), show n - 1 - j = k by omega]
  · rw [if_neg h]
    by_cases h2 : n ≤ j + k
    · rw [if_pos h2, if_pos (by omega)]
    · rw [if_neg h2, if_neg (by omega)]

/-- The first k of f, those that are not t. -/
def rest (f : Nat → Int) (t : Int) : Nat → List Int
  | 0 => []
  | k + 1 => if f k = t then rest f t k else rest f t k ++ [f k]

theorem rest_le (f : Nat → Int) (t : Int) (k : Nat) : (rest f t k).length ≤ k := by
  induction k with
  | zero => simp [rest]
  | succ k ih =>
    simp only [rest]
    split
    · omega
    · simp; omega

theorem rest_no (f : Nat → Int) (t : Int) (k : Nat) : ∀ x ∈ rest f t k, ¬ x = t := by
  induction k with
  | zero => simp [rest]
  | succ k ih =>
    intro x hx
    simp only [rest] at hx
    split at hx
    · exact ih x hx
    · rename_i h
      rcases List.mem_append.1 hx with h1 | h1
      · exact ih x h1
      · simp at h1; rw [h1]; exact h

theorem rest_hit {f : Nat → Int} {t : Int} {k : Nat} (h : f k = t) : rest f t (k + 1) = rest f t k := by simp [rest, h]
theorem rest_miss {f : Nat → Int} {t : Int} {k : Nat} (h : ¬ f k = t) : rest f t (k + 1) = rest f t k ++ [f k] := by simp [rest, h]

theorem has_rest (f : Nat → Int) (t : Int) (n : Nat) : has (fun j => (rest f t n).getD j 0) (rest f t n).length t = false := by
  rw [Bool.eq_false_iff]
  intro h
  obtain ⟨j, hj, e⟩ := (has_iff _ _ _).1 h
  have hm : (rest f t n).getD j 0 ∈ rest f t n := by simp [hj]
  exact rest_no f t n _ hm e

end Go.Proofs.Youacw.Toks
