/- A part of the walk of laws.FnPartial (part 49): contracts of functions that it comes to, and the plain laws that these lean on. Conditions stand in each contract. -/
import Derived.Test.YtdllckiidegpcaaGreatA42
set_option linter.unusedSimpArgs false
set_option linter.unusedVariables false
set_option maxHeartbeats 4000000
namespace Go.Proofs.YtdllckiidegpcaaGreat
open Go.RowKit
theorem nth_out {m : List Int} {i : Nat} (h : m.length ≤ i) : nth m i = 0 := by simp [nth,List.getElem?_eq_none h]
theorem nth_in {m : List Int} {i : Nat} (h : nth m i = 1) : i < m.length := by
 apply Classical.byContradiction
 intro hn
 rw [nth_out (by omega)] at h
 cases h
theorem meant_iff (m : List Int) (h p : Nat) : meantB m h p = true ↔ ∃ i,p * 2 ^ h ≤ i ∧ i < (p + 1) * 2 ^ h ∧ nth m i = 1 := by
 constructor
 ·intro hm
  apply Classical.byContradiction
  intro hn
  rw [meant_false (fun j h1 h2 _ h4 => hn ⟨j,h1,h2,h4⟩)] at hm
  cases hm
 ·rintro ⟨i,h1,h2,h3⟩
  exact meant_true h1 h2 (nth_in h3) h3
/-- The marked places of a stretch. -/
def marked (m : List Int) (a k : Nat) : List Int := ((List.range' a k).filter fun i => decide (nth m i = 1)).map fun (i : Nat) => (i : Int)
theorem marked_none {m : List Int} {a k : Nat} (h : ∀ i,a ≤ i → i < a + k → nth m i ≠ 1) : marked m a k = [] := by
 unfold marked
 rw [List.filter_eq_nil_iff.mpr]; { rfl }
 intro i hi
 rw [List.mem_range'_1] at hi
 simpa using h i hi.1 hi.2
theorem marked_app (m : List Int) (a k l : Nat) : marked m a (k + l) = marked m a k ++ marked m (a + k) l := by
 unfold marked
 rw [← List.range'_append_1,List.filter_append,List.map_append]
theorem found_marked (m : List Int) (n : Nat) (hn : m.length = n) : ∀ h p,found m n h p = marked m (p * 2 ^ h) (2 ^ h) := by
 intro h
 induction h with
 | zero =>
  intro p
  rw [found]
  simp only [Nat.pow_zero,Nat.mul_one]
  unfold marked
  rw [List.range'_one]
  by_cases hm : nth m p = 1
  ·rw [if_pos ((meant_iff m 0 p).mpr ⟨p,by omega,by omega,hm⟩)]
   simp [hm]
  ·rw [if_neg (by rw [meant_iff]; rintro ⟨i,h1,h2,h3⟩; have : i = p := (by omega); subst this; exact hm h3)]
   simp [hm]
 | succ h ih =>
  intro p
  have e : 2 ^ (h + 1) = 2 ^ h + 2 ^ h := by rw [Nat.pow_succ]; omega
  have e1 : p * 2 ^ (h + 1) = 2 * p * 2 ^ h := by rw [e,Nat.mul_add,← Nat.add_mul]; congr 1; omega
  have e2 : 2 * p * 2 ^ h + 2 ^ h = (2 * p + 1) * 2 ^ h := by rw [Nat.add_mul (2 * p) 1,Nat.one_mul]
  rw [found]
  by_cases hm : meantB m (h + 1) p = true
  ·rw [if_pos hm,ih,e1,e,marked_app,e2]
   congr 1
   split
   ·exact ih _
   ·rename_i hw
    rw [marked_none]
    intro i h1 _ h3
    have h4 := nth_in h3
    unfold wid at hw
    have h5 := Nat.two_pow_pos h
    have h6 : n ≤ (2 * p + 1) * 2 ^ h := by
     have h7 : (n + 2 ^ h - 1) / 2 ^ h < 2 * p + 2 := by omega
     rw [Nat.div_lt_iff_lt_mul h5] at h7
     have h8 : (2 * p + 2) * 2 ^ h = (2 * p + 1) * 2 ^ h + 2 ^ h := by rw [show 2 * p + 2 = (2 * p + 1) + 1 by omega,Nat.add_mul (2 * p + 1) 1,Nat.one_mul]
     omega
    omega
  ·rw [if_neg hm,marked_none]
   intro i h1 h2 h3
   refine hm ((meant_iff m (h + 1) p).mpr ⟨i,h1, ?_,h3⟩)
   rw [Nat.add_mul,Nat.one_mul]; exact h2
theorem hgt_covers_all : ∀ n < 65,n ≤ 2 ^ hgt n := by decide
theorem found_root {m : List Int} {n : Nat} (hm : m.length = n) (hn : n ≤ 64) : found m n (hgt n) 0 = idxs m := by
 rw [found_marked m n hm,Nat.zero_mul]
 have h1 := hgt_covers_all n (by omega)
 have e : 2 ^ hgt n = n + (2 ^ hgt n - n) := by omega
 rw [e,marked_app,marked_none (a := 0 + n)]
 ·rw [List.append_nil]
  unfold marked idxs
  rw [hm,List.range_eq_range']
 ·intro i h1 _ h3
  have := nth_in h3
  omega
end Go.Proofs.YtdllckiidegpcaaGreat
