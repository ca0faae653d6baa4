/- Plain facts on the size of an array, and on the offsets and the end of a struct's fields. No program stands in it. -/
import Derived.Test.YtphfjojdiilneaaGreatDoorMath
set_option linter.unusedVariables false
set_option linter.unusedSimpArgs false
namespace Go.Proofs.YtphfjojdiilneaaGreatDoor
namespace Pl

theorem Alike.neg {a b : Int} (h : Alike a b) (ha : a < 0) : b < 0 := by
  rcases h with ⟨h1, h2⟩ | ⟨_, h2⟩ <;> omega
theorem Alike.eq {a b : Int} (h : Alike a b) (ha : 0 ≤ a) : b = a := by
  rcases h with ⟨h1, h2⟩ | ⟨h1, h2⟩ <;> omega
theorem Alike.of_neg {a b : Int} (ha : a < 0) (hb : b < 0) : Alike a b := .inr ⟨ha, hb⟩
theorem Alike.of_eq {a b : Int} (h : a = b) (hb : 0 ≤ b) : Alike a b := .inl ⟨h, hb⟩

theorem sum_neg_right (n k : Int) (h : k < 0) : sum n k = -1 := by unfold sum; rw [if_pos (by omega)]
theorem sum_neg_left (n k : Int) (h : n < 0) : sum n k = -1 := by unfold sum; rw [if_pos (by omega)]
theorem sum_big (n k : Int) (h : 9223372036854775807 < n + k) : sum n k = -1 := by unfold sum; split <;> omega
theorem sum_fit (n k : Int) (hn : 0 ≤ n) (hk : 0 ≤ k) (h : n + k ≤ 9223372036854775807) : sum n k = n + k := by unfold sum; rw [if_neg (by omega)]
theorem up_neg (n k : Int) (h : n < 0) : up n k = -1 := by unfold up; rw [if_pos h]
theorem up_zero (a : Int) (h : 1 ≤ a) : up 0 a = 0 := by
  unfold up
  rw [if_neg (by omega)]
  have : -(0 % a) % a = 0 := by simp
  rw [this]; rfl

theorem arr_zero_len (a s : Int) : arr 0 a s = 0 := by unfold arr; rw [if_pos rfl]
theorem arr_neg (n a s : Int) (hn : 0 < n) (h : s < 0) : arr n a s = -1 := by
  unfold arr; rw [if_neg (by omega)]; exact sum_neg_right _ _ h
theorem product_neg_right (n k : Int) (h : k < 0) : product n k = -1 := by unfold product; rw [if_pos (by omega)]
theorem arr_upneg (n a s : Int) (hn : 0 < n) (h : up s a < 0) : arr n a s = -1 := by
  unfold arr; rw [if_neg (by omega), product_neg_right _ _ h]; exact sum_neg_left _ _ (by omega)
theorem arr_big (n a s : Int) (hn : 1 < n) (h : 9223372036854775807 / (n - 1) < up s a) : arr n a s = -1 := by
  unfold arr; rw [if_neg (by omega)]
  have : product (n - 1) (up s a) = -1 := by unfold product; rw [if_pos (by omega)]
  rw [this]; exact sum_neg_left _ _ (by omega)
theorem arr_fit (n a s : Int) (hn : 0 < n) (hu : 0 ≤ up s a) (h : n = 1 ∨ ¬ 9223372036854775807 / (n - 1) < up s a) : arr n a s = sum ((n - 1) * up s a) s := by
  unfold arr; rw [if_neg (by omega)]
  have : product (n - 1) (up s a) = (n - 1) * up s a := by
    unfold product
    rw [if_neg]
    rcases h with rfl | h
    · omega
    · omega
  rw [this]
theorem arr_zero (n a : Int) (hn : 0 < n) (ha : 1 ≤ a) : arr n a 0 = 0 := by
  have hu := up_zero a ha
  rw [arr_fit n a 0 hn (by omega) ?_, hu]
  · simp [sum]
  · by_cases h1 : n = 1
    · exact .inl h1
    · refine .inr ?_
      rw [hu]
      have : 0 ≤ 9223372036854775807 / (n - 1) := Int.ediv_nonneg (by omega) (by omega)
      omega

theorem fin_snoc (x a s : Int) (l : List (Int × Int)) : fin x (l ++ [(a, s)]) = sum (up (fin x l) a) s := by
  induction l generalizing x with
  | nil => rfl
  | cons p r ih => obtain ⟨b, t⟩ := p; simp only [List.cons_append, fin, ih]
theorem offs_length (x : Int) (l : List (Int × Int)) : (offs x l).length = l.length := by
  induction l generalizing x with
  | nil => rfl
  | cons p r ih => obtain ⟨b, t⟩ := p; simp only [offs, List.length_cons, ih]
theorem offs_at (x : Int) (l : List (Int × Int)) (k : Nat) (h : k < l.length) (h' : k < (offs x l).length) : (offs x l)[k] = up (fin x (l.take k)) (l[k]).1 := by
  induction l generalizing x k with
  | nil => simp at h
  | cons p r ih =>
    obtain ⟨b, t⟩ := p
    cases k with
    | zero => rfl
    | succ k =>
      simp only [offs, List.getElem_cons_succ, List.take_succ_cons, fin]
      exact ih _ _ (by simpa using h) _
theorem fin_take_succ (x : Int) (l : List (Int × Int)) (k : Nat) (h : k < l.length) : fin x (l.take (k + 1)) = sum (up (fin x (l.take k)) (l[k]).1) (l[k]).2 := by
  rw [List.take_succ_eq_append_getElem h, ← fin_snoc]

theorem prs_length (W M : Int) (l : List Ty) : (prs W M l).length = l.length := by rw [prs_map]; simp
theorem prs_at (W M : Int) (l : List Ty) (k : Nat) (h : k < l.length) (h' : k < (prs W M l).length) : (prs W M l)[k] = (al W M l[k], sz W M l[k]) := by
  simp [prs_map]

end Pl
end Go.Proofs.YtphfjojdiilneaaGreatDoor
