/- Plain: where a struct's fields end within the numbers, each lies behind the one before, and its offset is a number. No program stands in it. -/
import Derived.Test.YtphfjojdiilneaaGreatDoorPsz
set_option linter.unusedVariables false
set_option linter.unusedSimpArgs false
namespace Go.Proofs.YtphfjojdiilneaaGreatDoor
namespace Pl

theorem sum_nonneg {n k : Int} (h : 0 ≤ sum n k) : 0 ≤ n ∧ 0 ≤ k ∧ sum n k = n + k ∧ n + k ≤ 9223372036854775807 := by
  unfold sum at *
  split at h
  · omega
  · rw [if_neg (by assumption)]; omega
theorem up_nonneg {x a : Int} (h : 0 ≤ up x a) : 0 ≤ x := by
  unfold up at h
  split at h <;> omega
theorem fin_neg : ∀ (l : List (Int × Int)) (x : Int), x < 0 → fin x l < 0
  | [], x, h => h
  | (a, s) :: r, x, h => by
    simp only [fin]
    rw [up_neg _ _ h, sum_neg_left _ _ (by omega)]
    exact fin_neg r _ (by omega)
theorem fin_append (l m : List (Int × Int)) (x : Int) : fin x (l ++ m) = fin (fin x l) m := by
  induction l generalizing x with
  | nil => rfl
  | cons p r ih => obtain ⟨a, s⟩ := p; simp only [List.cons_append, fin, ih]
theorem fin_take_nonneg {l : List (Int × Int)} (h : 0 ≤ fin 0 l) (k : Nat) : 0 ≤ fin 0 (l.take k) := by
  refine Int.not_lt.1 fun hn => ?_
  have e := fin_append (l.take k) (l.drop k) 0
  rw [List.take_append_drop] at e
  have := fin_neg (l.drop k) _ hn
  omega
theorem fin_at {l : List (Int × Int)} (h : 0 ≤ fin 0 l) (k : Nat) (hk : k < l.length) :
    0 ≤ fin 0 (l.take k) ∧ 0 ≤ up (fin 0 (l.take k)) (l[k]).1 ∧ 0 ≤ (l[k]).2 ∧ fin 0 (l.take (k + 1)) = up (fin 0 (l.take k)) (l[k]).1 + (l[k]).2 ∧ fin 0 (l.take (k + 1)) ≤ 9223372036854775807 := by
  have h1 := fin_take_nonneg h k
  have h2 := fin_take_nonneg h (k + 1)
  have e := fin_take_succ 0 l k hk
  rw [e] at h2
  obtain ⟨a, b, c, d⟩ := sum_nonneg h2
  exact ⟨h1, a, b, by rw [e, c], by rw [e, c]; exact d⟩
theorem up_apart {x a : Int} (ha : isAl a) (h : 0 ≤ up x a) : x ≤ up x a ∧ up x a - x < a ∧ up x a % a = 0 := by
  have hx := up_nonneg h
  unfold up at *
  rw [if_neg (by omega)] at *
  obtain ⟨_, _, e, _⟩ := sum_nonneg h
  rw [e]
  rcases ha with rfl | rfl | rfl | rfl <;> omega
theorem offs_nonneg {l : List (Int × Int)} (h : 0 ≤ fin 0 l) (k : Nat) (hk : k < (offs 0 l).length) : 0 ≤ (offs 0 l)[k] := by
  have hk' : k < l.length := by rwa [offs_length] at hk
  rw [offs_at 0 l k hk' hk]
  exact (fin_at h k hk').2.1
theorem Alike.exact {r s : Int} (h : Alike r s) (hs : 0 ≤ s) : r = s := by
  unfold Alike at h; omega
theorem prs_append (W M : Int) (l m : List Ty) : prs W M (l ++ m) = prs W M l ++ prs W M m := by simp [prs_map]
theorem offs_append (l m : List (Int × Int)) (x : Int) : offs x (l ++ m) = offs x l ++ offs (fin x l) m := by
  induction l generalizing x with
  | nil => rfl
  | cons p r ih => obtain ⟨a, s⟩ := p; simp only [List.cons_append, offs, fin, ih]
end Pl
end Go.Proofs.YtphfjojdiilneaaGreatDoor
