/- Plain: an array has the size of a struct of as many fields, where an element is not larger than 2 to the 62. No program stands in it. -/
import Derived.Test.YtphfjojdiilneaaGreatDoorPsz
set_option linter.unusedVariables false
set_option linter.unusedSimpArgs false
namespace Go.Proofs.YtphfjojdiilneaaGreatDoor
namespace Pl

theorem Alike.both {a b s : Int} (h : Alike a s) (k : Alike b s) : Alike a b := by
  unfold Alike at *; omega

theorem up_small {S A : Int} (hS : 0 ≤ S) (hS2 : S ≤ 4611686018427387904) (hA : isAl A) : up S A = S + (-(S % A) % A) ∧ S ≤ up S A ∧ up S A ≤ S + 7 ∧ up S A % A = 0 := by
  unfold up sum
  rcases hA with rfl | rfl | rfl | rfl
  all_goals
    rw [if_neg (by omega), if_neg (by omega)]
    omega
theorem up_step {S A P : Int} (hS : 0 ≤ S) (hS2 : S ≤ 4611686018427387904) (hA : isAl A) (hP : 0 ≤ P) (hPA : P % A = 0) (hfit : P + S ≤ 9223372036854775807) :
    up (P + S) A = if P + up S A ≤ 9223372036854775807 then P + up S A else -1 := by
  rw [(up_small hS hS2 hA).1]
  unfold up sum
  rcases hA with rfl | rfl | rfl | rfl
  all_goals
    rw [if_neg (by omega)]
    split <;> split <;> omega

theorem mul_mod {u A : Int} (k : Int) (h : u % A = 0) : (k * u) % A = 0 :=
  Int.emod_eq_zero_of_dvd (Int.dvd_mul_of_dvd_right (Int.dvd_of_emod_eq_zero h))

theorem fin_rep {S A : Int} (hS : 0 ≤ S) (hS2 : S ≤ 4611686018427387904) (hA : isAl A) : ∀ k : Nat, fin 0 (List.replicate (k + 1) (A, S)) = if (k : Int) * up S A + S ≤ 9223372036854775807 then (k : Int) * up S A + S else -1 := by
  obtain ⟨h1, h2, h3, h4⟩ := up_small hS hS2 hA
  intro k
  induction k with
  | zero =>
    simp only [List.replicate, fin, up_zero _ hA.le.1, Int.natCast_zero, Int.zero_mul, Int.zero_add, Nat.zero_add]
    rw [if_pos (by omega), sum_fit _ _ (by omega) hS (by omega)]
    omega
  | succ k ih =>
    rw [List.replicate_succ', fin_snoc, ih]
    have e : ((k + 1 : Nat) : Int) * up S A = (k : Int) * up S A + up S A := by rw [Int.natCast_add, Int.add_mul]; omega
    have hP : 0 ≤ (k : Int) * up S A := Int.mul_nonneg (by omega) (by omega)
    have hm := mul_mod (k : Int) h4
    rw [e]
    generalize (k : Int) * up S A = P at *
    generalize hu : up S A = u at *
    by_cases hfit : P + S ≤ 9223372036854775807
    · rw [if_pos hfit, up_step hS hS2 hA hP hm hfit, hu]
      by_cases h5 : P + u ≤ 9223372036854775807
      · rw [if_pos h5]
        by_cases h6 : P + u + S ≤ 9223372036854775807
        · rw [if_pos h6, sum_fit _ _ (by omega) hS h6]
        · rw [if_neg h6, sum_big _ _ (by omega)]
      · rw [if_neg h5, if_neg (by omega), sum_neg_left _ _ (by omega)]
    · rw [if_neg hfit, if_neg (by omega), up_neg _ _ (by omega), sum_neg_left _ _ (by omega)]

theorem arr_rep {S A : Int} (hS : 0 ≤ S) (hS2 : S ≤ 4611686018427387904) (hA : isAl A) (k : Nat) : arr ((k : Int) + 1) A S = if (k : Int) * up S A + S ≤ 9223372036854775807 then (k : Int) * up S A + S else -1 := by
  obtain ⟨h1, h2, h3, h4⟩ := up_small hS hS2 hA
  have hP : 0 ≤ (k : Int) * up S A := Int.mul_nonneg (by omega) (by omega)
  unfold arr
  rw [if_neg (by omega), Int.add_sub_cancel]
  unfold product
  by_cases hb : (0 : Int) < k ∧ 9223372036854775807 / (k : Int) < up S A
  · have : 9223372036854775807 < up S A * (k : Int) := (Int.ediv_lt_iff_lt_mul hb.1).1 hb.2
    rw [Int.mul_comm] at this
    rw [if_pos (.inr (.inr hb)), if_neg (by omega), sum_neg_left _ _ (by omega)]
  · rw [if_neg (by omega)]
    by_cases h6 : (k : Int) * up S A + S ≤ 9223372036854775807
    · rw [if_pos h6, sum_fit _ _ hP hS h6]
    · rw [if_neg h6, sum_big _ _ (by omega)]

theorem rep_eq (n : Nat) {S A : Int} (hS2 : S ≤ 4611686018427387904) (hA : isAl A) : fin 0 (List.replicate n (A, S)) = arr (n : Int) A S := by
  cases n with
  | zero => simp [fin, arr_zero_len]
  | succ k =>
    by_cases hS : 0 ≤ S
    · rw [fin_rep hS hS2 hA k, Int.natCast_add, show ((1 : Nat) : Int) = 1 from rfl, arr_rep hS hS2 hA k]
    · rw [List.replicate_succ', fin_snoc, sum_neg_right _ _ (by omega), arr_neg _ _ _ (by omega) (by omega)]

theorem sz_rep (n : Nat) (x : Ty) (W M : Int) (okW : okW W) (okM : okM M) (h : sz W M x ≤ 4611686018427387904) : sz W M (.mk 6 0 (List.replicate n x)) = sz W M (.mk 3 n [x]) := by
  have e1 : sz W M (.mk 6 0 (List.replicate n x)) = fin 0 (prs W M (List.replicate n x)) := by simp [sz]
  have e2 : sz W M (.mk 3 n [x]) = arr n (al W M x) (sz W M x) := by simp [sz, prs]
  rw [e1, e2, prs_map, List.map_replicate]
  exact rep_eq n h (al_isAl okW okM x)
end Pl
end Go.Proofs.YtphfjojdiilneaaGreatDoor
