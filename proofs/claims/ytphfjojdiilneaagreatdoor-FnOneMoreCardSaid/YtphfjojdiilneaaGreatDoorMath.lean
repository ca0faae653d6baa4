/- The plain mathematics of the seat: types as trees, their validity, alignment, size and offsets, told by functions on numbers and lists. No program stands in it. -/
import Derived.RowKit
set_option linter.unusedVariables false
set_option linter.unusedSimpArgs false
namespace Go.Proofs.YtphfjojdiilneaaGreatDoor
namespace Pl

/-- A type: its kind, its number, its elements. -/
inductive Ty where
  | mk (k n : Int) (es : List Ty)

def Ty.k : Ty → Int | .mk k _ _ => k
def Ty.n : Ty → Int | .mk _ n _ => n
def Ty.es : Ty → List Ty | .mk _ _ es => es
theorem Ty.eta (t : Ty) : t = .mk t.k t.n t.es := by cases t; rfl

mutual
def depth : Ty → Nat
  | .mk _ _ es => depthL es + 1
def depthL : List Ty → Nat
  | [] => 0
  | t :: r => max (depth t) (depthL r)
end

theorem depth_mem {t : Ty} {l : List Ty} (h : t ∈ l) : depth t ≤ depthL l := by
  induction l with
  | nil => cases h
  | cons x r ih =>
    simp only [depthL]
    cases h with
    | head => omega
    | tail _ h => have := ih h; omega
theorem depth_es {t u : Ty} (h : u ∈ t.es) : depth u < depth t := by
  cases t with
  | mk k n es => have := depth_mem (l := es) h; simp only [depth]; omega
theorem depth_at {t : Ty} {i : Nat} (h : i < t.es.length) : depth t.es[i] < depth t := depth_es (List.getElem_mem h)

/-- How many elements a kind needs. -/
def need (k : Int) (len : Nat) : Nat := if k = 0 then 0 else if k = 4 then 2 else if k = 6 then len else 1

mutual
def valid : Ty → Bool
  | .mk k n es => decide (0 ≤ k) && decide (k ≤ 6) && decide (es.length = need k es.length) && (decide (k = 0 → 0 ≤ n ∧ n < 18)) && (decide (k = 3 → 0 ≤ n)) && validL es
def validL : List Ty → Bool
  | [] => true
  | t :: r => valid t && validL r
end

theorem validL_iff (l : List Ty) : validL l = true ↔ ∀ t ∈ l, valid t = true := by
  induction l with
  | nil => simp [validL]
  | cons x r ih => simp [validL, ih]

mutual
def plain : Ty → Bool
  | .mk k n es => if k = 2 then false else if k = 0 then !(decide (n = 0 ∨ n = 16 ∨ n = 14 ∨ n = 15)) else if k = 3 ∨ k = 6 then plainL es else true
def plainL : List Ty → Bool
  | [] => true
  | t :: r => plain t && plainL r
end

def basicSize (W n : Int) : Int :=
  if n = 0 ∨ n = 2 ∨ n = 7 then 1 else if n = 3 ∨ n = 8 then 2 else if n = 4 ∨ n = 9 ∨ n = 12 then 4
  else if n = 5 ∨ n = 10 ∨ n = 13 ∨ n = 14 then 8 else if n = 15 then 16 else if n = 16 then 2 * W else W

/-- The largest number of a list, at least m. -/
def maxs (m : Int) : List Int → Int
  | [] => m
  | x :: r => maxs (max m x) r

def sum (n k : Int) : Int := if n < 0 ∨ k < 0 ∨ 9223372036854775807 - k < n then -1 else n + k
def product (n k : Int) : Int := if n < 0 ∨ k < 0 ∨ (0 < n ∧ 9223372036854775807 / n < k) then -1 else n * k
def up (n k : Int) : Int := if n < 0 then -1 else sum n (-(n % k) % k)

/-- Offsets of fields, given as pairs of alignment and size, from at on; and where the last one ends. -/
def offs (at_ : Int) : List (Int × Int) → List Int
  | [] => []
  | (a, s) :: r => up at_ a :: offs (sum (up at_ a) s) r
def fin (at_ : Int) : List (Int × Int) → Int
  | [] => at_
  | (a, s) :: r => fin (sum (up at_ a) s) r

/-- An array's size, by its length and its elements' alignment and size. -/
def arr (n a s : Int) : Int := if n = 0 then 0 else sum (product (n - 1) (up s a)) s

mutual
def al (W M : Int) : Ty → Int
  | .mk k n es => if k = 3 ∨ k = 6 then maxs 1 (alL W M es) else if k = 0 then (if n = 16 then W else min (if n = 14 ∨ n = 15 then basicSize W n / 2 else basicSize W n) M) else if k = 2 then W else min W M
def alL (W M : Int) : List Ty → List Int
  | [] => []
  | t :: r => al W M t :: alL W M r
end

theorem alL_map (W M : Int) (l : List Ty) : alL W M l = l.map (al W M) := by
  induction l with
  | nil => rfl
  | cons x r ih => simp [alL, ih]

mutual
def sz (W M : Int) : Ty → Int
  | .mk k n es => if k = 0 then basicSize W n else if k = 2 then 3 * W else if k = 3 then (match prs W M es with | [] => 0 | p :: _ => arr n p.1 p.2) else if k = 6 then fin 0 (prs W M es) else W
def prs (W M : Int) : List Ty → List (Int × Int)
  | [] => []
  | t :: r => (al W M t, sz W M t) :: prs W M r
end

theorem prs_map (W M : Int) (l : List Ty) : prs W M l = l.map fun t => (al W M t, sz W M t) := by
  induction l with
  | nil => rfl
  | cons x r ih => simp [prs, ih]

/-- The same number, or both of something too large. -/
def Alike (a b : Int) : Prop := (a = b ∧ 0 ≤ b) ∨ (a < 0 ∧ b < 0)
/-- An int64. -/
def in64 (n : Int) : Prop := -9223372036854775808 ≤ n ∧ n ≤ 9223372036854775807
/-- A size: -1, or from 0 on. -/
def isSize (n : Int) : Prop := -1 ≤ n ∧ n ≤ 9223372036854775807
theorem isSize.in64 {n : Int} (h : isSize n) : in64 n := ⟨by have := h.1; omega, h.2⟩

theorem sum_size (n k : Int) (hk : k ≤ 9223372036854775807) : isSize (sum n k) := by
  unfold sum isSize; split <;> omega
theorem up_size (n k : Int) (h1 : 1 ≤ k) (h8 : k ≤ 8) : isSize (up n k) := by
  unfold up
  split
  · exact ⟨by omega, by omega⟩
  · refine sum_size _ _ ?_
    have := Int.emod_lt_of_pos (-(n % k)) (show 0 < k by omega)
    omega

/-- The sizes of words, and the greatest alignments. -/
def okW (W : Int) : Prop := W = 4 ∨ W = 8
def okM (M : Int) : Prop := M = 1 ∨ M = 2 ∨ M = 4 ∨ M = 8 ∨ M = 16
/-- An alignment. -/
def isAl (a : Int) : Prop := a = 1 ∨ a = 2 ∨ a = 4 ∨ a = 8
theorem isAl.le {a : Int} (h : isAl a) : 1 ≤ a ∧ a ≤ 8 := by unfold isAl at h; omega

theorem maxs_ge (m : Int) (l : List Int) : m ≤ maxs m l := by
  induction l generalizing m with
  | nil => exact Int.le_refl _
  | cons x r ih => have := ih (max m x); simp only [maxs]; omega
theorem maxs_mem (m : Int) (l : List Int) : maxs m l = m ∨ maxs m l ∈ l := by
  induction l generalizing m with
  | nil => exact .inl rfl
  | cons x r ih =>
    simp only [maxs]
    rcases ih (max m x) with h | h
    · by_cases hx : m ≤ x
      · rw [h, Int.max_eq_right hx]; exact .inr (by simp)
      · rw [h, Int.max_eq_left (by omega)]; exact .inl rfl
    · exact .inr (by simp [h])
theorem maxs_al {m : Int} {l : List Int} (hm : isAl m) (h : ∀ x ∈ l, isAl x) : isAl (maxs m l) := by
  rcases maxs_mem m l with e | e
  · rw [e]; exact hm
  · exact h _ e

theorem al_ok {W M : Int} (hW : okW W) (hM : okM M) : ∀ (d : Nat) (t : Ty), depth t ≤ d → isAl (al W M t) := by
  intro d
  induction d with
  | zero => intro t h; cases t; simp [depth] at h
  | succ d ih =>
    intro t h
    cases t with
    | mk k n es =>
      simp only [depth] at h
      simp only [al]
      split
      · refine maxs_al (.inl rfl) fun x hx => ?_
        rw [alL_map] at hx
        obtain ⟨u, hu, rfl⟩ := List.mem_map.1 hx
        exact ih u (by have := depth_mem hu; omega)
      · unfold okW at hW; unfold okM at hM; unfold isAl basicSize
        split
        · split
          · omega
          · repeat' split
            all_goals omega
        · split <;> omega
theorem al_isAl {W M : Int} (hW : okW W) (hM : okM M) (t : Ty) : isAl (al W M t) := al_ok hW hM _ t (Nat.le_refl _)

theorem fin_size {at_ : Int} (h : isSize at_) : ∀ {l : List (Int × Int)}, (∀ p ∈ l, p.2 ≤ 9223372036854775807) → isSize (fin at_ l)
  | [], _ => h
  | (a, s) :: r, hl => by
    simp only [fin]
    exact fin_size (sum_size _ _ (hl (a, s) (by simp))) fun p hp => hl p (by simp [hp])

theorem basicSize_ok {W : Int} (hW : okW W) (n : Int) : 1 ≤ basicSize W n ∧ basicSize W n ≤ 16 := by
  unfold okW at hW; unfold basicSize
  repeat' split
  all_goals omega

theorem arr_size (n a s : Int) (hs : s ≤ 9223372036854775807) : isSize (arr n a s) := by
  unfold arr
  split
  · exact ⟨by omega, by omega⟩
  · exact sum_size _ _ hs

theorem sz_ok {W M : Int} (hW : okW W) : ∀ (d : Nat) (t : Ty), depth t ≤ d → isSize (sz W M t) := by
  intro d
  induction d with
  | zero => intro t h; cases t; simp [depth] at h
  | succ d ih =>
    intro t h
    cases t with
    | mk k n es =>
      simp only [depth] at h
      have hp : ∀ p ∈ prs W M es, p.2 ≤ 9223372036854775807 := by
        intro p hp
        rw [prs_map] at hp
        obtain ⟨u, hu, rfl⟩ := List.mem_map.1 hp
        exact (ih u (by have := depth_mem hu; omega)).2
      simp only [sz]
      split
      · have := basicSize_ok hW n; exact ⟨by omega, by omega⟩
      · split
        · unfold okW at hW; exact ⟨by omega, by omega⟩
        · split
          · split
            · exact ⟨by omega, by omega⟩
            · rename_i heq
              exact arr_size _ _ _ (hp _ (by rw [heq]; simp))
          · split
            · exact fin_size ⟨by omega, by omega⟩ hp
            · unfold okW at hW; exact ⟨by omega, by omega⟩
theorem sz_isSize {W : Int} (M : Int) (hW : okW W) (t : Ty) : isSize (sz W M t) := sz_ok hW _ t (Nat.le_refl _)

end Pl
end Go.Proofs.YtphfjojdiilneaaGreatDoor
