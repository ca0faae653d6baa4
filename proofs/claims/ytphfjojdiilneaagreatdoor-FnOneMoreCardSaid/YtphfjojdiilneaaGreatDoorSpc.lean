/- Walks of the reference's isComplex and basicSize, and of the statements' sizes and zzFits1. -/
import Derived.Test.YtphfjojdiilneaaGreatDoorMem
set_option linter.unusedVariables false
set_option linter.unusedSimpArgs false
namespace Go.Proofs.YtphfjojdiilneaaGreatDoor
open Go.RowKit

/-- It hands back a bool, and makes nothing but new memory. -/
def BoolPost (c : Bool) (w : World) (e : Ending) (w' : World) : Prop := e = .returned (.bool c) ∧ Below w.heap.size w w'
/-- The like with an int64. -/
def IntPost (n : Int) (w : World) (e : Ending) (w' : World) : Prop := e = .returned (.int .i64 n) ∧ Below w.heap.size w w'

set_option maxHeartbeats 400000 in
theorem isCx_no (k n : Int) (hk : k ≠ 0) (sa : Option Addr) (sl sc : Nat) (w : World) : Calls Tryz.prog 31 #[.agg #[.int .i64 k, .int .i64 n, .slice sa sl sc]] w (BoolPost false w) := by
  have hk' : (k == 0) = false := by simpa using hk
  clear hk
  go_enter Tryz.func31, Tryz.ntmps31
  go_wp2
  go_ret
  exact ⟨rfl, (Below.refl _ _).alloc (Nat.le_refl _) _⟩
set_option maxHeartbeats 400000 in
theorem isCx_0 (n : Int) (h14 : n ≠ 14) (h15 : n ≠ 15) (sa : Option Addr) (sl sc : Nat) (w : World) : Calls Tryz.prog 31 #[.agg #[.int .i64 0, .int .i64 n, .slice sa sl sc]] w (BoolPost false w) := by
  have hk' : (n == 14) = false := by simpa using h14
  have hk2 : (n == 15) = false := by simpa using h15
  clear h14 h15
  go_enter Tryz.func31, Tryz.ntmps31
  go_wp2
  go_ret
  exact ⟨rfl, (Below.refl _ _).alloc (Nat.le_refl _) _⟩
set_option maxHeartbeats 400000 in
theorem isCx_14 (n : Int) (h : n = 14 ∨ n = 15) (sa : Option Addr) (sl sc : Nat) (w : World) : Calls Tryz.prog 31 #[.agg #[.int .i64 0, .int .i64 n, .slice sa sl sc]] w (BoolPost true w) := by
  rcases h with rfl | rfl
  all_goals
    go_enter Tryz.func31, Tryz.ntmps31
    go_wp2
    go_ret
    exact ⟨rfl, (Below.refl _ _).alloc (Nat.le_refl _) _⟩

set_option maxHeartbeats 2000000 in
theorem basic_any (W M n : Int) (okW : Pl.okW W) (w : World) : Calls Tryz.prog 32 #[.agg #[.int .i64 W, .int .i64 M], .int .i64 n] w (IntPost (Pl.basicSize W n) w) := by
  have hb : 4 ≤ W ∧ W ≤ 8 := by unfold Pl.okW at okW; omega
  obtain ⟨hb1, hb2⟩ := hb
  clear okW
  have fin : ∀ (r : Int) (o : Obj), r = Pl.basicSize W n → IntPost (Pl.basicSize W n) w (.returned (.int .i64 r)) (w.alloc o) := fun r o h => ⟨ret_int h, (Below.refl _ _).alloc (Nat.le_refl _) _⟩
  have F := hid fin
  clear fin
  rcases (show n = 0 ∨ n = 2 ∨ n = 7 ∨ n = 3 ∨ n = 8 ∨ n = 4 ∨ n = 9 ∨ n = 12 ∨ n = 5 ∨ n = 10 ∨ n = 13 ∨ n = 14 ∨ n = 15 ∨ n = 16 ∨ (n = 1 ∨ n = 6 ∨ n = 11) ∨ n < 0 ∨ 16 < n by omega) with rfl | rfl | rfl | rfl | rfl | rfl | rfl | rfl | rfl | rfl | rfl | rfl | rfl | rfl | h | h | h
  case inr.inr.inr.inr.inr.inr.inr.inr.inr.inr.inr.inr.inr.inr.inl =>
    rcases h with rfl | rfl | rfl
    all_goals
      go_enter Tryz.func32, Tryz.ntmps32
      go_wp2
      go_ret
      exact F.out _ _ rfl
  case inr.inr.inr.inr.inr.inr.inr.inr.inr.inr.inr.inr.inr.inr.inr.inl =>
    go_enter Tryz.func32, Tryz.ntmps32
    go_wp2
    go_ret
    exact F.out _ _ (by unfold Pl.basicSize; rw [if_neg (by omega), if_neg (by omega), if_neg (by omega), if_neg (by omega), if_neg (by omega), if_neg (by omega)])
  case inr.inr.inr.inr.inr.inr.inr.inr.inr.inr.inr.inr.inr.inr.inr.inr =>
    go_enter Tryz.func32, Tryz.ntmps32
    go_wp2
    go_ret
    exact F.out _ _ (by unfold Pl.basicSize; rw [if_neg (by omega), if_neg (by omega), if_neg (by omega), if_neg (by omega), if_neg (by omega), if_neg (by omega)])
  all_goals
    go_enter Tryz.func32, Tryz.ntmps32
    go_wp2
    go_ret
    exact F.out _ _ rfl

set_option maxHeartbeats 400000 in
theorem fits_any (k n : Int) (sa : Option Addr) (sl sc : Nat) (hsl : sl ≤ 9223372036854775807) (w : World) : Calls Tryz.prog 15 #[.agg #[.int .i64 k, .int .i64 n, .slice sa sl sc]] w (BoolPost (decide ((sl : Int) ≤ 2147483647)) w) := by
  by_cases h : (sl : Int) ≤ 2147483647
  · have e : decide ((sl : Int) ≤ 2147483647) = true := by simpa using h
    rw [e]
    clear e
    go_enter Tryz.func15, Tryz.ntmps15
    go_wp2
    go_ret
    exact ⟨rfl, (Below.refl _ _).alloc (Nat.le_refl _) _⟩
  · have e : decide ((sl : Int) ≤ 2147483647) = false := by simpa using h
    rw [e]
    clear e
    go_enter Tryz.func15, Tryz.ntmps15
    go_wp2
    go_ret
    exact ⟨rfl, (Below.refl _ _).alloc (Nat.le_refl _) _⟩

/-- What sizes hands back: a word's size and a greatest alignment. -/
def SizesPost (w : World) (e : Ending) (w' : World) : Prop := ∃ W M : Int, e = .returned (.agg #[.int .i64 W, .int .i64 M]) ∧ Pl.okW W ∧ Pl.okM M ∧ Below w.heap.size w w'

set_option maxHeartbeats 1000000 in
theorem sizes_any (c : Bool) (a : Int) (ha : Pl.in64 a) (w : World) : Calls Tryz.prog 17 #[.bool c, .int .i64 a] w (SizesPost w) := by
  have fin : ∀ (W M : Int) (o1 o2 : Obj), Pl.okW W → Pl.okM M → SizesPost w (.returned (.agg #[.int .i64 W, .int .i64 M])) ((w.alloc o1).alloc o2) := fun W M o1 o2 h1 h2 => ⟨W, M, rfl, h1, h2, ((Below.refl _ _).alloc (Nat.le_refl _) _).alloc (by simp) _⟩
  have F := hid fin
  have hm1 : 0 ≤ a % 5 := Int.emod_nonneg _ (by omega)
  have hm2 : a % 5 < 5 := Int.emod_lt_of_pos _ (by omega)
  clear fin
  go_enter Tryz.func17, Tryz.ntmps17
  go_wp2_with fail
  refine (place_any a 5 _ ha (by omega) (by omega)).mono ?_
  rintro e w' ⟨rfl, rfl⟩
  generalize a % 5 = q at *
  rcases (show q = 0 ∨ q = 1 ∨ q = 2 ∨ q = 3 ∨ q = 4 by omega) with rfl | rfl | rfl | rfl | rfl
  · cases c
    · go_wp2_with fail
      exact bodyPost_ret (v := .agg #[.int .i64 4, .int .i64 1]) (by simp [results, Tryz.results17, go_sem]) rfl (F.out _ _ _ _ (by unfold Pl.okW; omega) (by unfold Pl.okM; omega))
    · go_wp2_with fail
      exact bodyPost_ret (v := .agg #[.int .i64 8, .int .i64 1]) (by simp [results, Tryz.results17, go_sem]) rfl (F.out _ _ _ _ (by unfold Pl.okW; omega) (by unfold Pl.okM; omega))
  · cases c
    · go_wp2_with fail
      exact bodyPost_ret (v := .agg #[.int .i64 4, .int .i64 2]) (by simp [results, Tryz.results17, go_sem]) rfl (F.out _ _ _ _ (by unfold Pl.okW; omega) (by unfold Pl.okM; omega))
    · go_wp2_with fail
      exact bodyPost_ret (v := .agg #[.int .i64 8, .int .i64 2]) (by simp [results, Tryz.results17, go_sem]) rfl (F.out _ _ _ _ (by unfold Pl.okW; omega) (by unfold Pl.okM; omega))
  · cases c
    · go_wp2_with fail
      exact bodyPost_ret (v := .agg #[.int .i64 4, .int .i64 4]) (by simp [results, Tryz.results17, go_sem]) rfl (F.out _ _ _ _ (by unfold Pl.okW; omega) (by unfold Pl.okM; omega))
    · go_wp2_with fail
      exact bodyPost_ret (v := .agg #[.int .i64 8, .int .i64 4]) (by simp [results, Tryz.results17, go_sem]) rfl (F.out _ _ _ _ (by unfold Pl.okW; omega) (by unfold Pl.okM; omega))
  · cases c
    · go_wp2_with fail
      exact bodyPost_ret (v := .agg #[.int .i64 4, .int .i64 8]) (by simp [results, Tryz.results17, go_sem]) rfl (F.out _ _ _ _ (by unfold Pl.okW; omega) (by unfold Pl.okM; omega))
    · go_wp2_with fail
      exact bodyPost_ret (v := .agg #[.int .i64 8, .int .i64 8]) (by simp [results, Tryz.results17, go_sem]) rfl (F.out _ _ _ _ (by unfold Pl.okW; omega) (by unfold Pl.okM; omega))
  · cases c
    · go_wp2_with fail
      exact bodyPost_ret (v := .agg #[.int .i64 4, .int .i64 16]) (by simp [results, Tryz.results17, go_sem]) rfl (F.out _ _ _ _ (by unfold Pl.okW; omega) (by unfold Pl.okM; omega))
    · go_wp2_with fail
      exact bodyPost_ret (v := .agg #[.int .i64 8, .int .i64 16]) (by simp [results, Tryz.results17, go_sem]) rfl (F.out _ _ _ _ (by unfold Pl.okW; omega) (by unfold Pl.okM; omega))
end Go.Proofs.YtphfjojdiilneaaGreatDoor
