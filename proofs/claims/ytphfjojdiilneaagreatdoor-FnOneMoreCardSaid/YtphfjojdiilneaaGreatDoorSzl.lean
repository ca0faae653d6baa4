/- Walks of Sizeof at the types that have no parts: pointers, maps, channels, slices, basic types. -/
import Derived.Test.YtphfjojdiilneaaGreatDoorMem
set_option linter.unusedVariables false
set_option linter.unusedSimpArgs false
namespace Go.Proofs.YtphfjojdiilneaaGreatDoor
open Go.RowKit
set_option maxRecDepth 100000 in
set_option maxHeartbeats 800000 in
theorem sz_85 (b p : Nat) (W : Int) (w : World) (hW : w.cell? ⟨p, 0, none⟩ = some (.int .i64 W)) :
    Calls Tryz.prog 36 #[.pointer (some ⟨p, 0, none⟩), (.iface 85 (.pointer (some ⟨b, 0, none⟩)))] w fun e w' => e = .returned (.int .i64 W) ∧ w = w' := by
  have m78 := tam78 (T := 85) (by decide)
  have m60 := tam60 (T := 85) (by decide)
  have m76 := tam76 (T := 85) (by decide)
  have m63 := tam63 (T := 85) (by decide)
  have m77 := tam77 (T := 85) (by decide)
  have m81 := tam81 (T := 85) (by decide)
  have m82 := tam82 (T := 85) (by decide)
  have mt := meth85 b
  go_enter Tryz.func36, Tryz.ntmps36
  go_wp2_with (go_at_call 106; refine (under85_any _ _).mono ?_; rintro e w' ⟨rfl, rfl⟩)
  go_ret
  exact ⟨rfl, rfl⟩
set_option maxRecDepth 100000 in
set_option maxHeartbeats 800000 in
theorem sz_89 (b p : Nat) (W : Int) (w : World) (hW : w.cell? ⟨p, 0, none⟩ = some (.int .i64 W)) :
    Calls Tryz.prog 36 #[.pointer (some ⟨p, 0, none⟩), (.iface 89 (.pointer (some ⟨b, 0, none⟩)))] w fun e w' => e = .returned (.int .i64 W) ∧ w = w' := by
  have m78 := tam78 (T := 89) (by decide)
  have m60 := tam60 (T := 89) (by decide)
  have m76 := tam76 (T := 89) (by decide)
  have m63 := tam63 (T := 89) (by decide)
  have m77 := tam77 (T := 89) (by decide)
  have m81 := tam81 (T := 89) (by decide)
  have m82 := tam82 (T := 89) (by decide)
  have mt := meth89 b
  go_enter Tryz.func36, Tryz.ntmps36
  go_wp2_with (go_at_call 108; refine (under89_any _ _).mono ?_; rintro e w' ⟨rfl, rfl⟩)
  go_ret
  exact ⟨rfl, rfl⟩
set_option maxRecDepth 100000 in
set_option maxHeartbeats 800000 in
theorem sz_91 (b p : Nat) (W : Int) (w : World) (hW : w.cell? ⟨p, 0, none⟩ = some (.int .i64 W)) :
    Calls Tryz.prog 36 #[.pointer (some ⟨p, 0, none⟩), (.iface 91 (.pointer (some ⟨b, 0, none⟩)))] w fun e w' => e = .returned (.int .i64 W) ∧ w = w' := by
  have m78 := tam78 (T := 91) (by decide)
  have m60 := tam60 (T := 91) (by decide)
  have m76 := tam76 (T := 91) (by decide)
  have m63 := tam63 (T := 91) (by decide)
  have m77 := tam77 (T := 91) (by decide)
  have m81 := tam81 (T := 91) (by decide)
  have m82 := tam82 (T := 91) (by decide)
  have mt := meth91 b
  go_enter Tryz.func36, Tryz.ntmps36
  go_wp2_with (go_at_call 110; refine (under91_any _ _).mono ?_; rintro e w' ⟨rfl, rfl⟩)
  go_ret
  exact ⟨rfl, rfl⟩
set_option maxRecDepth 100000 in
set_option maxHeartbeats 800000 in
theorem sz_76 (b p : Nat) (W : Int) (w : World) (hW : w.cell? ⟨p, 0, none⟩ = some (.int .i64 W)) (okW : Pl.okW W) :
    Calls Tryz.prog 36 #[.pointer (some ⟨p, 0, none⟩), (.iface 76 (.pointer (some ⟨b, 0, none⟩)))] w fun e w' => e = .returned (.int .i64 (3 * W)) ∧ w = w' := by
  have m78 := tam78 (T := 76) (by decide)
  have m60 := tam60 (T := 76) (by decide)
  have mt := meth76 b
  have h76 := tah76
  have hb : 4 ≤ W ∧ W ≤ 8 := by unfold Pl.okW at okW; omega
  obtain ⟨hb1, hb2⟩ := hb
  clear okW
  go_enter Tryz.func36, Tryz.ntmps36
  go_wp2_with (go_at_call 97; refine (under76_any _ _).mono ?_; rintro e w' ⟨rfl, rfl⟩)
  go_ret
  exact ⟨ret_int (by omega), rfl⟩

set_option maxRecDepth 100000 in
set_option maxHeartbeats 1600000 in
theorem sz_78 (b p : Nat) (n W : Int) (w : World) (h0 : 0 ≤ n) (h1 : n < 18) (hW : w.cell? ⟨p, 0, none⟩ = some (.int .i64 W)) (okW : Pl.okW W) (hk : w.cell? ⟨b, 0, none⟩ = some (.int .i64 (n + 1))) (hi : w.cell? ⟨b, 1, none⟩ = some (.int .i64 (infoOf n))) (ht : Tab w) :
    Calls Tryz.prog 36 #[.pointer (some ⟨p, 0, none⟩), (.iface 78 (.pointer (some ⟨b, 0, none⟩)))] w fun e w' => e = .returned (.int .i64 (Pl.basicSize W n)) ∧ w = w' := by
  have mt := meth78 b
  have h78 := tah78
  have hb : 4 ≤ W ∧ W ≤ 8 := by unfold Pl.okW at okW; omega
  obtain ⟨hb1, hb2⟩ := hb
  clear okW
  have hty : (bits .and .i64 (infoOf n) 64 == 0) = true := by
    unfold infoOf
    repeat' split
    all_goals decide +kernel
  have HTY := hid hty
  have HT := hid ht
  clear hty ht
  rcases (show n = 0 ∨ n = 1 ∨ n = 2 ∨ n = 3 ∨ n = 4 ∨ n = 5 ∨ n = 6 ∨ n = 7 ∨ n = 8 ∨ n = 9 ∨ n = 10 ∨ n = 11 ∨ n = 12 ∨ n = 13 ∨ n = 14 ∨ n = 15 ∨ n = 16 ∨ n = 17 by omega) with rfl | rfl | rfl | rfl | rfl | rfl | rfl | rfl | rfl | rfl | rfl | rfl | rfl | rfl | rfl | rfl | rfl | rfl
  · simp only [Int.reduceAdd, Int.zero_add] at hk
    have htab : w.cell? ⟨0, 1, none⟩ = some (.int .u8 1) := HT.out 1 (by decide)
    go_enter Tryz.func36, Tryz.ntmps36
    go_wp2_with (first | (go_at_call 101; refine (under78_any _ _).mono ?_; rintro e w' ⟨rfl, rfl⟩) | (go_at_call 52; refine (isTyped_any _ _ _ hi HTY.out).mono ?_; rintro e w' ⟨rfl, rfl⟩) | (go_at_call 40; refine (assert_any _).mono ?_; rintro e w' ⟨rfl, rfl⟩))
    go_ret
    exact ⟨ret_int (by simp [Pl.basicSize]), rfl⟩
  · simp only [Int.reduceAdd, Int.zero_add] at hk
    have htab : w.cell? ⟨0, 2, none⟩ = some (.int .u8 0) := HT.out 2 (by decide)
    go_enter Tryz.func36, Tryz.ntmps36
    go_wp2_with (first | (go_at_call 101; refine (under78_any _ _).mono ?_; rintro e w' ⟨rfl, rfl⟩) | (go_at_call 52; refine (isTyped_any _ _ _ hi HTY.out).mono ?_; rintro e w' ⟨rfl, rfl⟩) | (go_at_call 40; refine (assert_any _).mono ?_; rintro e w' ⟨rfl, rfl⟩))
    go_ret
    exact ⟨ret_int (by simp [Pl.basicSize]), rfl⟩
  · simp only [Int.reduceAdd, Int.zero_add] at hk
    have htab : w.cell? ⟨0, 3, none⟩ = some (.int .u8 1) := HT.out 3 (by decide)
    go_enter Tryz.func36, Tryz.ntmps36
    go_wp2_with (first | (go_at_call 101; refine (under78_any _ _).mono ?_; rintro e w' ⟨rfl, rfl⟩) | (go_at_call 52; refine (isTyped_any _ _ _ hi HTY.out).mono ?_; rintro e w' ⟨rfl, rfl⟩) | (go_at_call 40; refine (assert_any _).mono ?_; rintro e w' ⟨rfl, rfl⟩))
    go_ret
    exact ⟨ret_int (by simp [Pl.basicSize]), rfl⟩
  · simp only [Int.reduceAdd, Int.zero_add] at hk
    have htab : w.cell? ⟨0, 4, none⟩ = some (.int .u8 2) := HT.out 4 (by decide)
    go_enter Tryz.func36, Tryz.ntmps36
    go_wp2_with (first | (go_at_call 101; refine (under78_any _ _).mono ?_; rintro e w' ⟨rfl, rfl⟩) | (go_at_call 52; refine (isTyped_any _ _ _ hi HTY.out).mono ?_; rintro e w' ⟨rfl, rfl⟩) | (go_at_call 40; refine (assert_any _).mono ?_; rintro e w' ⟨rfl, rfl⟩))
    go_ret
    exact ⟨ret_int (by simp [Pl.basicSize]), rfl⟩
  · simp only [Int.reduceAdd, Int.zero_add] at hk
    have htab : w.cell? ⟨0, 5, none⟩ = some (.int .u8 4) := HT.out 5 (by decide)
    go_enter Tryz.func36, Tryz.ntmps36
    go_wp2_with (first | (go_at_call 101; refine (under78_any _ _).mono ?_; rintro e w' ⟨rfl, rfl⟩) | (go_at_call 52; refine (isTyped_any _ _ _ hi HTY.out).mono ?_; rintro e w' ⟨rfl, rfl⟩) | (go_at_call 40; refine (assert_any _).mono ?_; rintro e w' ⟨rfl, rfl⟩))
    go_ret
    exact ⟨ret_int (by simp [Pl.basicSize]), rfl⟩
  · simp only [Int.reduceAdd, Int.zero_add] at hk
    have htab : w.cell? ⟨0, 6, none⟩ = some (.int .u8 8) := HT.out 6 (by decide)
    go_enter Tryz.func36, Tryz.ntmps36
    go_wp2_with (first | (go_at_call 101; refine (under78_any _ _).mono ?_; rintro e w' ⟨rfl, rfl⟩) | (go_at_call 52; refine (isTyped_any _ _ _ hi HTY.out).mono ?_; rintro e w' ⟨rfl, rfl⟩) | (go_at_call 40; refine (assert_any _).mono ?_; rintro e w' ⟨rfl, rfl⟩))
    go_ret
    exact ⟨ret_int (by simp [Pl.basicSize]), rfl⟩
  · simp only [Int.reduceAdd, Int.zero_add] at hk
    have htab : w.cell? ⟨0, 7, none⟩ = some (.int .u8 0) := HT.out 7 (by decide)
    go_enter Tryz.func36, Tryz.ntmps36
    go_wp2_with (first | (go_at_call 101; refine (under78_any _ _).mono ?_; rintro e w' ⟨rfl, rfl⟩) | (go_at_call 52; refine (isTyped_any _ _ _ hi HTY.out).mono ?_; rintro e w' ⟨rfl, rfl⟩) | (go_at_call 40; refine (assert_any _).mono ?_; rintro e w' ⟨rfl, rfl⟩))
    go_ret
    exact ⟨ret_int (by simp [Pl.basicSize]), rfl⟩
  · simp only [Int.reduceAdd, Int.zero_add] at hk
    have htab : w.cell? ⟨0, 8, none⟩ = some (.int .u8 1) := HT.out 8 (by decide)
    go_enter Tryz.func36, Tryz.ntmps36
    go_wp2_with (first | (go_at_call 101; refine (under78_any _ _).mono ?_; rintro e w' ⟨rfl, rfl⟩) | (go_at_call 52; refine (isTyped_any _ _ _ hi HTY.out).mono ?_; rintro e w' ⟨rfl, rfl⟩) | (go_at_call 40; refine (assert_any _).mono ?_; rintro e w' ⟨rfl, rfl⟩))
    go_ret
    exact ⟨ret_int (by simp [Pl.basicSize]), rfl⟩
  · simp only [Int.reduceAdd, Int.zero_add] at hk
    have htab : w.cell? ⟨0, 9, none⟩ = some (.int .u8 2) := HT.out 9 (by decide)
    go_enter Tryz.func36, Tryz.ntmps36
    go_wp2_with (first | (go_at_call 101; refine (under78_any _ _).mono ?_; rintro e w' ⟨rfl, rfl⟩) | (go_at_call 52; refine (isTyped_any _ _ _ hi HTY.out).mono ?_; rintro e w' ⟨rfl, rfl⟩) | (go_at_call 40; refine (assert_any _).mono ?_; rintro e w' ⟨rfl, rfl⟩))
    go_ret
    exact ⟨ret_int (by simp [Pl.basicSize]), rfl⟩
  · simp only [Int.reduceAdd, Int.zero_add] at hk
    have htab : w.cell? ⟨0, 10, none⟩ = some (.int .u8 4) := HT.out 10 (by decide)
    go_enter Tryz.func36, Tryz.ntmps36
    go_wp2_with (first | (go_at_call 101; refine (under78_any _ _).mono ?_; rintro e w' ⟨rfl, rfl⟩) | (go_at_call 52; refine (isTyped_any _ _ _ hi HTY.out).mono ?_; rintro e w' ⟨rfl, rfl⟩) | (go_at_call 40; refine (assert_any _).mono ?_; rintro e w' ⟨rfl, rfl⟩))
    go_ret
    exact ⟨ret_int (by simp [Pl.basicSize]), rfl⟩
  · simp only [Int.reduceAdd, Int.zero_add] at hk
    have htab : w.cell? ⟨0, 11, none⟩ = some (.int .u8 8) := HT.out 11 (by decide)
    go_enter Tryz.func36, Tryz.ntmps36
    go_wp2_with (first | (go_at_call 101; refine (under78_any _ _).mono ?_; rintro e w' ⟨rfl, rfl⟩) | (go_at_call 52; refine (isTyped_any _ _ _ hi HTY.out).mono ?_; rintro e w' ⟨rfl, rfl⟩) | (go_at_call 40; refine (assert_any _).mono ?_; rintro e w' ⟨rfl, rfl⟩))
    go_ret
    exact ⟨ret_int (by simp [Pl.basicSize]), rfl⟩
  · simp only [Int.reduceAdd, Int.zero_add] at hk
    have htab : w.cell? ⟨0, 12, none⟩ = some (.int .u8 0) := HT.out 12 (by decide)
    go_enter Tryz.func36, Tryz.ntmps36
    go_wp2_with (first | (go_at_call 101; refine (under78_any _ _).mono ?_; rintro e w' ⟨rfl, rfl⟩) | (go_at_call 52; refine (isTyped_any _ _ _ hi HTY.out).mono ?_; rintro e w' ⟨rfl, rfl⟩) | (go_at_call 40; refine (assert_any _).mono ?_; rintro e w' ⟨rfl, rfl⟩))
    go_ret
    exact ⟨ret_int (by simp [Pl.basicSize]), rfl⟩
  · simp only [Int.reduceAdd, Int.zero_add] at hk
    have htab : w.cell? ⟨0, 13, none⟩ = some (.int .u8 4) := HT.out 13 (by decide)
    go_enter Tryz.func36, Tryz.ntmps36
    go_wp2_with (first | (go_at_call 101; refine (under78_any _ _).mono ?_; rintro e w' ⟨rfl, rfl⟩) | (go_at_call 52; refine (isTyped_any _ _ _ hi HTY.out).mono ?_; rintro e w' ⟨rfl, rfl⟩) | (go_at_call 40; refine (assert_any _).mono ?_; rintro e w' ⟨rfl, rfl⟩))
    go_ret
    exact ⟨ret_int (by simp [Pl.basicSize]), rfl⟩
  · simp only [Int.reduceAdd, Int.zero_add] at hk
    have htab : w.cell? ⟨0, 14, none⟩ = some (.int .u8 8) := HT.out 14 (by decide)
    go_enter Tryz.func36, Tryz.ntmps36
    go_wp2_with (first | (go_at_call 101; refine (under78_any _ _).mono ?_; rintro e w' ⟨rfl, rfl⟩) | (go_at_call 52; refine (isTyped_any _ _ _ hi HTY.out).mono ?_; rintro e w' ⟨rfl, rfl⟩) | (go_at_call 40; refine (assert_any _).mono ?_; rintro e w' ⟨rfl, rfl⟩))
    go_ret
    exact ⟨ret_int (by simp [Pl.basicSize]), rfl⟩
  · simp only [Int.reduceAdd, Int.zero_add] at hk
    have htab : w.cell? ⟨0, 15, none⟩ = some (.int .u8 8) := HT.out 15 (by decide)
    go_enter Tryz.func36, Tryz.ntmps36
    go_wp2_with (first | (go_at_call 101; refine (under78_any _ _).mono ?_; rintro e w' ⟨rfl, rfl⟩) | (go_at_call 52; refine (isTyped_any _ _ _ hi HTY.out).mono ?_; rintro e w' ⟨rfl, rfl⟩) | (go_at_call 40; refine (assert_any _).mono ?_; rintro e w' ⟨rfl, rfl⟩))
    go_ret
    exact ⟨ret_int (by simp [Pl.basicSize]), rfl⟩
  · simp only [Int.reduceAdd, Int.zero_add] at hk
    have htab : w.cell? ⟨0, 16, none⟩ = some (.int .u8 16) := HT.out 16 (by decide)
    go_enter Tryz.func36, Tryz.ntmps36
    go_wp2_with (first | (go_at_call 101; refine (under78_any _ _).mono ?_; rintro e w' ⟨rfl, rfl⟩) | (go_at_call 52; refine (isTyped_any _ _ _ hi HTY.out).mono ?_; rintro e w' ⟨rfl, rfl⟩) | (go_at_call 40; refine (assert_any _).mono ?_; rintro e w' ⟨rfl, rfl⟩))
    go_ret
    exact ⟨ret_int (by simp [Pl.basicSize]), rfl⟩
  · simp only [Int.reduceAdd, Int.zero_add] at hk
    go_enter Tryz.func36, Tryz.ntmps36
    go_wp2_with (first | (go_at_call 101; refine (under78_any _ _).mono ?_; rintro e w' ⟨rfl, rfl⟩) | (go_at_call 52; refine (isTyped_any _ _ _ hi HTY.out).mono ?_; rintro e w' ⟨rfl, rfl⟩) | (go_at_call 40; refine (assert_any _).mono ?_; rintro e w' ⟨rfl, rfl⟩))
    go_ret
    exact ⟨ret_int (by simp [Pl.basicSize]; omega), rfl⟩
  · simp only [Int.reduceAdd, Int.zero_add] at hk
    go_enter Tryz.func36, Tryz.ntmps36
    go_wp2_with (first | (go_at_call 101; refine (under78_any _ _).mono ?_; rintro e w' ⟨rfl, rfl⟩) | (go_at_call 52; refine (isTyped_any _ _ _ hi HTY.out).mono ?_; rintro e w' ⟨rfl, rfl⟩) | (go_at_call 40; refine (assert_any _).mono ?_; rintro e w' ⟨rfl, rfl⟩))
    go_ret
    exact ⟨ret_int (by simp [Pl.basicSize]), rfl⟩
end Go.Proofs.YtphfjojdiilneaaGreatDoor
