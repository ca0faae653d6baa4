/- Walks of the small functions that only reckon with numbers: sum, product, up, align, assert, place, alike. -/
import Derived.Test.YtphfjojdiilneaaGreatDoorRows
import Derived.Test.YtphfjojdiilneaaGreatDoorMath
import Derived.WalkKit
import Derived.WalkSpells
import Derived.WalkLawsBesides
set_option linter.unusedVariables false
set_option linter.unusedSimpArgs false
namespace Go.Proofs.YtphfjojdiilneaaGreatDoor
open Go.RowKit
theorem hid {p : Prop} (h : p) : Hid p := h
theorem ret_int {k : IntKind} {a b : Int} (h : a = b) : Ending.returned (.int k a) = .returned (.int k b) := by rw [h]
theorem ret_bool {a b : Bool} (h : a = b) : Ending.returned (.bool a) = .returned (.bool b) := by rw [h]

set_option maxHeartbeats 400000 in
theorem sum_any (n k : Int) (w : World) (hn : Pl.in64 n) (hk : Pl.in64 k) :
    Calls Tryz.prog 33 #[.int .i64 n, .int .i64 k] w fun e w' => e = .returned (.int .i64 (Pl.sum n k)) ∧ w = w' := by
  obtain ⟨hn1, hn2⟩ := hn
  obtain ⟨hk1, hk2⟩ := hk
  by_cases h1 : n < 0
  · have hs : Pl.sum n k = -1 := by unfold Pl.sum; rw [if_pos (by omega)]
    rw [hs]
    go_enter Tryz.func33, Tryz.ntmps33
    go_wp2
    go_ret
    exact ⟨rfl, rfl⟩
  · by_cases h2 : k < 0
    · have hs : Pl.sum n k = -1 := by unfold Pl.sum; rw [if_pos (by omega)]
      rw [hs]
      go_enter Tryz.func33, Tryz.ntmps33
      go_wp2
      go_ret
      exact ⟨rfl, rfl⟩
    · by_cases h3 : 9223372036854775807 - k < n
      · have hs : Pl.sum n k = -1 := by unfold Pl.sum; rw [if_pos (by omega)]
        rw [hs]
        go_enter Tryz.func33, Tryz.ntmps33
        go_wp2
        go_ret
        exact ⟨rfl, rfl⟩
      · have hs : Pl.sum n k = n + k := by unfold Pl.sum; rw [if_neg (by omega)]
        rw [hs]
        go_enter Tryz.func33, Tryz.ntmps33
        go_wp2
        go_ret
        exact ⟨rfl, rfl⟩

theorem mul_bound {n k : Int} (hn : 0 < n) (hk : 0 ≤ k) (h : ¬ 9223372036854775807 / n < k) : 0 ≤ n * k ∧ n * k ≤ 9223372036854775807 := by
  refine ⟨Int.mul_nonneg (by omega) hk, ?_⟩
  have h1 : k ≤ 9223372036854775807 / n := by omega
  have h2 : n * k ≤ n * (9223372036854775807 / n) := Int.mul_le_mul_of_nonneg_left h1 (by omega)
  have h3 := Int.mul_ediv_self_le (x := 9223372036854775807) (k := n) (by omega)
  omega

set_option maxHeartbeats 400000 in
theorem product_any (n k : Int) (w : World) (hn : Pl.in64 n) (hk : Pl.in64 k) :
    Calls Tryz.prog 34 #[.int .i64 n, .int .i64 k] w fun e w' => e = .returned (.int .i64 (Pl.product n k)) ∧ w = w' := by
  obtain ⟨hn1, hn2⟩ := hn
  obtain ⟨hk1, hk2⟩ := hk
  by_cases h1 : n < 0
  · have hs : Pl.product n k = -1 := by unfold Pl.product; rw [if_pos (by omega)]
    rw [hs]
    go_enter Tryz.func34, Tryz.ntmps34
    go_wp2
    go_ret
    exact ⟨rfl, rfl⟩
  · by_cases h2 : k < 0
    · have hs : Pl.product n k = -1 := by unfold Pl.product; rw [if_pos (by omega)]
      rw [hs]
      go_enter Tryz.func34, Tryz.ntmps34
      go_wp2
      go_ret
      exact ⟨rfl, rfl⟩
    · by_cases h3 : 0 < n
      · by_cases h4 : 9223372036854775807 / n < k
        · have hs : Pl.product n k = -1 := by unfold Pl.product; rw [if_pos (by omega)]
          rw [hs]
          go_enter Tryz.func34, Tryz.ntmps34
          go_wp2
          go_ret
          exact ⟨rfl, rfl⟩
        · have hs : Pl.product n k = n * k := by unfold Pl.product; rw [if_neg (by omega)]
          obtain ⟨hm1, hm2⟩ := mul_bound h3 (by omega) h4
          rw [hs]
          go_enter Tryz.func34, Tryz.ntmps34
          go_wp2
          go_ret
          exact ⟨rfl, rfl⟩
      · obtain rfl : n = 0 := by omega
        have hs : Pl.product 0 k = 0 := by unfold Pl.product; rw [if_neg (by omega)]; omega
        rw [hs]
        go_enter Tryz.func34, Tryz.ntmps34
        go_wp2
        go_ret
        exact ⟨ret_int (by omega), rfl⟩

set_option maxHeartbeats 400000 in
theorem up_any (n k : Int) (w : World) (hn : Pl.in64 n) (hk : Pl.isAl k) :
    Calls Tryz.prog 35 #[.int .i64 n, .int .i64 k] w fun e w' => e = .returned (.int .i64 (Pl.up n k)) ∧ w = w' := by
  obtain ⟨hn1, hn2⟩ := hn
  by_cases h1 : n < 0
  · have hs : Pl.up n k = -1 := by unfold Pl.up; rw [if_pos (by omega)]
    rw [hs]
    go_enter Tryz.func35, Tryz.ntmps35
    go_wp2
    go_ret
    exact ⟨rfl, rfl⟩
  · have hs : Pl.up n k = Pl.sum n (-(n % k) % k) := by unfold Pl.up; rw [if_neg (by omega)]
    rw [hs]
    have hk' := hk.le
    have hb1 : 0 ≤ n % k := Int.emod_nonneg _ (by omega)
    have hb2 : n % k < k := Int.emod_lt_of_pos _ (by omega)
    have hb3 : 0 ≤ -(n % k) % k := Int.emod_nonneg _ (by omega)
    have hb4 : -(n % k) % k < k := Int.emod_lt_of_pos _ (by omega)
    have hk0 : (k == 0) = false := by rw [beq_eq_false_iff_ne]; omega
    have hin : Pl.in64 (-(n % k) % k) := ⟨by omega, by omega⟩
    have hin2 : Pl.in64 n := ⟨by omega, by omega⟩
    clear hs hk
    go_enter Tryz.func35, Tryz.ntmps35
    go_wp2_with (go_at_call 33; refine (sum_any _ _ _ hin2 hin).mono ?_; rintro e w' ⟨rfl, rfl⟩)
    go_ret
    exact ⟨rfl, rfl⟩

set_option maxHeartbeats 400000 in
theorem assert_any (w : World) : Calls Tryz.prog 40 #[.bool true] w fun e w' => e = .returned (.tuple #[]) ∧ w = w' := by
  go_enter Tryz.func40, Tryz.ntmps40
  go_wp2
  go_end0
  exact ⟨rfl, rfl⟩

set_option maxHeartbeats 400000 in
theorem alike_any (a b : Int) (w : World) (h : Pl.Alike a b) :
    Calls Tryz.prog 25 #[.int .i64 a, .int .i64 b] w fun e w' => e = .returned (.bool true) ∧ w = w' := by
  rcases h with ⟨rfl, h⟩ | ⟨h1, h2⟩
  · go_enter Tryz.func25, Tryz.ntmps25
    go_wp2
    go_ret
    exact ⟨ret_bool (by simp), rfl⟩
  · by_cases hab : a = b
    · subst hab
      go_enter Tryz.func25, Tryz.ntmps25
      go_wp2
      go_ret
      exact ⟨ret_bool (by simp), rfl⟩
    · have hab' : (a == b) = false := by simpa using hab
      clear hab
      go_enter Tryz.func25, Tryz.ntmps25
      go_wp2
      go_ret
      exact ⟨rfl, rfl⟩

theorem place_emod (n k : Int) (hk : 1 ≤ k) : (n.tmod k + k) % k = n % k := by
  rw [Int.add_emod_right, Int.tmod_eq_emod]
  split
  · simp
  · have : k.natAbs = k := by omega
    rw [this, Int.sub_emod_right, Int.emod_emod]
set_option maxHeartbeats 400000 in
theorem place_any (n k : Int) (w : World) (hn : Pl.in64 n) (hk : 1 ≤ k) (hk2 : k ≤ 4611686018427387904) :
    Calls Tryz.prog 19 #[.int .i64 n, .int .i64 k] w fun e w' => e = .returned (.int .i64 (n % k)) ∧ w = w' := by
  obtain ⟨hn1, hn2⟩ := hn
  have hk0 : (k == 0) = false := by rw [beq_eq_false_iff_ne]; omega
  have hb1 : -k < n.tmod k := by have := Int.lt_tmod_of_pos n (show 0 < k by omega); omega
  have hb2 : n.tmod k < k := Int.tmod_lt_of_pos n (by omega)
  go_enter Tryz.func19, Tryz.ntmps19
  go_wp2
  go_ret
  exact ⟨ret_int (place_emod n k hk), rfl⟩

theorem testBit_low (X j i : Nat) (hX : X < 2 ^ 64) (hj : j ≤ 64) : (X &&& (2 ^ 64 - 1 - (2 ^ j - 1))).testBit i = (X / 2 ^ j * 2 ^ j).testBit i := by
  rw [show 2 ^ 64 - 1 - (2 ^ j - 1) = 2 ^ 64 - ((2 ^ j - 1) + 1) from by omega, Nat.testBit_and, Nat.testBit_two_pow_sub_succ (by have := Nat.pow_le_pow_right (show 0 < 2 by omega) hj; omega), Nat.testBit_two_pow_sub_one,
    Nat.testBit_mul_two_pow, Nat.testBit_div_two_pow]
  by_cases h : i < j
  · simp [h]; omega
  · have e : i - j + j = i := by omega
    rw [e]
    by_cases h64 : i < 64
    · simp [h, h64]; omega
    · have hX' : X.testBit i = false := Nat.testBit_lt_two_pow (Nat.lt_of_lt_of_le hX (Nat.pow_le_pow_right (by omega) (by omega)))
      simp [hX']
theorem and_low (X j : Nat) (hX : X < 2 ^ 64) (hj : j ≤ 64) : X &&& (2 ^ 64 - 1 - (2 ^ j - 1)) = X / 2 ^ j * 2 ^ j := Nat.eq_of_testBit_eq fun i => testBit_low X j i hX hj

theorem toNat_i64 (y : Int) (h : Pl.in64 y) : (BitVec.ofInt 64 y).toNat = (if 0 ≤ y then y.toNat else (y + 18446744073709551616).toNat) := by
  obtain ⟨h1, h2⟩ := h
  rw [BitVec.toNat_ofInt]
  split <;> omega

theorem andNot_floor (y : Int) (j : Nat) (hj : j ≤ 3) (h : Pl.in64 y) : bits .andNot .i64 y ((2 ^ j - 1 : Nat) : Int) = y / (2 ^ j : Nat) * (2 ^ j : Nat) := by
  show IntKind.i64.wrap ((BitVec.ofInt 64 y &&& ~~~BitVec.ofInt 64 ((2 ^ j - 1 : Nat) : Int)).toNat : Int) = _
  have hlt := (BitVec.ofInt 64 y).isLt
  have hc : (BitVec.ofInt 64 ((2 ^ j - 1 : Nat) : Int)).toNat = 2 ^ j - 1 := by
    rcases (show j = 0 ∨ j = 1 ∨ j = 2 ∨ j = 3 by omega) with rfl | rfl | rfl | rfl <;> decide
  rw [BitVec.toNat_and, BitVec.toNat_not, hc, and_low _ j hlt (by omega), toNat_i64 y h, IntKind.wrap_i64]
  obtain ⟨h1, h2⟩ := h
  rcases (show j = 0 ∨ j = 1 ∨ j = 2 ∨ j = 3 by omega) with rfl | rfl | rfl | rfl <;> (split <;> simp <;> omega)

/-- What align comes to. -/
theorem align_plain (x a : Int) (h0 : 0 ≤ x) (h1 : x ≤ 9223372036854775807) (ha : Pl.isAl a) :
    Pl.Alike (bits .andNot .i64 (wrap64 (wrap64 (x + a) - 1)) (a - 1)) (Pl.up x a) ∧ Pl.in64 (bits .andNot .i64 (wrap64 (wrap64 (x + a) - 1)) (a - 1)) := by
  have key : ∀ j : Nat, j ≤ 3 → a = (2 ^ j : Nat) → bits .andNot .i64 (wrap64 (wrap64 (x + a) - 1)) (a - 1) = (wrap64 (wrap64 (x + a) - 1)) / a * a ∧ Pl.in64 (wrap64 (wrap64 (x + a) - 1)) := by
    intro j hj hja
    have hin : Pl.in64 (wrap64 (wrap64 (x + a) - 1)) := by unfold wrap64 Pl.in64; omega
    refine ⟨?_, hin⟩
    have hp := Nat.pow_pos (n := j) (show 0 < 2 by omega)
    have := andNot_floor (wrap64 (wrap64 (x + a) - 1)) j hj hin
    rw [← hja] at this
    rw [show a - 1 = ((2 ^ j - 1 : Nat) : Int) by omega]
    exact this
  have fin : ∀ y : Int, (y = x + a - 1 ∧ x + a - 1 ≤ 9223372036854775807) ∨ (y = x + a - 1 - 18446744073709551616 ∧ 9223372036854775807 < x + a - 1) → Pl.Alike (y / a * a) (Pl.up x a) ∧ Pl.in64 (y / a * a) := by
    intro y hy
    unfold Pl.Alike Pl.in64 Pl.up Pl.sum
    rw [if_neg (by omega)]
    rcases ha with rfl | rfl | rfl | rfl
    all_goals (split <;> omega)
  have hw : ∀ y, y = wrap64 (wrap64 (x + a) - 1) → (y = x + a - 1 ∧ x + a - 1 ≤ 9223372036854775807) ∨ (y = x + a - 1 - 18446744073709551616 ∧ 9223372036854775807 < x + a - 1) := by
    intro y hy
    subst hy
    have := ha.le
    unfold wrap64
    omega
  obtain ⟨e, _⟩ : bits .andNot .i64 (wrap64 (wrap64 (x + a) - 1)) (a - 1) = (wrap64 (wrap64 (x + a) - 1)) / a * a ∧ True := by
    rcases ha with h | h | h | h
    · exact ⟨(key 0 (by omega) h).1, trivial⟩
    · exact ⟨(key 1 (by omega) h).1, trivial⟩
    · exact ⟨(key 2 (by omega) h).1, trivial⟩
    · exact ⟨(key 3 (by omega) h).1, trivial⟩
  rw [e]
  exact fin _ (hw _ rfl)

/-- It hands back a number alike s. -/
def AlikeInt (s : Int) (w : World) (e : Ending) (w' : World) : Prop := ∃ r : Int, e = .returned (.int .i64 r) ∧ Pl.Alike r s ∧ Pl.in64 r ∧ w = w'

theorem and_self_pred : bits .and .i64 1 0 = 0 ∧ bits .and .i64 2 1 = 0 ∧ bits .and .i64 4 3 = 0 ∧ bits .and .i64 8 7 = 0 := by decide +kernel

set_option maxHeartbeats 400000 in
theorem align_any (x a : Int) (w : World) (h0 : 0 ≤ x) (h1 : x ≤ 9223372036854775807) (ha : Pl.isAl a) :
    Calls Tryz.prog 53 #[.int .i64 x, .int .i64 a] w (AlikeInt (Pl.up x a) w) := by
  obtain ⟨p1, p2⟩ := align_plain x a h0 h1 ha
  have fin : AlikeInt (Pl.up x a) w (.returned (.int .i64 (bits .andNot .i64 (wrap64 (wrap64 (x + a) - 1)) (a - 1)))) w := ⟨_, rfl, p1, p2, rfl⟩
  have F := hid fin
  clear p1 p2 fin
  rcases ha with rfl | rfl | rfl | rfl
  all_goals
    go_enter Tryz.func53, Tryz.ntmps53
    go_wp2_with (go_at_call 40; refine (assert_any _).mono ?_; rintro e w' ⟨rfl, rfl⟩)
    go_ret
    exact F.out
end Go.Proofs.YtphfjojdiilneaaGreatDoor
