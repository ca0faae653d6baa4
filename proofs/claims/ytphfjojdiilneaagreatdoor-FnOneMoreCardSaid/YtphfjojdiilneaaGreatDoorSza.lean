/- The walk of Sizeof at an array. -/
import Derived.Test.YtphfjojdiilneaaGreatDoorAlo
import Derived.Test.YtphfjojdiilneaaGreatDoorSzl
import Derived.Test.YtphfjojdiilneaaGreatDoorPsz
set_option linter.unusedVariables false
set_option linter.unusedSimpArgs false
namespace Go.Proofs.YtphfjojdiilneaaGreatDoor
open Go.RowKit

/-- It hands back a number alike s, and makes nothing but new memory. -/
def SzPost (s : Int) (w : World) (e : Ending) (w' : World) : Prop := ∃ r : Int, e = .returned (.int .i64 r) ∧ Pl.Alike r s ∧ Pl.in64 r ∧ Below w.heap.size w w'
/-- Sizeof's contract at one type. -/
def SzOk (t : Pl.Ty) : Prop := ∀ (T b p : Nat) (W M : Int) (w : World), Rep w.cell? t T b → Env w p W M →
  Calls Tryz.prog 36 #[.pointer (some ⟨p, 0, none⟩), .iface T (.pointer (some ⟨b, 0, none⟩))] w (SzPost (Pl.sz W M t) w)

set_option maxRecDepth 100000 in
set_option maxHeartbeats 4000000 in
theorem sz_array (n : Int) (t : Pl.Ty) (b T' b' p : Nat) (W M : Int) (w : World) (HT : SzOk t) (env : Env w p W M) (h0 : 0 ≤ n) (h1 : n ≤ 9223372036854775807) (hn : w.cell? ⟨b, 0, none⟩ = some (.int .i64 n))
    (he : w.cell? ⟨b, 1, none⟩ = some (.iface T' (.pointer (some ⟨b', 0, none⟩)))) (ht : Rep w.cell? t T' b') :
    Calls Tryz.prog 36 #[.pointer (some ⟨p, 0, none⟩), .iface 60 (.pointer (some ⟨b, 0, none⟩))] w (SzPost (Pl.arr n (Pl.al W M t) (Pl.sz W M t)) w) := by
  have m78 := tam78 (T := 60) (by decide)
  have h60 := tah60
  have mt := meth60 b
  by_cases hn0 : n = 0
  · subst hn0
    have R := hid (Pl.arr_zero_len (Pl.al W M t) (Pl.sz W M t))
    go_enter Tryz.func36, Tryz.ntmps36
    go_wp2_with (go_at_call 83; refine (under60_any _ _).mono ?_; rintro e w' ⟨rfl, rfl⟩)
    go_ret
    exact ⟨0, rfl, by rw [R.out]; exact .of_eq rfl (by omega), ⟨by omega, by omega⟩, Below.refl _ _⟩
  obtain ⟨m, rfl⟩ : ∃ m, n = m + 1 := ⟨n - 1, by omega⟩
  have hm0 : 0 ≤ m := by omega
  have hm1 : m < 9223372036854775807 := by omega
  clear h0 h1 hn0
  have hbl : b < w.heap.size := World.block_lt_of_cell? _ _ he
  have hA := Pl.al_isAl env.okW env.okM t
  have CALL := hid (HT T' b' p W M w ht env)
  have ALI : Hid (∀ w2, Below w.heap.size w w2 → Calls Tryz.prog 29 #[.pointer (some ⟨p, 0, none⟩), .iface T' (.pointer (some ⟨b', 0, none⟩))] w2 (AlPost (Pl.al W M t) w2)) :=
    fun w2 hb => al_all t T' b' p W M w2 (ht.sub (Kept.of_below hb).sub) (env.kept (.of_below hb))
  have HA := hid hA
  obtain ⟨hA1, hA8⟩ := hA.le
  clear env ht HT hA
  generalize Pl.al W M t = A at *
  generalize Pl.sz W M t = S at *
  go_enter Tryz.func36, Tryz.ntmps36
  go_wp2_with (first | (go_at_call 83; refine (under60_any _ _).mono ?_; rintro e w' ⟨rfl, rfl⟩))
  refine CALL.out.mono ?_
  rintro e w2 ⟨r, rfl, hal, h64, hb2⟩
  have HB2 := hid hb2
  have d1 := (bcell hb2 b 1 hbl).trans he
  have HAL := hid hal
  obtain ⟨h64a, h64b⟩ := h64
  clear CALL hb2 hal
  rcases (show r < 0 ∨ r = 0 ∨ 0 < r by omega) with hr | rfl | hr
  · have R := hid (Pl.arr_neg (m + 1) A S (by omega) (HAL.out.neg hr))
    go_wp2_with fail
    go_ret
    exact ⟨-1, rfl, by rw [R.out]; exact .of_neg (by omega) (by omega), ⟨by omega, by omega⟩, HB2.out⟩
  · have R : Hid (Pl.arr (m + 1) A S = 0) := by
      have : S = 0 := HAL.out.eq (Int.le_refl _)
      rw [this]; exact Pl.arr_zero _ _ (by omega) hA1
    go_wp2_with fail
    go_ret
    exact ⟨0, rfl, by rw [R.out]; exact .of_eq rfl (by omega), ⟨by omega, by omega⟩, HB2.out⟩
  · have hS : S = r := HAL.out.eq (by omega)
    subst hS
    have hr0 : (S == 0) = false := by rw [beq_eq_false_iff_ne]; omega
    clear HAL
    go_wp2_with fail
    refine (ALI.out _ HB2.out).mono ?_
    rintro e w3 ⟨rfl, hb3⟩
    have HB3 := hid (below_of HB2.out hb3)
    clear hb3 d1 HB2
    go_wp2_with fail
    refine (align_any S A _ (by omega) h64b HA.out).mono ?_
    rintro e w4 ⟨u, rfl, hau, h64u, rfl⟩
    have HU := hid hau
    obtain ⟨hu1, hu2⟩ := h64u
    clear hau
    by_cases hu : u < 0
    · have R := hid (Pl.arr_upneg (m + 1) A S (by omega) (HU.out.neg hu))
      go_wp2_with fail
      go_ret
      exact ⟨-1, rfl, by rw [R.out]; exact .of_neg (by omega) (by omega), ⟨by omega, by omega⟩, HB3.out⟩
    · have hue := hid (HU.out.eq (by omega))
      by_cases hm : m = 0
      · subst hm
        have R : Hid (Pl.arr (0 + 1) A S = S) := by
          show Pl.arr (0 + 1) A S = S
          rw [Pl.arr_fit (0 + 1) A S (by omega) (by rw [hue.out]; omega) (.inl rfl)]
          rw [show (0 + 1 - 1 : Int) * Pl.up S A = 0 by simp]
          rw [Pl.sum_fit 0 S (by omega) (by omega) (by omega)]; omega
        go_wp2_with fail
        go_ret
        exact ⟨_, rfl, by rw [R.out]; exact .of_eq (by simp) (by omega), ⟨by omega, by omega⟩, HB3.out⟩
      · by_cases hbig : 9223372036854775807 / m < u
        · have R : Hid (Pl.arr (m + 1) A S = -1) := Pl.arr_big (m + 1) A S (by omega) (by rw [Int.add_sub_cancel, hue.out]; exact hbig)
          have hmp : 0 < m := by omega
          go_wp2_with fail
          go_ret
          exact ⟨-1, rfl, by rw [R.out]; exact .of_neg (by omega) (by omega), ⟨by omega, by omega⟩, HB3.out⟩
        · have hmp : 0 < m := by omega
          obtain ⟨hp1, hp2⟩ := mul_bound hmp (by omega) hbig
          have R : Hid (Pl.arr (m + 1) A S = Pl.sum (u * m) S) := by
            show Pl.arr (m + 1) A S = Pl.sum (u * m) S
            rw [Pl.arr_fit (m + 1) A S (by omega) (by rw [hue.out]; omega) (.inr (by rw [Int.add_sub_cancel, hue.out]; exact hbig)), Int.add_sub_cancel, hue.out, Int.mul_comm]
          rw [Int.mul_comm] at hp1 hp2
          by_cases hov : u * m + S ≤ 9223372036854775807
          · have R2 : Hid (Pl.sum (u * m) S = u * m + S) := Pl.sum_fit _ _ hp1 (by omega) hov
            go_wp2_with fail
            go_ret
            exact ⟨_, rfl, by rw [R.out, R2.out]; exact .of_eq rfl (by omega), ⟨by omega, by omega⟩, HB3.out⟩
          · have R2 : Hid (Pl.sum (u * m) S = -1) := Pl.sum_big _ _ (by omega)
            go_wp2_with fail
            go_ret
            exact ⟨wrap64 (u * m + S), rfl, by rw [R.out, R2.out]; exact .of_neg (by unfold wrap64; omega) (by omega), ⟨by unfold wrap64; omega, by unfold wrap64; omega⟩, HB3.out⟩
end Go.Proofs.YtphfjojdiilneaaGreatDoor
