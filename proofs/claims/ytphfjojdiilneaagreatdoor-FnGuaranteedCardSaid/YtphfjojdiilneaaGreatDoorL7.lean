/- The walk of FnGuaranteed. -/
import Derived.Test.YtphfjojdiilneaaGreatDoorWrk
import Derived.Test.YtphfjojdiilneaaGreatDoorIal
set_option linter.unusedVariables false
set_option linter.unusedSimpArgs false
namespace Go.Proofs.YtphfjojdiilneaaGreatDoor
open Go.RowKit
set_option maxRecDepth 100000 in
set_option maxHeartbeats 4000000 in
theorem law7 (x : Int) (c : Bool) (a : Int) (hx : Pl.in64 x) (ha : Pl.in64 a) (w : World) (ht : Tab w) :
    Calls Tryz.prog 7 #[.int .i64 x, .bool c, .int .i64 a] w (LawPost w) := by
  have TAB := hid ht
  have PL : Hid (∀ wx : World, Calls Tryz.prog 19 #[.int .i64 x, .int .i64 18] wx fun e w' => e = .returned (.int .i64 (x % 18)) ∧ wx = w') := fun wx => place_any x 18 wx hx (by omega) (by omega)
  have hn0 : 0 ≤ x % 18 := Int.emod_nonneg _ (by omega)
  have hn1 : x % 18 < 18 := Int.emod_lt_of_pos _ (by omega)
  have ISZ : Hid (∀ (W M : Int) (wx : World), Pl.okW W → Pl.okM M → Tab wx → Calls Tryz.prog 24 #[.int .i64 W, .int .i64 M, .agg #[.int .i64 0, .int .i64 (x % 18), .slice none 0 0]] wx (IntPost (Pl.basicSize W (x % 18)) wx)) := by
    intro W M wx h1 h2 h3
    have hv : Pl.valid (.mk 0 (x % 18) []) = true := by
      simp only [Pl.valid, Pl.validL, Pl.need]
      simp; omega
    have := iszof (.mk 0 (x % 18) []) hv W M h1 h2 (.slice none 0 0) wx h3 (.nil none 0) ⟨by simp [Pl.Ty.k], by simp [Pl.Ty.k]⟩ ⟨by simp [Pl.Ty.n]; omega, by simp [Pl.Ty.n]; omega⟩
    have hb := (Pl.basicSize_ok h1 (x % 18)).1
    refine this.mono fun e w' h => SzPost.exact (by omega) ?_
    simpa [Pl.sz] using h
  clear hx ht
  generalize x % 18 = n at *
  go_enter Tryz.func7, Tryz.ntmps7
  go_wp2_with (go_at_call 19; refine (PL.out _).mono ?_; rintro e w' ⟨rfl, rfl⟩)
  refine (sizes_any c a ha _).mono ?_
  rintro e w2 ⟨W, M, rfl, okW, okM, hb2⟩
  have HB2 := hid hb2
  have hWp : 0 < W := by unfold Pl.okW at okW; omega
  have hWq : W ≤ 8 := by unfold Pl.okW at okW; omega
  have OKW := hid okW
  have OKM := hid okM
  clear hb2 okW okM
  go_wp2_with fail
  have HB3 := hid (HB2.out.alloc HB2.out.size (.cells #[.int .i64 W, .int .i64 M] 29))
  refine (ISZ.out W M _ OKW.out OKM.out (TAB.out.kept (.of_below HB3.out))).mono ?_
  rintro e w3 ⟨rfl, hb3⟩
  have HB4 := hid (below_of HB3.out hb3)
  clear hb3 HB3
  rcases (show n = 0 ∨ n = 1 ∨ n = 2 ∨ n = 3 ∨ n = 4 ∨ n = 5 ∨ n = 6 ∨ n = 7 ∨ n = 8 ∨ n = 9 ∨ n = 10 ∨ n = 11 ∨ n = 12 ∨ n = 13 ∨ n = 14 ∨ n = 15 ∨ n = 16 ∨ n = 17 by omega) with rfl | rfl | rfl | rfl | rfl | rfl | rfl | rfl | rfl | rfl | rfl | rfl | rfl | rfl | rfl | rfl | rfl | rfl
  · rw [show Pl.basicSize W 0 = 1 by simp [Pl.basicSize]]
    go_wp2_with fail
    go_ret
    exact ⟨rfl, HB4.out⟩
  · rw [show Pl.basicSize W 1 = W by simp [Pl.basicSize]]
    go_wp2_with fail
    go_ret
    exact ⟨rfl, HB4.out⟩
  · rw [show Pl.basicSize W 2 = 1 by simp [Pl.basicSize]]
    go_wp2_with fail
    go_ret
    exact ⟨rfl, HB4.out⟩
  · rw [show Pl.basicSize W 3 = 2 by simp [Pl.basicSize]]
    go_wp2_with fail
    go_ret
    exact ⟨rfl, HB4.out⟩
  · rw [show Pl.basicSize W 4 = 4 by simp [Pl.basicSize]]
    go_wp2_with fail
    go_ret
    exact ⟨rfl, HB4.out⟩
  · rw [show Pl.basicSize W 5 = 8 by simp [Pl.basicSize]]
    go_wp2_with fail
    go_ret
    exact ⟨rfl, HB4.out⟩
  · rw [show Pl.basicSize W 6 = W by simp [Pl.basicSize]]
    go_wp2_with fail
    go_ret
    exact ⟨rfl, HB4.out⟩
  · rw [show Pl.basicSize W 7 = 1 by simp [Pl.basicSize]]
    go_wp2_with fail
    go_ret
    exact ⟨rfl, HB4.out⟩
  · rw [show Pl.basicSize W 8 = 2 by simp [Pl.basicSize]]
    go_wp2_with fail
    go_ret
    exact ⟨rfl, HB4.out⟩
  · rw [show Pl.basicSize W 9 = 4 by simp [Pl.basicSize]]
    go_wp2_with fail
    go_ret
    exact ⟨rfl, HB4.out⟩
  · rw [show Pl.basicSize W 10 = 8 by simp [Pl.basicSize]]
    go_wp2_with fail
    go_ret
    exact ⟨rfl, HB4.out⟩
  · rw [show Pl.basicSize W 11 = W by simp [Pl.basicSize]]
    go_wp2_with fail
    go_ret
    exact ⟨rfl, HB4.out⟩
  · rw [show Pl.basicSize W 12 = 4 by simp [Pl.basicSize]]
    go_wp2_with fail
    go_ret
    exact ⟨rfl, HB4.out⟩
  · rw [show Pl.basicSize W 13 = 8 by simp [Pl.basicSize]]
    go_wp2_with fail
    go_ret
    exact ⟨rfl, HB4.out⟩
  · rw [show Pl.basicSize W 14 = 8 by simp [Pl.basicSize]]
    go_wp2_with fail
    go_ret
    exact ⟨rfl, HB4.out⟩
  · rw [show Pl.basicSize W 15 = 16 by simp [Pl.basicSize]]
    go_wp2_with fail
    go_ret
    exact ⟨rfl, HB4.out⟩
  · rw [show Pl.basicSize W 16 = 2 * W by simp [Pl.basicSize]]
    have h2 : 0 < 2 * W := by omega
    generalize 2 * W = W2 at *
    go_wp2_with fail
    go_ret
    exact ⟨rfl, HB4.out⟩
  · rw [show Pl.basicSize W 17 = W by simp [Pl.basicSize]]
    go_wp2_with fail
    go_ret
    exact ⟨rfl, HB4.out⟩
end Go.Proofs.YtphfjojdiilneaaGreatDoor
