/- Walks of Alignof at the types that have no parts: pointers, maps, channels, slices, basic types. -/
import Derived.Test.YtphfjojdiilneaaGreatDoorSzl
import Derived.Defers
import Derived.Recover
set_option linter.unusedVariables false
set_option linter.unusedSimpArgs false
namespace Go.Proofs.YtphfjojdiilneaaGreatDoor
open Go.RowKit
set_option maxHeartbeats 400000 in
theorem check_d (q : Nat) (r : Int) (h : 1 ≤ r) (u : FrameMode) (w : World) (hc : w.cell? ⟨q, 0, none⟩ = some (.int .i64 r)) :
    CallsD Tryz.prog 39 #[.pointer (some ⟨q, 0, none⟩)] u w fun e u' w' => u' = u ∧ (e = .returned (.tuple #[]) ∧ w = w') := by
  go_enter_d Tryz.func39, Tryz.ntmps39
  go_wp2_with (go_at_call 40; refine (assert_any _).mono ?_; rintro e w' ⟨rfl, rfl⟩)
  go_end0
  exact ⟨rfl, rfl⟩

/-- What Alignof hands back. -/
def AlPost (a : Int) (w : World) (e : Ending) (w' : World) : Prop := e = .returned (.int .i64 a) ∧ Below w.heap.size w w'

set_option maxRecDepth 100000 in
set_option maxHeartbeats 800000 in
theorem al_85_le (b p : Nat) (W M : Int) (w : World) (okW : Pl.okW W) (okM : Pl.okM M) (hW : w.cell? ⟨p, 0, none⟩ = some (.int .i64 W)) (hM : w.cell? ⟨p, 1, none⟩ = some (.int .i64 M)) (hle : W ≤ M) :
    Calls Tryz.prog 29 #[.pointer (some ⟨p, 0, none⟩), (.iface 85 (.pointer (some ⟨b, 0, none⟩)))] w (AlPost W w) := by
  have hp : p < w.heap.size := World.block_lt_of_cell? _ _ hW
  have hmf : ∀ (fn : Fn) (first cap : Array Value) (w : World), (Instr.makeFunc fn first cap).run Tryz.prog w = .ok (.func fn first cap) w := fun _ _ _ _ => rfl
  have m78 := tam78 (T := 85) (by decide)
  have m60 := tam60 (T := 85) (by decide)
  have m76 := tam76 (T := 85) (by decide)
  have m63 := tam63 (T := 85) (by decide)
  have m77 := tam77 (T := 85) (by decide)
  have m81 := tam81 (T := 85) (by decide)
  have m82 := tam82 (T := 85) (by decide)
  have mt := meth85 b
  have hb : 1 ≤ W ∧ W ≤ 8 ∧ 1 ≤ M ∧ M ≤ 16 := by unfold Pl.okW at okW; unfold Pl.okM at okM; omega
  obtain ⟨hb1, hb2, hb3, hb4⟩ := hb
  have HW : ∀ o, (w.alloc o).cell? ⟨p, 0, none⟩ = some (.int .i64 W) := fun o => (World.cell?_alloc_lt _ _ _ hp).trans hW
  have HHW := hid HW
  clear okW okM HW
  go_enter_defers Tryz.func29, Tryz.ntmps29
  go_wp2_with (first | (go_at_call 106; refine (under85_any _ _).mono ?_; rintro e w' ⟨rfl, rfl⟩) | (go_at_call 36; refine (sz_85 _ _ W _ (HHW.out _)).mono ?_; rintro e w' ⟨rfl, rfl⟩) | (go_at_call 44; refine (isComplex85_any _ _).mono ?_; rintro e w' ⟨rfl, rfl⟩))
  all_goals
    refine leaves_cons (f := 39) (args := #[.pointer (some ⟨w.heap.size, 0, none⟩)]) (by simp) (by simp [go_sem]) ?_
    refine (check_d _ W (by omega) .returning _ ?_).mono ?_
    · simp [World.cell?_alloc_at]
    rintro e u' w'' ⟨rfl, rfl, rfl⟩
    exact ⟨_, by simp [results, Tryz.results29, go_sem, World.cell?_alloc_at], rfl, (Below.refl _ _).alloc (Nat.le_refl _) _⟩
set_option maxRecDepth 100000 in
set_option maxHeartbeats 800000 in
theorem al_85_gt (b p : Nat) (W M : Int) (w : World) (okW : Pl.okW W) (okM : Pl.okM M) (hW : w.cell? ⟨p, 0, none⟩ = some (.int .i64 W)) (hM : w.cell? ⟨p, 1, none⟩ = some (.int .i64 M)) (hle : M < W) :
    Calls Tryz.prog 29 #[.pointer (some ⟨p, 0, none⟩), (.iface 85 (.pointer (some ⟨b, 0, none⟩)))] w (AlPost M w) := by
  have hp : p < w.heap.size := World.block_lt_of_cell? _ _ hW
  have hmf : ∀ (fn : Fn) (first cap : Array Value) (w : World), (Instr.makeFunc fn first cap).run Tryz.prog w = .ok (.func fn first cap) w := fun _ _ _ _ => rfl
  have m78 := tam78 (T := 85) (by decide)
  have m60 := tam60 (T := 85) (by decide)
  have m76 := tam76 (T := 85) (by decide)
  have m63 := tam63 (T := 85) (by decide)
  have m77 := tam77 (T := 85) (by decide)
  have m81 := tam81 (T := 85) (by decide)
  have m82 := tam82 (T := 85) (by decide)
  have mt := meth85 b
  have hb : 1 ≤ W ∧ W ≤ 8 ∧ 1 ≤ M ∧ M ≤ 16 := by unfold Pl.okW at okW; unfold Pl.okM at okM; omega
  obtain ⟨hb1, hb2, hb3, hb4⟩ := hb
  have HW : ∀ o, (w.alloc o).cell? ⟨p, 0, none⟩ = some (.int .i64 W) := fun o => (World.cell?_alloc_lt _ _ _ hp).trans hW
  have HHW := hid HW
  clear okW okM HW
  go_enter_defers Tryz.func29, Tryz.ntmps29
  go_wp2_with (first | (go_at_call 106; refine (under85_any _ _).mono ?_; rintro e w' ⟨rfl, rfl⟩) | (go_at_call 36; refine (sz_85 _ _ W _ (HHW.out _)).mono ?_; rintro e w' ⟨rfl, rfl⟩) | (go_at_call 44; refine (isComplex85_any _ _).mono ?_; rintro e w' ⟨rfl, rfl⟩))
  all_goals
    refine leaves_cons (f := 39) (args := #[.pointer (some ⟨w.heap.size, 0, none⟩)]) (by simp) (by simp [go_sem]) ?_
    refine (check_d _ M (by omega) .returning _ ?_).mono ?_
    · simp [World.cell?_alloc_at]
    rintro e u' w'' ⟨rfl, rfl, rfl⟩
    exact ⟨_, by simp [results, Tryz.results29, go_sem, World.cell?_alloc_at], rfl, (Below.refl _ _).alloc (Nat.le_refl _) _⟩
theorem al_85 (b p : Nat) (W M : Int) (w : World) (okW : Pl.okW W) (okM : Pl.okM M) (hW : w.cell? ⟨p, 0, none⟩ = some (.int .i64 W)) (hM : w.cell? ⟨p, 1, none⟩ = some (.int .i64 M)) :
    Calls Tryz.prog 29 #[.pointer (some ⟨p, 0, none⟩), (.iface 85 (.pointer (some ⟨b, 0, none⟩)))] w (AlPost (min W M) w) := by
  by_cases h : W ≤ M
  · rw [Int.min_eq_left h]; exact al_85_le b p W M w okW okM hW hM h
  · rw [Int.min_eq_right (by omega)]; exact al_85_gt b p W M w okW okM hW hM (by omega)
set_option maxRecDepth 100000 in
set_option maxHeartbeats 800000 in
theorem al_89_le (b p : Nat) (W M : Int) (w : World) (okW : Pl.okW W) (okM : Pl.okM M) (hW : w.cell? ⟨p, 0, none⟩ = some (.int .i64 W)) (hM : w.cell? ⟨p, 1, none⟩ = some (.int .i64 M)) (hle : W ≤ M) :
    Calls Tryz.prog 29 #[.pointer (some ⟨p, 0, none⟩), (.iface 89 (.pointer (some ⟨b, 0, none⟩)))] w (AlPost W w) := by
  have hp : p < w.heap.size := World.block_lt_of_cell? _ _ hW
  have hmf : ∀ (fn : Fn) (first cap : Array Value) (w : World), (Instr.makeFunc fn first cap).run Tryz.prog w = .ok (.func fn first cap) w := fun _ _ _ _ => rfl
  have m78 := tam78 (T := 89) (by decide)
  have m60 := tam60 (T := 89) (by decide)
  have m76 := tam76 (T := 89) (by decide)
  have m63 := tam63 (T := 89) (by decide)
  have m77 := tam77 (T := 89) (by decide)
  have m81 := tam81 (T := 89) (by decide)
  have m82 := tam82 (T := 89) (by decide)
  have mt := meth89 b
  have hb : 1 ≤ W ∧ W ≤ 8 ∧ 1 ≤ M ∧ M ≤ 16 := by unfold Pl.okW at okW; unfold Pl.okM at okM; omega
  obtain ⟨hb1, hb2, hb3, hb4⟩ := hb
  have HW : ∀ o, (w.alloc o).cell? ⟨p, 0, none⟩ = some (.int .i64 W) := fun o => (World.cell?_alloc_lt _ _ _ hp).trans hW
  have HHW := hid HW
  clear okW okM HW
  go_enter_defers Tryz.func29, Tryz.ntmps29
  go_wp2_with (first | (go_at_call 108; refine (under89_any _ _).mono ?_; rintro e w' ⟨rfl, rfl⟩) | (go_at_call 36; refine (sz_89 _ _ W _ (HHW.out _)).mono ?_; rintro e w' ⟨rfl, rfl⟩) | (go_at_call 44; refine (isComplex89_any _ _).mono ?_; rintro e w' ⟨rfl, rfl⟩))
  all_goals
    refine leaves_cons (f := 39) (args := #[.pointer (some ⟨w.heap.size, 0, none⟩)]) (by simp) (by simp [go_sem]) ?_
    refine (check_d _ W (by omega) .returning _ ?_).mono ?_
    · simp [World.cell?_alloc_at]
    rintro e u' w'' ⟨rfl, rfl, rfl⟩
    exact ⟨_, by simp [results, Tryz.results29, go_sem, World.cell?_alloc_at], rfl, (Below.refl _ _).alloc (Nat.le_refl _) _⟩
set_option maxRecDepth 100000 in
set_option maxHeartbeats 800000 in
theorem al_89_gt (b p : Nat) (W M : Int) (w : World) (okW : Pl.okW W) (okM : Pl.okM M) (hW : w.cell? ⟨p, 0, none⟩ = some (.int .i64 W)) (hM : w.cell? ⟨p, 1, none⟩ = some (.int .i64 M)) (hle : M < W) :
    Calls Tryz.prog 29 #[.pointer (some ⟨p, 0, none⟩), (.iface 89 (.pointer (some ⟨b, 0, none⟩)))] w (AlPost M w) := by
  have hp : p < w.heap.size := World.block_lt_of_cell? _ _ hW
  have hmf : ∀ (fn : Fn) (first cap : Array Value) (w : World), (Instr.makeFunc fn first cap).run Tryz.prog w = .ok (.func fn first cap) w := fun _ _ _ _ => rfl
  have m78 := tam78 (T := 89) (by decide)
  have m60 := tam60 (T := 89) (by decide)
  have m76 := tam76 (T := 89) (by decide)
  have m63 := tam63 (T := 89) (by decide)
  have m77 := tam77 (T := 89) (by decide)
  have m81 := tam81 (T := 89) (by decide)
  have m82 := tam82 (T := 89) (by decide)
  have mt := meth89 b
  have hb : 1 ≤ W ∧ W ≤ 8 ∧ 1 ≤ M ∧ M ≤ 16 := by unfold Pl.okW at okW; unfold Pl.okM at okM; omega
  obtain ⟨hb1, hb2, hb3, hb4⟩ := hb
  have HW : ∀ o, (w.alloc o).cell? ⟨p, 0, none⟩ = some (.int .i64 W) := fun o => (World.cell?_alloc_lt _ _ _ hp).trans hW
  have HHW := hid HW
  clear okW okM HW
  go_enter_defers Tryz.func29, Tryz.ntmps29
  go_wp2_with (first | (go_at_call 108; refine (under89_any _ _).mono ?_; rintro e w' ⟨rfl, rfl⟩) | (go_at_call 36; refine (sz_89 _ _ W _ (HHW.out _)).mono ?_; rintro e w' ⟨rfl, rfl⟩) | (go_at_call 44; refine (isComplex89_any _ _).mono ?_; rintro e w' ⟨rfl, rfl⟩))
  all_goals
    refine leaves_cons (f := 39) (args := #[.pointer (some ⟨w.heap.size, 0, none⟩)]) (by simp) (by simp [go_sem]) ?_
    refine (check_d _ M (by omega) .returning _ ?_).mono ?_
    · simp [World.cell?_alloc_at]
    rintro e u' w'' ⟨rfl, rfl, rfl⟩
    exact ⟨_, by simp [results, Tryz.results29, go_sem, World.cell?_alloc_at], rfl, (Below.refl _ _).alloc (Nat.le_refl _) _⟩
theorem al_89 (b p : Nat) (W M : Int) (w : World) (okW : Pl.okW W) (okM : Pl.okM M) (hW : w.cell? ⟨p, 0, none⟩ = some (.int .i64 W)) (hM : w.cell? ⟨p, 1, none⟩ = some (.int .i64 M)) :
    Calls Tryz.prog 29 #[.pointer (some ⟨p, 0, none⟩), (.iface 89 (.pointer (some ⟨b, 0, none⟩)))] w (AlPost (min W M) w) := by
  by_cases h : W ≤ M
  · rw [Int.min_eq_left h]; exact al_89_le b p W M w okW okM hW hM h
  · rw [Int.min_eq_right (by omega)]; exact al_89_gt b p W M w okW okM hW hM (by omega)
set_option maxRecDepth 100000 in
set_option maxHeartbeats 800000 in
theorem al_91_le (b p : Nat) (W M : Int) (w : World) (okW : Pl.okW W) (okM : Pl.okM M) (hW : w.cell? ⟨p, 0, none⟩ = some (.int .i64 W)) (hM : w.cell? ⟨p, 1, none⟩ = some (.int .i64 M)) (hle : W ≤ M) :
    Calls Tryz.prog 29 #[.pointer (some ⟨p, 0, none⟩), (.iface 91 (.pointer (some ⟨b, 0, none⟩)))] w (AlPost W w) := by
  have hp : p < w.heap.size := World.block_lt_of_cell? _ _ hW
  have hmf : ∀ (fn : Fn) (first cap : Array Value) (w : World), (Instr.makeFunc fn first cap).run Tryz.prog w = .ok (.func fn first cap) w := fun _ _ _ _ => rfl
  have m78 := tam78 (T := 91) (by decide)
  have m60 := tam60 (T := 91) (by decide)
  have m76 := tam76 (T := 91) (by decide)
  have m63 := tam63 (T := 91) (by decide)
  have m77 := tam77 (T := 91) (by decide)
  have m81 := tam81 (T := 91) (by decide)
  have m82 := tam82 (T := 91) (by decide)
  have mt := meth91 b
  have hb : 1 ≤ W ∧ W ≤ 8 ∧ 1 ≤ M ∧ M ≤ 16 := by unfold Pl.okW at okW; unfold Pl.okM at okM; omega
  obtain ⟨hb1, hb2, hb3, hb4⟩ := hb
  have HW : ∀ o, (w.alloc o).cell? ⟨p, 0, none⟩ = some (.int .i64 W) := fun o => (World.cell?_alloc_lt _ _ _ hp).trans hW
  have HHW := hid HW
  clear okW okM HW
  go_enter_defers Tryz.func29, Tryz.ntmps29
  go_wp2_with (first | (go_at_call 110; refine (under91_any _ _).mono ?_; rintro e w' ⟨rfl, rfl⟩) | (go_at_call 36; refine (sz_91 _ _ W _ (HHW.out _)).mono ?_; rintro e w' ⟨rfl, rfl⟩) | (go_at_call 44; refine (isComplex91_any _ _).mono ?_; rintro e w' ⟨rfl, rfl⟩))
  all_goals
    refine leaves_cons (f := 39) (args := #[.pointer (some ⟨w.heap.size, 0, none⟩)]) (by simp) (by simp [go_sem]) ?_
    refine (check_d _ W (by omega) .returning _ ?_).mono ?_
    · simp [World.cell?_alloc_at]
    rintro e u' w'' ⟨rfl, rfl, rfl⟩
    exact ⟨_, by simp [results, Tryz.results29, go_sem, World.cell?_alloc_at], rfl, (Below.refl _ _).alloc (Nat.le_refl _) _⟩
set_option maxRecDepth 100000 in
set_option maxHeartbeats 800000 in
theorem al_91_gt (b p : Nat) (W M : Int) (w : World) (okW : Pl.okW W) (okM : Pl.okM M) (hW : w.cell? ⟨p, 0, none⟩ = some (.int .i64 W)) (hM : w.cell? ⟨p, 1, none⟩ = some (.int .i64 M)) (hle : M < W) :
    Calls Tryz.prog 29 #[.pointer (some ⟨p, 0, none⟩), (.iface 91 (.pointer (some ⟨b, 0, none⟩)))] w (AlPost M w) := by
  have hp : p < w.heap.size := World.block_lt_of_cell? _ _ hW
  have hmf : ∀ (fn : Fn) (first cap : Array Value) (w : World), (Instr.makeFunc fn first cap).run Tryz.prog w = .ok (.func fn first cap) w := fun _ _ _ _ => rfl
  have m78 := tam78 (T := 91) (by decide)
  have m60 := tam60 (T := 91) (by decide)
  have m76 := tam76 (T := 91) (by decide)
  have m63 := tam63 (T := 91) (by decide)
  have m77 := tam77 (T := 91) (by decide)
  have m81 := tam81 (T := 91) (by decide)
  have m82 := tam82 (T := 91) (by decide)
  have mt := meth91 b
  have hb : 1 ≤ W ∧ W ≤ 8 ∧ 1 ≤ M ∧ M ≤ 16 := by unfold Pl.okW at okW; unfold Pl.okM at okM; omega
  obtain ⟨hb1, hb2, hb3, hb4⟩ := hb
  have HW : ∀ o, (w.alloc o).cell? ⟨p, 0, none⟩ = some (.int .i64 W) := fun o => (World.cell?_alloc_lt _ _ _ hp).trans hW
  have HHW := hid HW
  clear okW okM HW
  go_enter_defers Tryz.func29, Tryz.ntmps29
  go_wp2_with (first | (go_at_call 110; refine (under91_any _ _).mono ?_; rintro e w' ⟨rfl, rfl⟩) | (go_at_call 36; refine (sz_91 _ _ W _ (HHW.out _)).mono ?_; rintro e w' ⟨rfl, rfl⟩) | (go_at_call 44; refine (isComplex91_any _ _).mono ?_; rintro e w' ⟨rfl, rfl⟩))
  all_goals
    refine leaves_cons (f := 39) (args := #[.pointer (some ⟨w.heap.size, 0, none⟩)]) (by simp) (by simp [go_sem]) ?_
    refine (check_d _ M (by omega) .returning _ ?_).mono ?_
    · simp [World.cell?_alloc_at]
    rintro e u' w'' ⟨rfl, rfl, rfl⟩
    exact ⟨_, by simp [results, Tryz.results29, go_sem, World.cell?_alloc_at], rfl, (Below.refl _ _).alloc (Nat.le_refl _) _⟩
theorem al_91 (b p : Nat) (W M : Int) (w : World) (okW : Pl.okW W) (okM : Pl.okM M) (hW : w.cell? ⟨p, 0, none⟩ = some (.int .i64 W)) (hM : w.cell? ⟨p, 1, none⟩ = some (.int .i64 M)) :
    Calls Tryz.prog 29 #[.pointer (some ⟨p, 0, none⟩), (.iface 91 (.pointer (some ⟨b, 0, none⟩)))] w (AlPost (min W M) w) := by
  by_cases h : W ≤ M
  · rw [Int.min_eq_left h]; exact al_91_le b p W M w okW okM hW hM h
  · rw [Int.min_eq_right (by omega)]; exact al_91_gt b p W M w okW okM hW hM (by omega)
set_option maxRecDepth 100000 in
set_option maxHeartbeats 800000 in
theorem al_76 (b p : Nat) (W M : Int) (w : World) (okW : Pl.okW W) (okM : Pl.okM M) (hW : w.cell? ⟨p, 0, none⟩ = some (.int .i64 W)) (hM : w.cell? ⟨p, 1, none⟩ = some (.int .i64 M)) :
    Calls Tryz.prog 29 #[.pointer (some ⟨p, 0, none⟩), (.iface 76 (.pointer (some ⟨b, 0, none⟩)))] w (AlPost W w) := by
  have hp : p < w.heap.size := World.block_lt_of_cell? _ _ hW
  have hmf : ∀ (fn : Fn) (first cap : Array Value) (w : World), (Instr.makeFunc fn first cap).run Tryz.prog w = .ok (.func fn first cap) w := fun _ _ _ _ => rfl
  have m60 := tam60 (T := 76) (by decide)
  have m63 := tam63 (T := 76) (by decide)
  have h76 := tah76
  have m77 := tam77 (T := 76) (by decide)
  have mt := meth76 b
  have hb : 1 ≤ W ∧ W ≤ 8 ∧ 1 ≤ M ∧ M ≤ 16 := by unfold Pl.okW at okW; unfold Pl.okM at okM; omega
  obtain ⟨hb1, hb2, hb3, hb4⟩ := hb
  clear okW okM
  go_enter_defers Tryz.func29, Tryz.ntmps29
  go_wp2_with (first | (go_at_call 97; refine (under76_any _ _).mono ?_; rintro e w' ⟨rfl, rfl⟩) | (go_at_call 42; refine (isTypeParam_any _ _ _ (by decide) (by decide)).mono ?_; rintro e w' ⟨rfl, rfl⟩) | (go_at_call 40; refine (assert_any _).mono ?_; rintro e w' ⟨rfl, rfl⟩))
  all_goals
    refine leaves_cons (f := 39) (args := #[.pointer (some ⟨w.heap.size, 0, none⟩)]) (by simp) (by simp [go_sem]) ?_
    refine (check_d _ W (by omega) .returning _ ?_).mono ?_
    · simp [World.cell?_alloc_at]
    rintro e u' w'' ⟨rfl, rfl, rfl⟩
    exact ⟨_, by simp [results, Tryz.results29, go_sem, World.cell?_alloc_at], rfl, (Below.refl _ _).alloc (Nat.le_refl _) _⟩
set_option maxRecDepth 100000 in
set_option maxHeartbeats 800000 in
theorem al_78_str (b p : Nat) (W M : Int) (w : World) (okW : Pl.okW W) (okM : Pl.okM M) (hW : w.cell? ⟨p, 0, none⟩ = some (.int .i64 W)) (hM : w.cell? ⟨p, 1, none⟩ = some (.int .i64 M)) (hi : w.cell? ⟨b, 1, none⟩ = some (.int .i64 32)) :
    Calls Tryz.prog 29 #[.pointer (some ⟨p, 0, none⟩), (.iface 78 (.pointer (some ⟨b, 0, none⟩)))] w (AlPost W w) := by
  have hp : p < w.heap.size := World.block_lt_of_cell? _ _ hW
  have hmf : ∀ (fn : Fn) (first cap : Array Value) (w : World), (Instr.makeFunc fn first cap).run Tryz.prog w = .ok (.func fn first cap) w := fun _ _ _ _ => rfl
  have m60 := tam60 (T := 78) (by decide)
  have m63 := tam63 (T := 78) (by decide)
  have m76 := tam76 (T := 78) (by decide)
  have m77 := tam77 (T := 78) (by decide)
  have m81 := tam81 (T := 78) (by decide)
  have m82 := tam82 (T := 78) (by decide)
  have h78 := tah78
  have mt := meth78 b
  have hb : 1 ≤ W ∧ W ≤ 8 ∧ 1 ≤ M ∧ M ≤ 16 := by unfold Pl.okW at okW; unfold Pl.okM at okM; omega
  obtain ⟨hb1, hb2, hb3, hb4⟩ := hb
  have hbl : b < w.heap.size := World.block_lt_of_cell? _ _ hi
  have HI : ∀ o, (w.alloc o).cell? ⟨b, 1, none⟩ = some (.int .i64 32) := fun o => (World.cell?_alloc_lt _ _ _ hbl).trans hi
  have HHI := hid HI
  have hs32 : (bits .and .i64 32 32 == 0) = false := by decide +kernel
  have hs32' : (bits .and .i64 32 32 != 0) = true := by decide +kernel
  clear okW okM HI
  go_enter_defers Tryz.func29, Tryz.ntmps29
  go_wp2_with (first | (go_at_call 101; refine (under78_any _ _).mono ?_; rintro e w' ⟨rfl, rfl⟩) | (go_at_call 43; refine (info_any _ _ _ (HHI.out _)).mono ?_; rintro e w' ⟨rfl, rfl⟩))
  all_goals
    refine leaves_cons (f := 39) (args := #[.pointer (some ⟨w.heap.size, 0, none⟩)]) (by simp) (by simp [go_sem]) ?_
    refine (check_d _ W (by omega) .returning _ ?_).mono ?_
    · simp [World.cell?_alloc_at]
    rintro e u' w'' ⟨rfl, rfl, rfl⟩
    exact ⟨_, by simp [results, Tryz.results29, go_sem, World.cell?_alloc_at], rfl, (Below.refl _ _).alloc (Nat.le_refl _) _⟩
set_option maxRecDepth 100000 in
set_option maxHeartbeats 800000 in
theorem al_78_no_le (b p : Nat) (W M : Int) (w : World) (okW : Pl.okW W) (okM : Pl.okM M) (hW : w.cell? ⟨p, 0, none⟩ = some (.int .i64 W)) (hM : w.cell? ⟨p, 1, none⟩ = some (.int .i64 M)) (info S : Int) (hS : 1 ≤ S) (hS2 : S ≤ 16) (hle : S ≤ M) (hi : w.cell? ⟨b, 1, none⟩ = some (.int .i64 info)) (h32 : (bits .and .i64 info 32 == 0) = true) (h32' : (bits .and .i64 info 32 != 0) = false) (h16 : (bits .and .i64 info 16 == 0) = true) (h16' : (bits .and .i64 info 16 != 0) = false)
    (sz : ∀ o, Calls Tryz.prog 36 #[.pointer (some ⟨p, 0, none⟩), (.iface 78 (.pointer (some ⟨b, 0, none⟩)))] (w.alloc o) fun e w' => e = .returned (.int .i64 S) ∧ w.alloc o = w') :
    Calls Tryz.prog 29 #[.pointer (some ⟨p, 0, none⟩), (.iface 78 (.pointer (some ⟨b, 0, none⟩)))] w (AlPost (S) w) := by
  have hp : p < w.heap.size := World.block_lt_of_cell? _ _ hW
  have hmf : ∀ (fn : Fn) (first cap : Array Value) (w : World), (Instr.makeFunc fn first cap).run Tryz.prog w = .ok (.func fn first cap) w := fun _ _ _ _ => rfl
  have m60 := tam60 (T := 78) (by decide)
  have m63 := tam63 (T := 78) (by decide)
  have m76 := tam76 (T := 78) (by decide)
  have m77 := tam77 (T := 78) (by decide)
  have m81 := tam81 (T := 78) (by decide)
  have m82 := tam82 (T := 78) (by decide)
  have h78 := tah78
  have mt := meth78 b
  have hb : 1 ≤ W ∧ W ≤ 8 ∧ 1 ≤ M ∧ M ≤ 16 := by unfold Pl.okW at okW; unfold Pl.okM at okM; omega
  obtain ⟨hb1, hb2, hb3, hb4⟩ := hb
  have hbl : b < w.heap.size := World.block_lt_of_cell? _ _ hi
  have HI : ∀ o, (w.alloc o).cell? ⟨b, 1, none⟩ = some (.int .i64 info) := fun o => (World.cell?_alloc_lt _ _ _ hbl).trans hi
  have HHI := hid HI
  have SZ := hid sz
  clear okW okM HI sz
  go_enter_defers Tryz.func29, Tryz.ntmps29
  go_wp2_with (first | (go_at_call 101; refine (under78_any _ _).mono ?_; rintro e w' ⟨rfl, rfl⟩) | (go_at_call 43; refine (info_any _ _ _ (HHI.out _)).mono ?_; rintro e w' ⟨rfl, rfl⟩) | (go_at_call 36; refine (SZ.out _).mono ?_; rintro e w' ⟨rfl, rfl⟩) | (go_at_call 44; refine (isComplex78_any _ _ _ (HHI.out _)).mono ?_; rintro e w' ⟨rfl, rfl⟩))
  all_goals
    refine leaves_cons (f := 39) (args := #[.pointer (some ⟨w.heap.size, 0, none⟩)]) (by simp) (by simp [go_sem]) ?_
    refine (check_d _ (S) (by omega) .returning _ ?_).mono ?_
    · simp [World.cell?_alloc_at]
    rintro e u' w'' ⟨rfl, rfl, rfl⟩
    exact ⟨_, by simp [results, Tryz.results29, go_sem, World.cell?_alloc_at], rfl, (Below.refl _ _).alloc (Nat.le_refl _) _⟩
set_option maxRecDepth 100000 in
set_option maxHeartbeats 800000 in
theorem al_78_no_gt (b p : Nat) (W M : Int) (w : World) (okW : Pl.okW W) (okM : Pl.okM M) (hW : w.cell? ⟨p, 0, none⟩ = some (.int .i64 W)) (hM : w.cell? ⟨p, 1, none⟩ = some (.int .i64 M)) (info S : Int) (hS : 1 ≤ S) (hS2 : S ≤ 16) (hle : M < S) (hi : w.cell? ⟨b, 1, none⟩ = some (.int .i64 info)) (h32 : (bits .and .i64 info 32 == 0) = true) (h32' : (bits .and .i64 info 32 != 0) = false) (h16 : (bits .and .i64 info 16 == 0) = true) (h16' : (bits .and .i64 info 16 != 0) = false)
    (sz : ∀ o, Calls Tryz.prog 36 #[.pointer (some ⟨p, 0, none⟩), (.iface 78 (.pointer (some ⟨b, 0, none⟩)))] (w.alloc o) fun e w' => e = .returned (.int .i64 S) ∧ w.alloc o = w') :
    Calls Tryz.prog 29 #[.pointer (some ⟨p, 0, none⟩), (.iface 78 (.pointer (some ⟨b, 0, none⟩)))] w (AlPost (M) w) := by
  have hp : p < w.heap.size := World.block_lt_of_cell? _ _ hW
  have hmf : ∀ (fn : Fn) (first cap : Array Value) (w : World), (Instr.makeFunc fn first cap).run Tryz.prog w = .ok (.func fn first cap) w := fun _ _ _ _ => rfl
  have m60 := tam60 (T := 78) (by decide)
  have m63 := tam63 (T := 78) (by decide)
  have m76 := tam76 (T := 78) (by decide)
  have m77 := tam77 (T := 78) (by decide)
  have m81 := tam81 (T := 78) (by decide)
  have m82 := tam82 (T := 78) (by decide)
  have h78 := tah78
  have mt := meth78 b
  have hb : 1 ≤ W ∧ W ≤ 8 ∧ 1 ≤ M ∧ M ≤ 16 := by unfold Pl.okW at okW; unfold Pl.okM at okM; omega
  obtain ⟨hb1, hb2, hb3, hb4⟩ := hb
  have hbl : b < w.heap.size := World.block_lt_of_cell? _ _ hi
  have HI : ∀ o, (w.alloc o).cell? ⟨b, 1, none⟩ = some (.int .i64 info) := fun o => (World.cell?_alloc_lt _ _ _ hbl).trans hi
  have HHI := hid HI
  have SZ := hid sz
  clear okW okM HI sz
  go_enter_defers Tryz.func29, Tryz.ntmps29
  go_wp2_with (first | (go_at_call 101; refine (under78_any _ _).mono ?_; rintro e w' ⟨rfl, rfl⟩) | (go_at_call 43; refine (info_any _ _ _ (HHI.out _)).mono ?_; rintro e w' ⟨rfl, rfl⟩) | (go_at_call 36; refine (SZ.out _).mono ?_; rintro e w' ⟨rfl, rfl⟩) | (go_at_call 44; refine (isComplex78_any _ _ _ (HHI.out _)).mono ?_; rintro e w' ⟨rfl, rfl⟩))
  all_goals
    refine leaves_cons (f := 39) (args := #[.pointer (some ⟨w.heap.size, 0, none⟩)]) (by simp) (by simp [go_sem]) ?_
    refine (check_d _ (M) (by omega) .returning _ ?_).mono ?_
    · simp [World.cell?_alloc_at]
    rintro e u' w'' ⟨rfl, rfl, rfl⟩
    exact ⟨_, by simp [results, Tryz.results29, go_sem, World.cell?_alloc_at], rfl, (Below.refl _ _).alloc (Nat.le_refl _) _⟩
set_option maxRecDepth 100000 in
set_option maxHeartbeats 800000 in
theorem al_78_cx_le (b p : Nat) (W M : Int) (w : World) (okW : Pl.okW W) (okM : Pl.okM M) (hW : w.cell? ⟨p, 0, none⟩ = some (.int .i64 W)) (hM : w.cell? ⟨p, 1, none⟩ = some (.int .i64 M)) (info S : Int) (hS : 2 ≤ S) (hS2 : S ≤ 16) (hle : S / 2 ≤ M) (hi : w.cell? ⟨b, 1, none⟩ = some (.int .i64 info)) (h32 : (bits .and .i64 info 32 == 0) = true) (h32' : (bits .and .i64 info 32 != 0) = false) (h16 : (bits .and .i64 info 16 == 0) = false) (h16' : (bits .and .i64 info 16 != 0) = true)
    (sz : ∀ o, Calls Tryz.prog 36 #[.pointer (some ⟨p, 0, none⟩), (.iface 78 (.pointer (some ⟨b, 0, none⟩)))] (w.alloc o) fun e w' => e = .returned (.int .i64 S) ∧ w.alloc o = w') :
    Calls Tryz.prog 29 #[.pointer (some ⟨p, 0, none⟩), (.iface 78 (.pointer (some ⟨b, 0, none⟩)))] w (AlPost (S / 2) w) := by
  have hp : p < w.heap.size := World.block_lt_of_cell? _ _ hW
  have hmf : ∀ (fn : Fn) (first cap : Array Value) (w : World), (Instr.makeFunc fn first cap).run Tryz.prog w = .ok (.func fn first cap) w := fun _ _ _ _ => rfl
  have m60 := tam60 (T := 78) (by decide)
  have m63 := tam63 (T := 78) (by decide)
  have m76 := tam76 (T := 78) (by decide)
  have m77 := tam77 (T := 78) (by decide)
  have m81 := tam81 (T := 78) (by decide)
  have m82 := tam82 (T := 78) (by decide)
  have h78 := tah78
  have mt := meth78 b
  have hb : 1 ≤ W ∧ W ≤ 8 ∧ 1 ≤ M ∧ M ≤ 16 := by unfold Pl.okW at okW; unfold Pl.okM at okM; omega
  obtain ⟨hb1, hb2, hb3, hb4⟩ := hb
  have hbl : b < w.heap.size := World.block_lt_of_cell? _ _ hi
  have HI : ∀ o, (w.alloc o).cell? ⟨b, 1, none⟩ = some (.int .i64 info) := fun o => (World.cell?_alloc_lt _ _ _ hbl).trans hi
  have HHI := hid HI
  have SZ := hid sz
  clear okW okM HI sz
  go_enter_defers Tryz.func29, Tryz.ntmps29
  go_wp2_with (first | (go_at_call 101; refine (under78_any _ _).mono ?_; rintro e w' ⟨rfl, rfl⟩) | (go_at_call 43; refine (info_any _ _ _ (HHI.out _)).mono ?_; rintro e w' ⟨rfl, rfl⟩) | (go_at_call 36; refine (SZ.out _).mono ?_; rintro e w' ⟨rfl, rfl⟩) | (go_at_call 44; refine (isComplex78_any _ _ _ (HHI.out _)).mono ?_; rintro e w' ⟨rfl, rfl⟩))
  all_goals
    refine leaves_cons (f := 39) (args := #[.pointer (some ⟨w.heap.size, 0, none⟩)]) (by simp) (by simp [go_sem]) ?_
    refine (check_d _ (S / 2) (by omega) .returning _ ?_).mono ?_
    · simp [World.cell?_alloc_at]
    rintro e u' w'' ⟨rfl, rfl, rfl⟩
    exact ⟨_, by simp [results, Tryz.results29, go_sem, World.cell?_alloc_at], rfl, (Below.refl _ _).alloc (Nat.le_refl _) _⟩
set_option maxRecDepth 100000 in
set_option maxHeartbeats 800000 in
theorem al_78_cx_gt (b p : Nat) (W M : Int) (w : World) (okW : Pl.okW W) (okM : Pl.okM M) (hW : w.cell? ⟨p, 0, none⟩ = some (.int .i64 W)) (hM : w.cell? ⟨p, 1, none⟩ = some (.int .i64 M)) (info S : Int) (hS : 2 ≤ S) (hS2 : S ≤ 16) (hle : M < S / 2) (hi : w.cell? ⟨b, 1, none⟩ = some (.int .i64 info)) (h32 : (bits .and .i64 info 32 == 0) = true) (h32' : (bits .and .i64 info 32 != 0) = false) (h16 : (bits .and .i64 info 16 == 0) = false) (h16' : (bits .and .i64 info 16 != 0) = true)
    (sz : ∀ o, Calls Tryz.prog 36 #[.pointer (some ⟨p, 0, none⟩), (.iface 78 (.pointer (some ⟨b, 0, none⟩)))] (w.alloc o) fun e w' => e = .returned (.int .i64 S) ∧ w.alloc o = w') :
    Calls Tryz.prog 29 #[.pointer (some ⟨p, 0, none⟩), (.iface 78 (.pointer (some ⟨b, 0, none⟩)))] w (AlPost (M) w) := by
  have hp : p < w.heap.size := World.block_lt_of_cell? _ _ hW
  have hmf : ∀ (fn : Fn) (first cap : Array Value) (w : World), (Instr.makeFunc fn first cap).run Tryz.prog w = .ok (.func fn first cap) w := fun _ _ _ _ => rfl
  have m60 := tam60 (T := 78) (by decide)
  have m63 := tam63 (T := 78) (by decide)
  have m76 := tam76 (T := 78) (by decide)
  have m77 := tam77 (T := 78) (by decide)
  have m81 := tam81 (T := 78) (by decide)
  have m82 := tam82 (T := 78) (by decide)
  have h78 := tah78
  have mt := meth78 b
  have hb : 1 ≤ W ∧ W ≤ 8 ∧ 1 ≤ M ∧ M ≤ 16 := by unfold Pl.okW at okW; unfold Pl.okM at okM; omega
  obtain ⟨hb1, hb2, hb3, hb4⟩ := hb
  have hbl : b < w.heap.size := World.block_lt_of_cell? _ _ hi
  have HI : ∀ o, (w.alloc o).cell? ⟨b, 1, none⟩ = some (.int .i64 info) := fun o => (World.cell?_alloc_lt _ _ _ hbl).trans hi
  have HHI := hid HI
  have SZ := hid sz
  clear okW okM HI sz
  go_enter_defers Tryz.func29, Tryz.ntmps29
  go_wp2_with (first | (go_at_call 101; refine (under78_any _ _).mono ?_; rintro e w' ⟨rfl, rfl⟩) | (go_at_call 43; refine (info_any _ _ _ (HHI.out _)).mono ?_; rintro e w' ⟨rfl, rfl⟩) | (go_at_call 36; refine (SZ.out _).mono ?_; rintro e w' ⟨rfl, rfl⟩) | (go_at_call 44; refine (isComplex78_any _ _ _ (HHI.out _)).mono ?_; rintro e w' ⟨rfl, rfl⟩))
  all_goals
    refine leaves_cons (f := 39) (args := #[.pointer (some ⟨w.heap.size, 0, none⟩)]) (by simp) (by simp [go_sem]) ?_
    refine (check_d _ (M) (by omega) .returning _ ?_).mono ?_
    · simp [World.cell?_alloc_at]
    rintro e u' w'' ⟨rfl, rfl, rfl⟩
    exact ⟨_, by simp [results, Tryz.results29, go_sem, World.cell?_alloc_at], rfl, (Below.refl _ _).alloc (Nat.le_refl _) _⟩

theorem al_78 (b p : Nat) (W M : Int) (w : World) (okW : Pl.okW W) (okM : Pl.okM M) (hW : w.cell? ⟨p, 0, none⟩ = some (.int .i64 W)) (hM : w.cell? ⟨p, 1, none⟩ = some (.int .i64 M)) (n : Int) (h0 : 0 ≤ n) (h1 : n < 18) (hk : w.cell? ⟨b, 0, none⟩ = some (.int .i64 (n + 1))) (hi : w.cell? ⟨b, 1, none⟩ = some (.int .i64 (infoOf n))) (ht : Tab w) :
    Calls Tryz.prog 29 #[.pointer (some ⟨p, 0, none⟩), (.iface 78 (.pointer (some ⟨b, 0, none⟩)))] w (AlPost (if n = 16 then W else min (if n = 14 ∨ n = 15 then Pl.basicSize W n / 2 else Pl.basicSize W n) M) w) := by
  have hp : p < w.heap.size := World.block_lt_of_cell? _ _ hW
  have hb : b < w.heap.size := World.block_lt_of_cell? _ _ hi
  have sz : ∀ o, Calls Tryz.prog 36 #[.pointer (some ⟨p, 0, none⟩), (.iface 78 (.pointer (some ⟨b, 0, none⟩)))] (w.alloc o) fun e w' => e = .returned (.int .i64 (Pl.basicSize W n)) ∧ w.alloc o = w' := fun o =>
    sz_78 b p n W (w.alloc o) h0 h1 ((World.cell?_alloc_lt _ _ _ hp).trans hW) okW ((World.cell?_alloc_lt _ _ _ hb).trans hk) ((World.cell?_alloc_lt _ _ _ hb).trans hi) (ht.kept (.of_below ((Below.refl _ _).alloc (Nat.le_refl _) o)))
  have bs := Pl.basicSize_ok okW n
  by_cases h16 : n = 16
  · subst h16
    rw [if_pos rfl]
    exact al_78_str b p W M w okW okM hW hM hi
  rw [if_neg h16]
  have f32 : (bits .and .i64 (infoOf n) 32 == 0) = true ∧ (bits .and .i64 (infoOf n) 32 != 0) = false := by
    unfold infoOf
    rw [if_neg h16]
    repeat' split
    all_goals decide +kernel
  by_cases hc : n = 14 ∨ n = 15
  · rw [if_pos hc]
    have f16 : (bits .and .i64 (infoOf n) 16 == 0) = false ∧ (bits .and .i64 (infoOf n) 16 != 0) = true := by
      rcases hc with rfl | rfl <;> decide +kernel
    have b2 : 2 ≤ Pl.basicSize W n := by rcases hc with rfl | rfl <;> simp [Pl.basicSize]
    by_cases h : Pl.basicSize W n / 2 ≤ M
    · rw [Int.min_eq_left h]; exact al_78_cx_le b p W M w okW okM hW hM _ _ b2 bs.2 h hi f32.1 f32.2 f16.1 f16.2 sz
    · rw [Int.min_eq_right (by omega)]; exact al_78_cx_gt b p W M w okW okM hW hM _ _ b2 bs.2 (by omega) hi f32.1 f32.2 f16.1 f16.2 sz
  · rw [if_neg hc]
    have f16 : (bits .and .i64 (infoOf n) 16 == 0) = true ∧ (bits .and .i64 (infoOf n) 16 != 0) = false := by
      rcases (show n = 0 ∨ (1 ≤ n ∧ n ≤ 5) ∨ (6 ≤ n ∧ n ≤ 11) ∨ n = 12 ∨ n = 13 ∨ n = 17 by omega) with rfl | h | h | rfl | rfl | rfl
      · decide +kernel
      · rw [show infoOf n = 2 by unfold infoOf; rw [if_neg (by omega), if_pos (by omega)]]; decide +kernel
      · rw [show infoOf n = 6 by unfold infoOf; rw [if_neg (by omega), if_neg (by omega), if_pos (by omega)]]; decide +kernel
      · decide +kernel
      · decide +kernel
      · decide +kernel
    by_cases h : Pl.basicSize W n ≤ M
    · rw [Int.min_eq_left h]; exact al_78_no_le b p W M w okW okM hW hM _ _ bs.1 bs.2 h hi f32.1 f32.2 f16.1 f16.2 sz
    · rw [Int.min_eq_right (by omega)]; exact al_78_no_gt b p W M w okW okM hW hM _ _ bs.1 bs.2 (by omega) hi f32.1 f32.2 f16.1 f16.2 sz
end Go.Proofs.YtphfjojdiilneaaGreatDoor
