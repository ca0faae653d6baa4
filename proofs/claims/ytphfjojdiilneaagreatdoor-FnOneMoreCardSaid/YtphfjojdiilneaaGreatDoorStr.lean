/- The walk of NewStruct: a struct with the given fields. -/
import Derived.Test.YtphfjojdiilneaaGreatDoorMem
set_option linter.unusedVariables false
set_option linter.unusedSimpArgs false
namespace Go.Proofs.YtphfjojdiilneaaGreatDoor
open Go.RowKit
set_option maxHeartbeats 400000 in
theorem mark_some (b g len cap : Nat) (w : World) (hc : w.cell? ⟨b, 0, none⟩ = some (.slice (some ⟨g, 0, none⟩) len cap)) :
    Calls Tryz.prog 64 #[.pointer (some ⟨b, 0, none⟩)] w fun e w' => e = .returned (.tuple #[]) ∧ w = w' := by
  have h1 := Lib.run_eql_slice_nil (P := Tryz.prog)
  go_enter Tryz.func64, Tryz.ntmps64
  go_wp2
  go_end0
  exact ⟨rfl, rfl⟩
set_option maxHeartbeats 400000 in
theorem mark_nil (b : Nat) (w : World) (hc : w.cell? ⟨b, 0, none⟩ = some (.slice none 0 0)) (hf : w.frozen? ⟨b, 0, none⟩ = false) (hlt : b < w.heap.size) :
    Calls Tryz.prog 64 #[.pointer (some ⟨b, 0, none⟩)] w fun e w' => e = .returned (.tuple #[]) ∧ (w.setCell ⟨b, 0, none⟩ (.slice (some ⟨w.heap.size, 0, none⟩) 0 0)).alloc (.cells #[] 68) = w' := by
  have h1 := Lib.run_eql_slice_nil (P := Tryz.prog)
  have hmk : ∀ w, (Instr.makeSlice 56 (.int .i64 0) (.int .i64 0)).run Tryz.prog w = .ok (.slice (some ⟨w.heap.size, 0, none⟩) 0 0) (w.alloc (.cells #[] 68)) := fun _ => by kernel_rfl
  go_enter Tryz.func64, Tryz.ntmps64
  go_wp2
  go_end0
  exact ⟨rfl, rfl⟩

/-- What NewStruct hands back: a struct with these fields. -/
def NewStr (len : Nat) (a0 : Option Addr) (w : World) (e : Ending) (w' : World) : Prop :=
  ∃ (b : Nat) (a : Option Addr) (cap : Nat), e = .returned (.pointer (some ⟨b, 0, none⟩)) ∧ w.heap.size ≤ b ∧ w'.cell? ⟨b, 0, none⟩ = some (.slice a len cap) ∧ (len = 0 ∨ a = a0) ∧ Below w.heap.size w w'

set_option maxHeartbeats 400000 in
theorem newStruct_nil (w : World) :
    Calls Tryz.prog 51 #[.slice none 0 0, .slice none 0 0] w (NewStr 0 none w) := by
  have fin : ∀ o1 : Obj, ∀ x t, NewStr 0 none w (.returned (.pointer (some ⟨w.heap.size + 1, 0, none⟩))) (((w.alloc o1).alloc (.cells #[.slice (some ⟨w.heap.size + 1 + 1, 0, none⟩) 0 0, x] t)).alloc (.cells #[] 68)) := by
    intro o1 x t
    refine ⟨w.heap.size + 1, some ⟨w.heap.size + 1 + 1, 0, none⟩, 0, rfl, by omega, ?_, .inl rfl, ?_⟩
    · rw [World.cell?_alloc_lt _ _ _ (by simp), World.cell?_alloc_at (hn := by simp)]
      rfl
    · exact ((((Below.refl _ _).alloc (Nat.le_refl _) _).alloc (by simp) _).alloc (by simp; omega) _)
  have F := hid fin
  clear fin
  go_enter Tryz.func51, Tryz.ntmps51
  go_wp2_with fail
  go_loop [7, 11] (fun _ i => i = .int .i64 0) (fun _ _ => 0)
  case atStart => rfl
  case round =>
    subst hrel
    go_wp2_with fail
    refine (mark_nil _ _ ?_ ?_ ?_).mono ?_
    · simp
    · simp
    · simp
    rintro e w' ⟨rfl, rfl⟩
    go_wp2
    go_ret
    exact F.out _ _ _
set_option maxHeartbeats 400000 in
theorem newStruct_some (len g cap : Nat) (vb Tb bb : Nat → Nat) (w : World) (hr : len * 8 ≤ reach) (hf : FieldCells w.cell? len (some ⟨g, 0, none⟩) vb Tb bb) :
    Calls Tryz.prog 51 #[.slice (some ⟨g, 0, none⟩) len cap, .slice none 0 0] w (NewStr len (some ⟨g, 0, none⟩) w) := by
  unfold reach at hr
  have hfc : ∀ i, i < len → w.cell? ⟨g, i, none⟩ = some (.pointer (some ⟨vb i, 0, none⟩)) ∧ w.cell? ⟨vb i, 2, none⟩ = some (.string ⟨#[95]⟩) ∧ vb i < w.heap.size := by
    intro i hi
    obtain ⟨g', hg, h1, h2, _⟩ := hf i hi
    obtain rfl : g = g' := by simpa using hg
    exact ⟨h1, h2, World.block_lt_of_cell? _ _ h2⟩
  have fin : ∀ o1 o2 : Obj, ∀ x t, o2 = .cells #[.slice (some ⟨g, 0, none⟩) len cap, x] t →
      NewStr len (some ⟨g, 0, none⟩) w (.returned (.pointer (some ⟨w.heap.size + 1, 0, none⟩))) ((w.alloc o1).alloc o2) := by
    intro o1 o2 x t ho
    have hb : Below w.heap.size w ((w.alloc o1).alloc o2) := ((Below.refl _ _).alloc (Nat.le_refl _) _).alloc (by simp) _
    refine ⟨w.heap.size + 1, some ⟨g, 0, none⟩, cap, rfl, by omega, ?_, .inr rfl, hb⟩
    rw [ho, World.cell?_alloc_at (hn := by simp)]
    rfl
  have F := hid fin
  have HC := hid hfc
  clear hf hfc fin
  go_enter Tryz.func51, Tryz.ntmps51
  go_wp2_with fail
  go_loop [7, 11] (fun _ i => ∃ k : Nat, k ≤ len ∧ i = .int .i64 k) (fun _ i => len - (intOf i).toNat)
  case atStart => exact ⟨0, by omega, rfl⟩
  case round =>
    obtain ⟨k, hk, rfl⟩ := hrel
    by_cases hlt : k < len
    · obtain ⟨c1, c2, c3⟩ := HC.out k hlt
      have hgl : g < w.heap.size := World.block_lt_of_cell? _ _ c1
      go_wp2_with fail
      go_round
      case rel => exact ⟨k + 1, by omega, by go_num⟩
      case measure => simp [intOf]; omega
    · go_wp2_with fail
      refine (mark_some _ g len cap _ ?_).mono ?_
      · simp [World.cell?_alloc_at]
      rintro e w' ⟨rfl, rfl⟩
      go_wp2
      go_ret
      exact F.out _ _ _ _ rfl
end Go.Proofs.YtphfjojdiilneaaGreatDoor
