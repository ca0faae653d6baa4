/- The walk of works: the package's Sizeof of a type of one word. -/
import Derived.Test.YtphfjojdiilneaaGreatDoorSzs
import Derived.Test.YtphfjojdiilneaaGreatDoorSpc
import Derived.Test.YtphfjojdiilneaaGreatDoorIal
import Derived.Deep.RegionHeld3
set_option linter.unusedVariables false
set_option linter.unusedSimpArgs false
namespace Go.Proofs.YtphfjojdiilneaaGreatDoor
open Go.RowKit

theorem SzPost.exact {s : Int} {w : World} {e : Ending} {w' : World} (h0 : 0 ≤ s) (h : SzPost s w e w') : IntPost s w e w' := by
  obtain ⟨r, rfl, ha, _, hb⟩ := h
  exact ⟨by rw [show r = s by rcases ha with ⟨h1, _⟩ | ⟨_, h2⟩ <;> omega], hb⟩

set_option maxHeartbeats 1000000 in
theorem works_any (W M : Int) (okW : Pl.okW W) (okM : Pl.okM M) (w : World) (ht : Tab w) :
    Calls Tryz.prog 23 #[.agg #[.int .i64 W, .int .i64 M]] w (BoolPost true w) := by
  have hW : 0 ≤ W := by unfold Pl.okW at okW; omega
  have CALL : Hid (∀ wx, Below w.heap.size w wx → Calls Tryz.prog 24 #[.int .i64 W, .int .i64 M, .agg #[.int .i64 0, .int .i64 1, .slice none 0 0]] wx (IntPost W wx)) := by
    intro wx hb
    have := iszof (.mk 0 1 []) (by decide) W M okW okM (.slice none 0 0) wx (ht.kept (.of_below hb)) (.nil none 0) ⟨by simp [Pl.Ty.k], by simp [Pl.Ty.k]⟩ ⟨by simp [Pl.Ty.n], by simp [Pl.Ty.n]⟩
    refine this.mono fun e w' h => SzPost.exact hW ?_
    simpa [Pl.sz, Pl.basicSize] using h
  clear okW okM ht hW
  go_enter Tryz.func23, Tryz.ntmps23
  go_wp2_with fail
  have HB0 := hid (((Below.refl w.heap.size w).alloc (Nat.le_refl _) (Obj.cells #[.int .i64 W, .int .i64 M] 29)).drew)
  go_region_held3 (fun x => x.cell? ⟨w.heap.size, 0, none⟩ = some (.int .i64 W) ∧ x.cell? ⟨w.heap.size, 1, none⟩ = some (.int .i64 M))
    (first | go_keep)
    (first
      | (go_at_call 24; refine (CALL.out _ HB0.out).mono ?_; rintro e w2 ⟨rfl, hb2⟩
         have HB2 := hid (below_of HB0.out hb2)
         have hc2 : ∀ b o, b < w.heap.size + 1 → w2.cell? ⟨b, o, none⟩ = (w.alloc (Obj.cells #[.int .i64 W, .int .i64 M] 29)).cell? ⟨b, o, none⟩ := fun b o h => bcell hb2 b o (by (simp; omega))
         clear hb2))
  clear hc2
  go_wp2
  go_ret
  exact ⟨by simp, HB2.out⟩
end Go.Proofs.YtphfjojdiilneaaGreatDoor
