/- A block's cells, told at once; and types that lie in one block. -/
import Derived.Test.YtphfjojdiilneaaGreatDoorWrk
set_option linter.unusedVariables false
set_option linter.unusedSimpArgs false
namespace Go.Proofs.YtphfjojdiilneaaGreatDoor
open Go.RowKit

/-- Block b holds A. -/
def Has (w : World) (b : Nat) (A : Array Value) : Prop := b < w.heap.size ∧ ∀ j v, A[j]? = some v → w.cell? ⟨b, j, none⟩ = some v
theorem Has.new (w : World) (A : Array Value) (t : TypeId) {b : Nat} (h : b = w.heap.size) : Has (w.alloc (.cells A t)) b A := by
  subst h
  exact ⟨by simp, fun j v hv => by rw [World.cell?_alloc_at (hn := rfl)]; exact hv⟩
theorem Has.alloc {w : World} {b : Nat} {A : Array Value} (h : Has w b A) (o : Obj) : Has (w.alloc o) b A :=
  ⟨Nat.lt_of_lt_of_le h.1 (by simp), fun j v hv => (World.cell?_alloc_lt w o ⟨b, j, none⟩ h.1).trans (h.2 j v hv)⟩
theorem Has.below {w w' : World} {b : Nat} {A : Array Value} (h : Has w b A) (hb : Below w.heap.size w w') : Has w' b A :=
  ⟨Nat.lt_of_lt_of_le h.1 hb.size, fun j v hv => (bcell hb b j h.1).trans (h.2 j v hv)⟩
theorem Has.drew {w : World} {b : Nat} {A : Array Value} (h : Has w b A) : Has w.drew b A := h
theorem Has.one {w : World} {b : Nat} {t : Pl.Ty} {sv : Value} (h : Has w b #[.int .i64 t.k, .int .i64 t.n, sv]) (hk : Pl.in64 t.k) (hn : Pl.in64 t.n) (hl : Lie w t.es sv) : Lie w [t] (.slice (some ⟨b, 0, none⟩) 1 1) := by
  refine .row b 0 1 [t] (fun _ => sv) (Nat.le_refl _) (by simp [reach]) ?_ ?_ ?_
  · intro i hi
    obtain rfl : i = 0 := by simp at hi; omega
    exact ⟨h.2 0 _ rfl, h.2 1 _ rfl, h.2 2 _ rfl⟩
  · intro i hi
    obtain rfl : i = 0 := by simp at hi; omega
    exact ⟨hk, hn⟩
  · intro i hi
    obtain rfl : i = 0 := by simp at hi; omega
    exact hl
theorem Has.three {w : World} {b : Nat} {t0 t1 t2 : Pl.Ty} {s0 s1 s2 : Value} (h : Has w b #[.int .i64 t0.k, .int .i64 t0.n, s0, .int .i64 t1.k, .int .i64 t1.n, s1, .int .i64 t2.k, .int .i64 t2.n, s2]) (hk : ∀ t ∈ [t0, t1, t2], Pl.in64 t.k ∧ Pl.in64 t.n) (h0 : Lie w t0.es s0) (h1 : Lie w t1.es s1) (h2 : Lie w t2.es s2) :
    Lie w [t0, t1, t2] (.slice (some ⟨b, 0, none⟩) 3 3) := by
  refine .row b 0 3 [t0, t1, t2] (fun i => if i = 0 then s0 else if i = 1 then s1 else s2) (Nat.le_refl _) (by simp [reach]) ?_ ?_ ?_
  · intro i hi
    rcases (show i = 0 ∨ i = 1 ∨ i = 2 by simp at hi; omega) with rfl | rfl | rfl
    · exact ⟨h.2 0 _ rfl, h.2 1 _ rfl, h.2 2 _ rfl⟩
    · exact ⟨h.2 3 _ rfl, h.2 4 _ rfl, h.2 5 _ rfl⟩
    · exact ⟨h.2 6 _ rfl, h.2 7 _ rfl, h.2 8 _ rfl⟩
  · intro i hi
    exact hk _ (List.getElem_mem hi)
  · intro i hi
    rcases (show i = 0 ∨ i = 1 ∨ i = 2 by simp at hi; omega) with rfl | rfl | rfl
    · exact h0
    · exact h1
    · exact h2

end Go.Proofs.YtphfjojdiilneaaGreatDoor
