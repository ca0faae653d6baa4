/- Types that lie in a slice that the call itself builds by append. -/
import Derived.Test.YtphfjojdiilneaaGreatDoorHas
import Derived.Test.YtphfjojdiilneaaGreatDoorSof
set_option linter.unusedVariables false
set_option linter.unusedSimpArgs false
namespace Go.Proofs.YtphfjojdiilneaaGreatDoor
open Go.RowKit

/-- The cells of some types, with their slices. -/
def flatT (l : List (Pl.Ty × Value)) : List Value := l.flatMap fun p => [.int .i64 p.1.k, .int .i64 p.1.n, p.2]
theorem flatT_append (l m : List (Pl.Ty × Value)) : flatT (l ++ m) = flatT l ++ flatT m := by simp [flatT]
theorem flatT_length (l : List (Pl.Ty × Value)) : (flatT l).length = l.length * 3 := by
  induction l with
  | nil => rfl
  | cons p r ih =>
    have : flatT (p :: r) = [.int .i64 p.1.k, .int .i64 p.1.n, p.2] ++ flatT r := by simp [flatT]
    rw [this, List.length_append, ih]
    simp; omega
theorem flatT_at (l : List (Pl.Ty × Value)) (i : Nat) (h : i < l.length) : (flatT l)[i * 3]? = some (.int .i64 (l[i]).1.k) ∧ (flatT l)[i * 3 + 1]? = some (.int .i64 (l[i]).1.n) ∧ (flatT l)[i * 3 + 2]? = some (l[i]).2 := by
  induction l generalizing i with
  | nil => simp at h
  | cons p r ih =>
    have e : flatT (p :: r) = [.int .i64 p.1.k, .int .i64 p.1.n, p.2] ++ flatT r := by simp [flatT]
    cases i with
    | zero => rw [e]; simp
    | succ i =>
      have := ih i (by simpa using h)
      have g : ∀ o, (flatT (p :: r))[(i + 1) * 3 + o]? = (flatT r)[i * 3 + o]? := by
        intro o
        rw [e, List.getElem?_append_right (by simp; omega)]
        congr 1
        simp; omega
      have g0 := g 0
      simp only [Nat.add_zero] at g0
      rw [g0, g 1, g 2]
      simpa using this

/-- What the call's own slice holds, as types. -/
theorem own_lie {w : World} {B cap : Nat} {v : Value} (l : List (Pl.Ty × Value)) (hown : w.ownsRow B 25 3 v l.length (flatT l)) (hl : ∀ p ∈ l, Pl.in64 p.1.k ∧ Pl.in64 p.1.n ∧ Lie w p.1.es p.2) (hr : l.length * 40 ≤ reach) : Lie w (l.map (·.1)) v := by
  rcases hown.2 with ⟨rfl, h0⟩ | ⟨g, cap, cur, rfl, hg, hh, hc, _, hs, ht⟩
  · have : l = [] := List.eq_nil_of_length_eq_zero h0
    subst this
    exact .nil none 0
  · have L := Lie.row (w := w) g 0 cap (l.map (·.1)) (fun i => if h : i < l.length then (l[i]).2 else .nilFunc) (by simpa using hc) (by simpa using hr) ?_ ?_ ?_
    · rwa [List.length_map] at L
    · intro i hi
      have hi' : i < l.length := by simpa using hi
      obtain ⟨c0, c1, c2⟩ := flatT_at l i hi'
      have d0 := hown.cells (g := g) rfl _ _ c0
      have d1 := hown.cells (g := g) rfl _ _ c1
      have d2 := hown.cells (g := g) rfl _ _ c2
      simp only [Addr.add_lit] at d0 d1 d2
      refine ⟨?_, ?_, ?_⟩
      · rw [d0]; simp
      · rw [Nat.add_assoc, d1]; simp
      · rw [Nat.add_assoc, d2, dif_pos hi']
    · intro i hi
      have hi' : i < l.length := by simpa using hi
      have := hl _ (List.getElem_mem hi')
      simp only [List.getElem_map]
      exact ⟨this.1, this.2.1⟩
    · intro i hi
      have hi' : i < l.length := by simpa using hi
      have := hl _ (List.getElem_mem hi')
      simp only [List.getElem_map, dif_pos hi']
      exact this.2.2

theorem info25 : (Tryz.prog.info? 25).map (fun i => (i.zero, i.size, i.bytes)) = some (some (.agg #[.int .i64 0, .int .i64 0, .slice none 0 0]), 3, 40) := by kernel_rfl

/-- k copies of one type, behind k rounds of append. -/
def RepInv (w0 : World) (x : Pl.Ty) (sv : Value) (k : Nat) (v : Value) (wr : World) : Prop :=
  wr.ownsRow w0.heap.size 25 3 v k (flatT (List.replicate k (x, sv))) ∧ Below w0.heap.size w0 wr
theorem RepInv.start (w0 : World) (x : Pl.Ty) (sv : Value) : RepInv w0 x sv 0 (.slice none 0 0) w0 := ⟨World.ownsRow_nil _ _ _ _, Below.refl _ _⟩
theorem RepInv.step {w0 : World} {x : Pl.Ty} {sv : Value} {k : Nat} {v : Value} {wr w1 w5 : World} (h : RepInv w0 x sv k v wr) (hb : Below wr.heap.size wr w1) {v' : Value}
    (hown : w5.ownsRow w0.heap.size 25 3 v' (k + 1) (flatT (List.replicate k (x, sv)) ++ [.int .i64 x.k, .int .i64 x.n, sv])) (hg : w1.grownBy w5 v.ownBlock) : RepInv w0 x sv (k + 1) v' w5 := by
  obtain ⟨h1, h2⟩ := h
  refine ⟨?_, (below_of h2 hb).grown hg (Nat.le_trans h2.size hb.size) fun j hj => (h1.lt j hj).1⟩
  rw [List.replicate_succ', flatT_append]
  exact hown
theorem RepInv.lie {w0 : World} {x : Pl.Ty} {sv : Value} {k : Nat} {v : Value} {wr : World} (h : RepInv w0 x sv k v wr) (hk : Pl.in64 x.k) (hn : Pl.in64 x.n) (hl : Lie wr x.es sv) (hr : k * 40 ≤ reach) : Lie wr (List.replicate k x) v := by
  have h1 := h.1
  have e : (List.replicate k (x, sv)).length = k := List.length_replicate
  have := own_lie (cap := 0) (List.replicate k (x, sv)) (by rw [e]; exact h1) (fun p hp => by rw [(List.mem_replicate.1 hp).2]; exact ⟨hk, hn, hl⟩) (by rw [e]; exact hr)
  rwa [List.map_replicate] at this
end Go.Proofs.YtphfjojdiilneaaGreatDoor
