/- FnOneMore: what is appended, as cells; and the ways on which a slice is too long. -/
import Derived.Test.YtphfjojdiilneaaGreatDoorSsz
import Derived.Test.YtphfjojdiilneaaGreatDoorPof
import Derived.Test.YtphfjojdiilneaaGreatDoorApp
set_option linter.unusedVariables false
set_option linter.unusedSimpArgs false
namespace Go.Proofs.YtphfjojdiilneaaGreatDoor
open Go.RowKit

theorem Lie.flat {w : World} {es : List Pl.Ty} {ad : Addr} {n cap : Nat} (h : Lie w es (.slice (some ad) n cap)) : ∃ l : List (Pl.Ty × Value), l.map (·.1) = es ∧ (∀ p ∈ l, Pl.in64 p.1.k ∧ Pl.in64 p.1.n ∧ Lie w p.1.es p.2) ∧ ∀ j u, (flatT l)[j]? = some u → w.cell? (ad.add j) = some u := by
  cases h with
  | nil a cap => exact ⟨[], rfl, fun p hp => by simp at hp, fun j u h => by simp [flatT] at h⟩
  | row b off cap es sv hc hr hk h64 hs =>
    refine ⟨(List.range es.length).map fun i => (es.getD i (.mk 0 0 []), sv i), ?_, ?_, ?_⟩
    · refine List.ext_getElem (by simp) fun i h1 h2 => ?_
      simp [List.getD_eq_getElem?_getD, List.getElem?_eq_getElem h2]
    · intro p hp
      obtain ⟨i, hi, rfl⟩ := List.mem_map.1 hp
      have hi := List.mem_range.1 hi
      have e : es.getD i (.mk 0 0 []) = es[i] := by simp [List.getD_eq_getElem?_getD, List.getElem?_eq_getElem hi]
      simp only [e]
      exact ⟨(h64 i hi).1, (h64 i hi).2, hs i hi⟩
    · intro j u hu
      have hj : j < es.length * 3 := by
        have := (List.getElem?_eq_some_iff.1 hu).1
        rw [flatT_length] at this
        simpa using this
      obtain ⟨i, o, ho, rfl⟩ : ∃ i o, o < 3 ∧ j = i * 3 + o := ⟨j / 3, j % 3, by omega, by omega⟩
      have hi : i < es.length := by omega
      have e : es.getD i (.mk 0 0 []) = es[i] := by simp [List.getD_eq_getElem?_getD, List.getElem?_eq_getElem hi]
      obtain ⟨c0, c1, c2⟩ := hk i hi
      obtain ⟨f0, f1, f2⟩ := flatT_at ((List.range es.length).map fun i => (es.getD i (.mk 0 0 []), sv i)) i (by simpa using hi)
      simp only [List.getElem_map, List.getElem_range, e] at f0 f1 f2
      rw [Addr.add_lit, ← Nat.add_assoc]
      rcases (show o = 0 ∨ o = 1 ∨ o = 2 by omega) with rfl | rfl | rfl
      · rw [Nat.add_zero] at hu ⊢
        rw [f0] at hu
        rw [← Option.some.inj hu]; exact c0
      · rw [f1] at hu
        rw [← Option.some.inj hu]; exact c1
      · rw [f2] at hu
        rw [← Option.some.inj hu]; exact c2
theorem flat_one {w : World} {l : List (Pl.Ty × Value)} (h : ∀ p ∈ l, Pl.in64 p.1.k ∧ Pl.in64 p.1.n ∧ Lie w p.1.es p.2) : ∀ u ∈ flatT l, u.oneCell' = true := by
  intro u hu
  obtain ⟨p, hp, hu⟩ := List.mem_flatMap.1 hu
  obtain ⟨a, c, e⟩ := (h p hp).2.2.slice
  rw [e] at hu
  simp only [List.mem_cons, List.not_mem_nil, or_false] at hu
  rcases hu with rfl | rfl | rfl <;> rfl

/-- What came in as the list, as cells to append. -/
theorem Lie.src {w : World} {es : List Pl.Ty} {sa : Option Addr} {sc : Nat} (h : Lie w es (.slice sa es.length sc)) (hnil : ∀ n cap, Value.slice sa es.length sc = .slice none n cap → cap = 0) :
    ∃ l : List (Pl.Ty × Value), l.map (·.1) = es ∧ (∀ p ∈ l, Pl.in64 p.1.k ∧ Pl.in64 p.1.n ∧ Lie w p.1.es p.2) ∧ Src w sa es.length sc (flatT l) := by
  cases sa with
  | some ad =>
    obtain ⟨l, h1, h2, h3⟩ := h.flat
    exact ⟨l, h1, h2, .inl ⟨ad, rfl, h3⟩⟩
  | none =>
    have hc : sc = 0 := hnil _ _ rfl
    have he : es = [] := by
      generalize hn : es.length = n at h
      cases h with
      | nil a cap => rfl
    subst he
    subst hc
    exact ⟨[], rfl, fun p hp => by simp at hp, .inr ⟨rfl, rfl, rfl, rfl⟩⟩

theorem law13_long (es : List Pl.Ty) (k n : Int) (c : Bool) (a : Int) (sa ta : Option Addr) (sc tl tc : Nat) (w : World) (hsl : es.length ≤ 9223372036854775807) (hfit : ¬ (es.length : Int) ≤ 2147483647) :
    Calls Tryz.prog 13 #[.slice sa es.length sc, .agg #[.int .i64 k, .int .i64 n, .slice ta tl tc], .bool c, .int .i64 a] w (LawPost w) := by
  have hb0 : Below w.heap.size w (w.alloc (Obj.cells #[Value.int IntKind.i64 k, Value.int IntKind.i64 n, Value.slice ta tl tc] 25)) := (Below.refl _ _).alloc (Nat.le_refl _) _
  generalize es.length = sl at *
  go_enter Tryz.func13, Tryz.ntmps13
  go_wp2_with fail
  go_ret
  exact ⟨rfl, hb0⟩
theorem law13_unfit (es : List Pl.Ty) (k n : Int) (c : Bool) (a : Int) (sa ta : Option Addr) (sc tl tc : Nat) (w : World) (hsl : (es.length : Int) ≤ 2147483647) (htl : tl ≤ 9223372036854775807) (hfit : ¬ (tl : Int) ≤ 2147483647) :
    Calls Tryz.prog 13 #[.slice sa es.length sc, .agg #[.int .i64 k, .int .i64 n, .slice ta tl tc], .bool c, .int .i64 a] w (LawPost w) := by
  have hb0 : Below w.heap.size w (w.alloc (Obj.cells #[Value.int IntKind.i64 k, Value.int IntKind.i64 n, Value.slice ta tl tc] 25)) := (Below.refl _ _).alloc (Nat.le_refl _) _
  have FIT : Hid (∀ x : World, Calls Tryz.prog 15 #[.agg #[.int .i64 k, .int .i64 n, .slice ta tl tc]] x (BoolPost false x)) := by
    intro x
    have := fits_any k n ta tl tc htl x
    rwa [decide_eq_false hfit] at this
  clear htl hfit
  generalize es.length = sl at *
  go_enter Tryz.func13, Tryz.ntmps13
  go_wp2_with fail
  refine (FIT.out _).mono ?_
  rintro e w1 ⟨rfl, hb1⟩
  have B1 := hid (below_of hb0 hb1)
  clear hb1
  go_wp2_with fail
  go_ret
  exact ⟨rfl, B1.out⟩
end Go.Proofs.YtphfjojdiilneaaGreatDoor
