/- The walk of FnNothing. -/
import Derived.Test.YtphfjojdiilneaaGreatDoorHas
set_option linter.unusedVariables false
set_option linter.unusedSimpArgs false
namespace Go.Proofs.YtphfjojdiilneaaGreatDoor
open Go.RowKit

/-- The types that hold nothing. -/
def N0 (t : Pl.Ty) : Pl.Ty := .mk 3 0 [t]
def N1 : Pl.Ty := .mk 6 0 []
def N2 (t : Pl.Ty) : Pl.Ty := .mk 6 0 [N0 t, N1, N0 t]
def N3 (p : Int) (t : Pl.Ty) : Pl.Ty := .mk 3 p [N2 t]
theorem n_valid (p : Int) (hp : 0 ≤ p) (t : Pl.Ty) (hv : Pl.valid t = true) : Pl.valid (N0 t) = true ∧ Pl.valid N1 = true ∧ Pl.valid (N2 t) = true ∧ Pl.valid (N3 p t) = true := by
  have h0 : Pl.valid (N0 t) = true := by simp [N0, Pl.valid, Pl.validL, Pl.need, hv]
  have h1 : Pl.valid N1 = true := by simp [N1, Pl.valid, Pl.validL, Pl.need]
  have h2 : Pl.valid (N2 t) = true := by simp [N2, Pl.valid, Pl.validL, Pl.need, h0, h1]
  exact ⟨h0, h1, h2, by simp [N3, Pl.valid, Pl.validL, Pl.need, h2, hp]⟩
theorem n_size (p : Int) (hp : 0 ≤ p) (t : Pl.Ty) (W M : Int) (okW : Pl.okW W) (okM : Pl.okM M) : Pl.sz W M (N0 t) = 0 ∧ Pl.sz W M N1 = 0 ∧ Pl.sz W M (N2 t) = 0 ∧ Pl.sz W M (N3 p t) = 0 := by
  have h0 : Pl.sz W M (N0 t) = 0 := by simp [N0, Pl.sz, Pl.prs, Pl.arr_zero_len]
  have h1 : Pl.sz W M N1 = 0 := by simp [N1, Pl.sz, Pl.prs, Pl.fin]
  have ha : ∀ u, 1 ≤ Pl.al W M u := fun u => (Pl.al_isAl okW okM u).le.1
  have hs : Pl.sum 0 0 = 0 := by simp [Pl.sum]
  have h2 : Pl.sz W M (N2 t) = 0 := by
    have e : Pl.sz W M (N2 t) = Pl.fin 0 (Pl.prs W M [N0 t, N1, N0 t]) := by simp [N2, Pl.sz]
    rw [e]
    simp only [Pl.prs, Pl.fin, h0, h1, Pl.up_zero _ (ha _), hs]
  refine ⟨h0, h1, h2, ?_⟩
  have e : Pl.sz W M (N3 p t) = Pl.arr p (Pl.al W M (N2 t)) (Pl.sz W M (N2 t)) := by simp [N3, Pl.sz, Pl.prs]
  rw [e, h2]
  by_cases hz : p = 0
  · rw [hz, Pl.arr_zero_len]
  · exact Pl.arr_zero p _ (by omega) (ha _)

theorem zero_call (u : Pl.Ty) (hv : Pl.valid u = true) (W M : Int) (okW : Pl.okW W) (okM : Pl.okM M) (hz : Pl.sz W M u = 0) (hk : Pl.in64 u.k) (hn : Pl.in64 u.n) (sv : Value) (w : World) (ht : Tab w) (hl : Lie w u.es sv) :
    Calls Tryz.prog 24 #[.int .i64 W, .int .i64 M, .agg #[.int .i64 u.k, .int .i64 u.n, sv]] w (IntPost 0 w) := by
  refine (iszof u hv W M okW okM sv w ht hl hk hn).mono fun e w' h => SzPost.exact (Int.le_refl _) ?_
  rwa [hz] at h

theorem nothing_fam (t : Pl.Ty) (hv : Pl.valid t = true) (p : Int) (hp : 0 ≤ p) (hp2 : p ≤ 9223372036854775807) (W M : Int) (okW : Pl.okW W) (okM : Pl.okM M) (h64k : Pl.in64 t.k) (h64n : Pl.in64 t.n) (b1 b2 b3 b4 : Nat) (sv : Value) (w : World) (ht : Tab w) (hl : Lie w t.es sv)
    (h1 : Has w b1 #[.int .i64 t.k, .int .i64 t.n, sv])
    (h2 : Has w b2 #[.int .i64 3, .int .i64 0, .slice (some ⟨b1, 0, none⟩) 1 1, .int .i64 6, .int .i64 0, .slice none 0 0, .int .i64 3, .int .i64 0, .slice (some ⟨b1, 0, none⟩) 1 1])
    (h3 : Has w b3 #[.int .i64 6, .int .i64 0, .slice (some ⟨b2, 0, none⟩) 3 3])
    (h4 : Has w b4 #[.int .i64 3, .int .i64 0, .slice (some ⟨b1, 0, none⟩) 1 1, .int .i64 6, .int .i64 0, .slice none 0 0, .int .i64 6, .int .i64 0, .slice (some ⟨b2, 0, none⟩) 3 3, .int .i64 3, .int .i64 p, .slice (some ⟨b3, 0, none⟩) 1 1]) :
    ∀ k, k < 4 → ∃ (tk tn : Int) (sa : Option Addr) (sl sc : Nat), w.cell? ⟨b4, k * 3, none⟩ = some (.int .i64 tk) ∧ w.cell? ⟨b4, k * 3 + 1, none⟩ = some (.int .i64 tn) ∧ w.cell? ⟨b4, k * 3 + 2, none⟩ = some (.slice sa sl sc) ∧
      ∀ wx, Below w.heap.size w wx → Calls Tryz.prog 24 #[.int .i64 W, .int .i64 M, .agg #[.int .i64 tk, .int .i64 tn, .slice sa sl sc]] wx (IntPost 0 wx) := by
  obtain ⟨v0, v1, v2, v3⟩ := n_valid p hp t hv
  obtain ⟨z0, z1, z2, z3⟩ := n_size p hp t W M okW okM
  have i3 : Pl.in64 3 := ⟨by omega, by omega⟩
  have i6 : Pl.in64 6 := ⟨by omega, by omega⟩
  have i0 : Pl.in64 0 := ⟨by omega, by omega⟩
  have L0 : Lie w [t] (.slice (some ⟨b1, 0, none⟩) 1 1) := h1.one h64k h64n hl
  have L2 : Lie w [N0 t, N1, N0 t] (.slice (some ⟨b2, 0, none⟩) 3 3) := Has.three (t0 := N0 t) (t1 := N1) (t2 := N0 t) h2 (by
    intro u hu
    simp only [List.mem_cons, List.not_mem_nil, or_false] at hu
    rcases hu with rfl | rfl | rfl
    · exact ⟨i3, i0⟩
    · exact ⟨i6, i0⟩
    · exact ⟨i3, i0⟩) L0 (.nil none 0) L0
  have L3 : Lie w [N2 t] (.slice (some ⟨b3, 0, none⟩) 1 1) := Has.one (t := N2 t) h3 i6 i0 L2
  intro k hk
  rcases (show k = 0 ∨ k = 1 ∨ k = 2 ∨ k = 3 by omega) with rfl | rfl | rfl | rfl
  · exact ⟨3, 0, _, _, _, h4.2 0 _ rfl, h4.2 1 _ rfl, h4.2 2 _ rfl, fun wx hb => zero_call (N0 t) v0 W M okW okM z0 i3 i0 _ wx (ht.kept (.of_below hb)) (L0.kept (.of_below hb))⟩
  · exact ⟨6, 0, _, _, _, h4.2 3 _ rfl, h4.2 4 _ rfl, h4.2 5 _ rfl, fun wx hb => zero_call N1 v1 W M okW okM z1 i6 i0 _ wx (ht.kept (.of_below hb)) (.nil none 0)⟩
  · exact ⟨6, 0, _, _, _, h4.2 6 _ rfl, h4.2 7 _ rfl, h4.2 8 _ rfl, fun wx hb => zero_call (N2 t) v2 W M okW okM z2 i6 i0 _ wx (ht.kept (.of_below hb)) (L2.kept (.of_below hb))⟩
  · exact ⟨3, p, _, _, _, h4.2 9 _ rfl, h4.2 10 _ rfl, h4.2 11 _ rfl, fun wx hb => zero_call (N3 p t) v3 W M okW okM z3 i3 ⟨show -9223372036854775808 ≤ p by omega, hp2⟩ _ wx (ht.kept (.of_below hb)) (L3.kept (.of_below hb))⟩

/-- What lies in the six blocks that the law makes ahead of its loop. -/
theorem chain8 (w3 : World) (W M k n : Int) (sv : Value) : ∀ w4, w4 = (((((((((((w3.alloc (.cells #[.int .i64 W, .int .i64 M] 29))).alloc (.cells #[.int .i64 k, .int .i64 n, sv] 25))).alloc (.cells #[.int .i64 3, .int .i64 0, .slice (some ⟨w3.heap.size + 1, 0, none⟩) 1 1] 25))).alloc (.cells #[.int .i64 6, .int .i64 0, .slice none 0 0] 25))).alloc (.cells #[.int .i64 3, .int .i64 0, .slice (some ⟨w3.heap.size + 1, 0, none⟩) 1 1, .int .i64 6, .int .i64 0, .slice none 0 0, .int .i64 3, .int .i64 0, .slice (some ⟨w3.heap.size + 1, 0, none⟩) 1 1] 25))).alloc (.cells #[.int .i64 6, .int .i64 0, .slice (some ⟨w3.heap.size + 1 + 1 + 1 + 1, 0, none⟩) 3 3] 25)) →
    Below w3.heap.size w3 w4 ∧ Has w4 (w3.heap.size) #[.int .i64 W, .int .i64 M] ∧ Has w4 (w3.heap.size + 1) #[.int .i64 k, .int .i64 n, sv] ∧ Has w4 (w3.heap.size + 1 + 1) #[.int .i64 3, .int .i64 0, .slice (some ⟨w3.heap.size + 1, 0, none⟩) 1 1] ∧ Has w4 (w3.heap.size + 1 + 1 + 1) #[.int .i64 6, .int .i64 0, .slice none 0 0] ∧ Has w4 (w3.heap.size + 1 + 1 + 1 + 1) #[.int .i64 3, .int .i64 0, .slice (some ⟨w3.heap.size + 1, 0, none⟩) 1 1, .int .i64 6, .int .i64 0, .slice none 0 0, .int .i64 3, .int .i64 0, .slice (some ⟨w3.heap.size + 1, 0, none⟩) 1 1] ∧ Has w4 (w3.heap.size + 1 + 1 + 1 + 1 + 1) #[.int .i64 6, .int .i64 0, .slice (some ⟨w3.heap.size + 1 + 1 + 1 + 1, 0, none⟩) 3 3] := by
  rintro w4 rfl
  have al : ∀ {w : World} (o : Obj), Below w3.heap.size w3 w → Below w3.heap.size w3 (w.alloc o) := fun o h => h.alloc h.size o
  refine ⟨al _ (al _ (al _ (al _ (al _ (al _ (Below.refl _ _)))))), ?_, ?_, ?_, ?_, ?_, ?_⟩
  · exact (((((Has.new _ _ _ (by simp)).alloc _).alloc _).alloc _).alloc _).alloc _
  · exact ((((Has.new _ _ _ (by simp)).alloc _).alloc _).alloc _).alloc _
  · exact (((Has.new _ _ _ (by simp)).alloc _).alloc _).alloc _
  · exact ((Has.new _ _ _ (by simp)).alloc _).alloc _
  · exact (Has.new _ _ _ (by simp)).alloc _
  · exact Has.new _ _ _ (by simp)

set_option maxRecDepth 100000 in
set_option maxHeartbeats 4000000 in
theorem law8_fit (t : Pl.Ty) (x : Int) (c : Bool) (a : Int) (hx : Pl.in64 x) (ha : Pl.in64 a) (sv : Value) (w : World) (ht : Tab w) (hl : Lie w t.es sv) (hfit : (t.es.length : Int) ≤ 2147483647) (h64k : Pl.in64 t.k) (h64n : Pl.in64 t.n) :
    Calls Tryz.prog 8 #[.agg #[.int .i64 t.k, .int .i64 t.n, sv], .int .i64 x, .bool c, .int .i64 a] w (LawPost w) := by
  obtain ⟨sa, sc, rfl⟩ := hl.slice
  have TAB := hid ht
  have HL := hid hl
  have FIT : Hid (∀ x : World, Calls Tryz.prog 15 #[.agg #[.int .i64 t.k, .int .i64 t.n, .slice sa t.es.length sc]] x (BoolPost true x)) := by
    intro x
    have := fits_any t.k t.n sa t.es.length sc (by omega) x
    rwa [decide_eq_true hfit] at this
  have VAL : Hid (∀ (b : Nat) (x : World), Lie x t.es (.slice sa t.es.length sc) → x.cell? ⟨b, 0, none⟩ = some (.int .i64 t.k) → x.cell? ⟨b, 1, none⟩ = some (.int .i64 t.n) → x.cell? ⟨b, 2, none⟩ = some (.slice sa t.es.length sc) → Calls Tryz.prog 16 #[.slice (some ⟨b, 0, none⟩) 1 1] x (BoolPost (Pl.valid t) x)) :=
    fun b x h1 h2 h3 h4 => val_one t _ rfl h64k h64n b _ x h1 h2 h3 h4
  clear hl ht hfit
  generalize hsl : t.es.length = sl at *
  go_enter Tryz.func8, Tryz.ntmps8
  go_wp2_with fail
  have hb0 : Below w.heap.size w (w.alloc (Obj.cells #[Value.int IntKind.i64 t.k, Value.int IntKind.i64 t.n, Value.slice sa sl sc] 25)) := (Below.refl _ _).alloc (Nat.le_refl _) _
  refine (FIT.out _).mono ?_
  rintro e w1 ⟨rfl, hb1⟩
  have b0 : w1.cell? ⟨w.heap.size, 0, none⟩ = some (.int .i64 t.k) := by rw [bcell hb1 _ _ (by simp)]; simp
  have b1 : w1.cell? ⟨w.heap.size, 1, none⟩ = some (.int .i64 t.n) := by rw [bcell hb1 _ _ (by simp)]; simp
  have b2 : w1.cell? ⟨w.heap.size, 2, none⟩ = some (.slice sa sl sc) := by rw [bcell hb1 _ _ (by simp)]; simp
  have B1 := hid (below_of hb0 hb1)
  have s1 : w.heap.size < w1.heap.size := by have := hb1.size; simp at this; omega
  clear hb0 hb1
  go_wp2_with fail
  have hb1 : Below w1.heap.size w1 (w1.alloc (Obj.cells #[Value.int IntKind.i64 t.k, Value.int IntKind.i64 t.n, Value.slice sa sl sc] 25)) := (Below.refl _ _).alloc (Nat.le_refl _) _
  refine (VAL.out _ _ (HL.out.kept (.of_below (below_of B1.out hb1))) ?_ ?_ ?_).mono ?_
  · simp
  · simp
  · simp
  rintro e w2 ⟨rfl, hb2⟩
  have hb2 := below_of hb1 hb2
  have B2 := hid (below_of B1.out hb2)
  have c0 := (bcell hb2 _ _ s1).trans b0
  have c1 := (bcell hb2 _ _ s1).trans b1
  have c2 := (bcell hb2 _ _ s1).trans b2
  have s2 : w.heap.size < w2.heap.size := Nat.lt_of_lt_of_le s1 hb2.size
  clear b0 b1 b2 hb1 hb2 s1
  cases hv : Pl.valid t with
  | false =>
    clear hv
    go_wp2_with fail
    go_ret
    exact ⟨rfl, B2.out⟩
  | true =>
    have HV := hid hv
    clear hv
    go_wp2_with fail
    refine (sizes_any c a ha _).mono ?_
    rintro e w3 ⟨W, M, rfl, okW, okM, hb3⟩
    have d0 := (bcell hb3 _ _ s2).trans c0
    have d1 := (bcell hb3 _ _ s2).trans c1
    have d2 := (bcell hb3 _ _ s2).trans c2
    have s3 : w.heap.size < w3.heap.size := Nat.lt_of_lt_of_le s2 hb3.size
    have B3 := hid (below_of B2.out hb3)
    have OKW := hid okW
    have OKM := hid okM
    clear hb3 c0 c1 c2 s2 okW okM
    go_wp2_with fail
    obtain ⟨hbn, hQ, hB1, hC1, hC2, hB2, hC3⟩ := chain8 w3 W M t.k t.n (.slice sa sl sc) _ rfl
    generalize (((((((((((w3.alloc (.cells #[.int .i64 W, .int .i64 M] 29))).alloc (.cells #[.int .i64 t.k, .int .i64 t.n, .slice sa sl sc] 25))).alloc (.cells #[.int .i64 3, .int .i64 0, .slice (some ⟨w3.heap.size + 1, 0, none⟩) 1 1] 25))).alloc (.cells #[.int .i64 6, .int .i64 0, .slice none 0 0] 25))).alloc (.cells #[.int .i64 3, .int .i64 0, .slice (some ⟨w3.heap.size + 1, 0, none⟩) 1 1, .int .i64 6, .int .i64 0, .slice none 0 0, .int .i64 3, .int .i64 0, .slice (some ⟨w3.heap.size + 1, 0, none⟩) 1 1] 25))).alloc (.cells #[.int .i64 6, .int .i64 0, .slice (some ⟨w3.heap.size + 1 + 1 + 1 + 1, 0, none⟩) 3 3] 25)) = w4 at *
    have hq5 : w3.heap.size + 1 + 1 + 1 + 1 + 1 < w4.heap.size := hC3.1
    have hq0 : w3.heap.size < w4.heap.size := by omega
    generalize hg5 : w3.heap.size + 1 + 1 + 1 + 1 + 1 = q5 at *
    generalize hg4 : w3.heap.size + 1 + 1 + 1 + 1 = q4 at *
    generalize hg3 : w3.heap.size + 1 + 1 + 1 = q3 at *
    generalize hg2 : w3.heap.size + 1 + 1 = q2 at *
    generalize hg1 : w3.heap.size + 1 = q1 at *
    have B4 := hid (below_of B3.out hbn)
    have f0 : w4.cell? ⟨q2, 0, none⟩ = some (.int .i64 3) := hC1.2 0 _ rfl
    have f1 : w4.cell? ⟨q2, 1, none⟩ = some (.int .i64 0) := hC1.2 1 _ rfl
    have f2 : w4.cell? ⟨q2, 2, none⟩ = some (.slice (some ⟨q1, 0, none⟩) 1 1) := hC1.2 2 _ rfl
    have f3 : w4.cell? ⟨q3, 0, none⟩ = some (.int .i64 6) := hC2.2 0 _ rfl
    have f4 : w4.cell? ⟨q3, 1, none⟩ = some (.int .i64 0) := hC2.2 1 _ rfl
    have f5 : w4.cell? ⟨q3, 2, none⟩ = some (.slice none 0 0) := hC2.2 2 _ rfl
    have f6 : w4.cell? ⟨q5, 0, none⟩ = some (.int .i64 6) := hC3.2 0 _ rfl
    have f7 : w4.cell? ⟨q5, 1, none⟩ = some (.int .i64 0) := hC3.2 1 _ rfl
    have f8 : w4.cell? ⟨q5, 2, none⟩ = some (.slice (some ⟨q4, 0, none⟩) 3 3) := hC3.2 2 _ rfl
    have l2 : q2 < w4.heap.size := by omega
    have l3 : q3 < w4.heap.size := by omega
    have HQ := hid hQ
    have HB1 := hid hB1
    have HB2 := hid hB2
    have PL : Hid (∀ wx : World, Calls Tryz.prog 19 #[.int .i64 x, .int .i64 1099511627776] wx fun e w' => e = .returned (.int .i64 (x % 1099511627776)) ∧ wx = w') := fun wx => place_any x 1099511627776 wx hx (by omega) (by omega)
    have P0 := hid (Int.emod_nonneg x (show (1099511627776 : Int) ≠ 0 by omega))
    have P1 := hid (Int.emod_lt_of_pos x (show (0 : Int) < 1099511627776 by omega))
    clear hbn hQ hB1 hC1 hC2 hB2 hC3 hg1 hg2 hg3 hg4 hg5 hx d0 d1 d2 s3
    generalize x % 1099511627776 = p at *
    go_region_held3 (fun y => y.cell? ⟨q2, 0, none⟩ = some (.int .i64 3) ∧ y.cell? ⟨q2, 1, none⟩ = some (.int .i64 0) ∧ y.cell? ⟨q2, 2, none⟩ = some (.slice (some ⟨q1, 0, none⟩) 1 1) ∧ y.cell? ⟨q3, 0, none⟩ = some (.int .i64 6) ∧ y.cell? ⟨q3, 1, none⟩ = some (.int .i64 0) ∧ y.cell? ⟨q3, 2, none⟩ = some (.slice none 0 0) ∧ y.cell? ⟨q5, 0, none⟩ = some (.int .i64 6) ∧ y.cell? ⟨q5, 1, none⟩ = some (.int .i64 0) ∧ y.cell? ⟨q5, 2, none⟩ = some (.slice (some ⟨q4, 0, none⟩) 3 3))
      (first | go_keep)
      (first | (go_at_call 19; refine (PL.out _).mono ?_; rintro e w5 ⟨rfl, rfl⟩))
    all_goals
      have g3 : Has (((w4.alloc (.cells #[.int .i64 6, .int .i64 0, .slice (some ⟨q4, 0, none⟩) 3 3] 25)).alloc (.cells #[.int .i64 3, .int .i64 0, .slice (some ⟨q1, 0, none⟩) 1 1, .int .i64 6, .int .i64 0, .slice none 0 0, .int .i64 6, .int .i64 0, .slice (some ⟨q4, 0, none⟩) 3 3, .int .i64 3, .int .i64 p, .slice (some ⟨w4.heap.size, 0, none⟩) 1 1] 25)).drew) w4.heap.size #[.int .i64 6, .int .i64 0, .slice (some ⟨q4, 0, none⟩) 3 3] := (Has.new w4 #[.int .i64 6, .int .i64 0, .slice (some ⟨q4, 0, none⟩) 3 3] 25 rfl).alloc _
      have g4 : Has (((w4.alloc (.cells #[.int .i64 6, .int .i64 0, .slice (some ⟨q4, 0, none⟩) 3 3] 25)).alloc (.cells #[.int .i64 3, .int .i64 0, .slice (some ⟨q1, 0, none⟩) 1 1, .int .i64 6, .int .i64 0, .slice none 0 0, .int .i64 6, .int .i64 0, .slice (some ⟨q4, 0, none⟩) 3 3, .int .i64 3, .int .i64 p, .slice (some ⟨w4.heap.size, 0, none⟩) 1 1] 25)).drew) (w4.heap.size + 1) #[.int .i64 3, .int .i64 0, .slice (some ⟨q1, 0, none⟩) 1 1, .int .i64 6, .int .i64 0, .slice none 0 0, .int .i64 6, .int .i64 0, .slice (some ⟨q4, 0, none⟩) 3 3, .int .i64 3, .int .i64 p, .slice (some ⟨w4.heap.size, 0, none⟩) 1 1] := Has.new _ _ _ (by simp)
      have hbl : Below w4.heap.size w4 (((w4.alloc (.cells #[.int .i64 6, .int .i64 0, .slice (some ⟨q4, 0, none⟩) 3 3] 25)).alloc (.cells #[.int .i64 3, .int .i64 0, .slice (some ⟨q1, 0, none⟩) 1 1, .int .i64 6, .int .i64 0, .slice none 0 0, .int .i64 6, .int .i64 0, .slice (some ⟨q4, 0, none⟩) 3 3, .int .i64 3, .int .i64 p, .slice (some ⟨w4.heap.size, 0, none⟩) 1 1] 25)).drew) := (((Below.refl _ _).alloc (Nat.le_refl _) _).alloc (by simp) _).drew
      have HB5 := hid (below_of B4.out hbl)
      have FAM := hid (nothing_fam t HV.out p P0.out (by have := P1.out; omega) W M OKW.out OKM.out h64k h64n q1 q4 w4.heap.size (w4.heap.size + 1) _ (((w4.alloc (.cells #[.int .i64 6, .int .i64 0, .slice (some ⟨q4, 0, none⟩) 3 3] 25)).alloc (.cells #[.int .i64 3, .int .i64 0, .slice (some ⟨q1, 0, none⟩) 1 1, .int .i64 6, .int .i64 0, .slice none 0 0, .int .i64 6, .int .i64 0, .slice (some ⟨q4, 0, none⟩) 3 3, .int .i64 3, .int .i64 p, .slice (some ⟨w4.heap.size, 0, none⟩) 1 1] 25)).drew) (TAB.out.kept (.of_below HB5.out)) (HL.out.kept (.of_below HB5.out)) (HB1.out.below hbl) (HB2.out.below hbl) g3 g4)
      have e0 := (HQ.out.below hbl).2 0 _ rfl
      have e1 := (HQ.out.below hbl).2 1 _ rfl
      have ez := (HQ.out.below hbl).1
      clear g3 g4 hbl f0 f1 f2 f3 f4 f5 f6 f7 f8
      generalize (((w4.alloc (.cells #[.int .i64 6, .int .i64 0, .slice (some ⟨q4, 0, none⟩) 3 3] 25)).alloc (.cells #[.int .i64 3, .int .i64 0, .slice (some ⟨q1, 0, none⟩) 1 1, .int .i64 6, .int .i64 0, .slice none 0 0, .int .i64 6, .int .i64 0, .slice (some ⟨q4, 0, none⟩) 3 3, .int .i64 3, .int .i64 p, .slice (some ⟨w4.heap.size, 0, none⟩) 1 1] 25)).drew) = w5 at *
      generalize w4.heap.size + 1 = b4 at *
      go_wp2_with fail
      go_loopw [44] (fun i wr => ∃ k : Nat, k ≤ 4 ∧ i = .int .i64 k ∧ Below w5.heap.size w5 wr) (fun i _ => 4 - (intOf i).toNat)
      case atStart => exact ⟨0, by omega, rfl, Below.refl _ _⟩
      case round =>
        obtain ⟨k, hk, rfl, hbw⟩ := hrel
        by_cases hlt : k < 4
        · obtain ⟨tk, tn, sa', sl', sc', c0, c1, c2, hcall⟩ := FAM.out k hlt
          have CALL := hid hcall
          have hb4 : b4 < w5.heap.size := World.block_lt_of_cell? _ _ c0
          have hb4r : b4 < wr.heap.size := Nat.lt_of_lt_of_le hb4 hbw.size
          have d0 := (bcell hbw _ _ hb4).trans c0
          have d1 := (bcell hbw _ _ hb4).trans c1
          have d2 := (bcell hbw _ _ hb4).trans c2
          have d3 := (bcell hbw _ _ ez).trans e0
          have d4 := (bcell hbw _ _ ez).trans e1
          have dz := Nat.lt_of_lt_of_le ez hbw.size
          have HBW := hid hbw
          clear hcall c0 c1 c2 hbw e0 e1
          have hb1 : Hid (∀ o, Below wr.heap.size wr (wr.alloc o)) := fun o => (Below.refl _ _).alloc (Nat.le_refl _) _
          go_wp2_with fail
          refine (CALL.out _ (below_of HBW.out (hb1.out _))).mono ?_
          rintro e w6 ⟨rfl, hb6⟩
          have HB6 := hid (below_of HBW.out (below_of (hb1.out _) hb6))
          clear hb6 d0 d1 d2 d3 d4
          go_wp2_with fail
          go_roundw
          case rel => exact ⟨k + 1, by omega, by go_num, HB6.out⟩
          case measure => simp [intOf]; omega
        · obtain rfl : k = 4 := by omega
          have d3 := (bcell hbw _ _ ez).trans e0
          have d4 := (bcell hbw _ _ ez).trans e1
          have HBW := hid (below_of HB5.out hbw)
          clear hbw e0 e1
          go_wp2_with fail
          refine (works_any W M OKW.out OKM.out _ (TAB.out.kept (.of_below HBW.out))).mono ?_
          rintro e w9 ⟨rfl, hb9⟩
          have HB9 := hid (below_of HBW.out hb9)
          clear hb9
          go_wp2_with fail
          go_ret
          exact ⟨rfl, HB9.out⟩
set_option maxHeartbeats 400000 in
theorem law8_unfit (k n x : Int) (c : Bool) (a : Int) (sa : Option Addr) (sl sc : Nat) (w : World) (hsl : sl ≤ 9223372036854775807) (hfit : ¬ (sl : Int) ≤ 2147483647) :
    Calls Tryz.prog 8 #[.agg #[.int .i64 k, .int .i64 n, .slice sa sl sc], .int .i64 x, .bool c, .int .i64 a] w (LawPost w) := by
  have FIT : Hid (∀ x : World, Calls Tryz.prog 15 #[.agg #[.int .i64 k, .int .i64 n, .slice sa sl sc]] x (BoolPost false x)) := by
    intro x
    have := fits_any k n sa sl sc hsl x
    rwa [decide_eq_false hfit] at this
  clear hsl hfit
  have hb0 : Below w.heap.size w (w.alloc (Obj.cells #[Value.int IntKind.i64 k, Value.int IntKind.i64 n, Value.slice sa sl sc] 25)) := (Below.refl _ _).alloc (Nat.le_refl _) _
  go_enter Tryz.func8, Tryz.ntmps8
  go_wp2_with fail
  refine (FIT.out _).mono ?_
  rintro e w1 ⟨rfl, hb1⟩
  have B1 := hid (below_of hb0 hb1)
  clear hb1
  go_wp2_with fail
  go_ret
  exact ⟨rfl, B1.out⟩
theorem law8 (t : Pl.Ty) (x : Int) (c : Bool) (a : Int) (hx : Pl.in64 x) (ha : Pl.in64 a) (sv : Value) (w : World) (ht : Tab w) (hl : Lie w t.es sv) (h64k : Pl.in64 t.k) (h64n : Pl.in64 t.n) :
    Calls Tryz.prog 8 #[.agg #[.int .i64 t.k, .int .i64 t.n, sv], .int .i64 x, .bool c, .int .i64 a] w (LawPost w) := by
  by_cases hfit : (t.es.length : Int) ≤ 2147483647
  · exact law8_fit t x c a hx ha sv w ht hl hfit h64k h64n
  · have hlen := hl.len
    obtain ⟨sa, sc, rfl⟩ := hl.slice
    exact law8_unfit t.k t.n x c a sa _ sc w (by unfold reach at hlen; omega) hfit
end Go.Proofs.YtphfjojdiilneaaGreatDoor
