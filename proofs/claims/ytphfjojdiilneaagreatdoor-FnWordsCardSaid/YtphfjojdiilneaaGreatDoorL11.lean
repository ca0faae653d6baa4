/- The walk of FnWords. -/
import Derived.Test.YtphfjojdiilneaaGreatDoorHas
set_option linter.unusedVariables false
set_option linter.unusedSimpArgs false
namespace Go.Proofs.YtphfjojdiilneaaGreatDoor
open Go.RowKit

theorem two_below' (w : World) (o o' : Obj) : Below w.heap.size w ((w.alloc o).alloc o') := ((Below.refl _ _).alloc (Nat.le_refl _) _).alloc (by simp) _
theorem Has.two {w : World} {b : Nat} {t0 t1 : Pl.Ty} {s0 s1 : Value} (h : Has w b #[.int .i64 t0.k, .int .i64 t0.n, s0, .int .i64 t1.k, .int .i64 t1.n, s1]) (hk0 : Pl.in64 t0.k) (hn0 : Pl.in64 t0.n) (hk1 : Pl.in64 t1.k) (hn1 : Pl.in64 t1.n) (h0 : Lie w t0.es s0) (h1 : Lie w t1.es s1) :
    Lie w [t0, t1] (.slice (some ⟨b, 0, none⟩) 2 2) := by
  refine .row b 0 2 [t0, t1] (fun i => if i = 0 then s0 else s1) (Nat.le_refl _) (by simp [reach]) ?_ ?_ ?_
  · intro i hi
    rcases (show i = 0 ∨ i = 1 by simp at hi; omega) with rfl | rfl
    · exact ⟨h.2 0 _ rfl, h.2 1 _ rfl, h.2 2 _ rfl⟩
    · exact ⟨h.2 3 _ rfl, h.2 4 _ rfl, h.2 5 _ rfl⟩
  · intro i hi
    rcases (show i = 0 ∨ i = 1 by simp at hi; omega) with rfl | rfl
    · exact ⟨hk0, hn0⟩
    · exact ⟨hk1, hn1⟩
  · intro i hi
    rcases (show i = 0 ∨ i = 1 by simp at hi; omega) with rfl | rfl
    · exact h0
    · exact h1

set_option maxHeartbeats 400000 in
/-- The law's own function: the package's Sizeof, for the sizes behind Q. -/
theorem size_fn (u : Pl.Ty) (hv : Pl.valid u = true) (W M s : Int) (okW : Pl.okW W) (okM : Pl.okM M) (hs : Pl.sz W M u = s) (h0 : 0 ≤ s) (hk : Pl.in64 u.k) (hn : Pl.in64 u.n) (sv : Value) (Q : Nat) (w : World) (ht : Tab w) (hl : Lie w u.es sv) (hq : Has w Q #[.int .i64 W, .int .i64 M]) :
    Calls Tryz.prog 26 #[.agg #[.int .i64 u.k, .int .i64 u.n, sv], .pointer (some ⟨Q, 0, none⟩)] w (IntPost s w) := by
  obtain ⟨sa, sc, rfl⟩ := hl.slice
  have CALL : Hid (∀ wx, Below w.heap.size w wx → Calls Tryz.prog 24 #[.int .i64 W, .int .i64 M, .agg #[.int .i64 u.k, .int .i64 u.n, .slice sa u.es.length sc]] wx (IntPost s wx)) := by
    intro wx hb
    refine (iszof u hv W M okW okM _ wx (ht.kept (.of_below hb)) (hl.kept (.of_below hb)) hk hn).mono fun e w' h => SzPost.exact h0 ?_
    rwa [hs] at h
  have q0 := hq.2 0 _ rfl
  have q1 := hq.2 1 _ rfl
  have qz := hq.1
  clear hv okW okM hs h0 ht hl hq
  generalize u.es.length = sl at *
  go_enter Tryz.func26, Tryz.ntmps26
  go_wp2_with fail
  have hb1 : Below w.heap.size w (w.alloc (Obj.cells #[Value.int IntKind.i64 u.k, Value.int IntKind.i64 u.n, Value.slice sa sl sc] 25)) := (Below.refl _ _).alloc (Nat.le_refl _) _
  refine (CALL.out _ hb1).mono ?_
  rintro e w2 ⟨rfl, hb2⟩
  have HB := hid (below_of hb1 hb2)
  clear hb1 hb2
  go_wp2_with fail
  go_ret
  exact ⟨rfl, HB.out⟩

theorem w_valid (x y : Pl.Ty) (hx : Pl.valid x = true) (hy : Pl.valid y = true) : Pl.valid (.mk 1 0 [x]) = true ∧ Pl.valid (.mk 5 0 [x]) = true ∧ Pl.valid (.mk 4 0 [x, y]) = true ∧ Pl.valid (.mk 2 0 [x]) = true ∧ Pl.valid (.mk 0 16 []) = true ∧ Pl.valid (.mk 0 11 []) = true ∧ Pl.valid (.mk 0 17 []) = true := by
  simp [Pl.valid, Pl.validL, Pl.need, hx, hy]
theorem w_size (x y : Pl.Ty) (W M : Int) : Pl.sz W M (.mk 1 0 [x]) = W ∧ Pl.sz W M (.mk 5 0 [x]) = W ∧ Pl.sz W M (.mk 4 0 [x, y]) = W ∧ Pl.sz W M (.mk 2 0 [x]) = 3 * W ∧ Pl.sz W M (.mk 0 16 []) = 2 * W ∧ Pl.sz W M (.mk 0 11 []) = W ∧ Pl.sz W M (.mk 0 17 []) = W := by
  simp [Pl.sz, Pl.basicSize]

set_option maxHeartbeats 400000 in
theorem law11_unfit (k n k' n' : Int) (c : Bool) (a : Int) (xa ya : Option Addr) (xl xc yl yc : Nat) (w : World) (hxl : xl ≤ 9223372036854775807) (hyl : yl ≤ 9223372036854775807) (hfit : ¬ ((xl : Int) ≤ 2147483647 ∧ (yl : Int) ≤ 2147483647)) :
    Calls Tryz.prog 11 #[.agg #[.int .i64 k, .int .i64 n, .slice xa xl xc], .agg #[.int .i64 k', .int .i64 n', .slice ya yl yc], .bool c, .int .i64 a] w (LawPost w) := by
  have hb0 := two_below' w (Obj.cells #[Value.int IntKind.i64 k, Value.int IntKind.i64 n, Value.slice xa xl xc] 25) (Obj.cells #[Value.int IntKind.i64 k', Value.int IntKind.i64 n', Value.slice ya yl yc] 25)
  by_cases hx : (xl : Int) ≤ 2147483647
  · have FX : Hid (∀ x : World, Calls Tryz.prog 15 #[.agg #[.int .i64 k, .int .i64 n, .slice xa xl xc]] x (BoolPost true x)) := by
      intro x
      have := fits_any k n xa xl xc hxl x
      rwa [decide_eq_true hx] at this
    have FY : Hid (∀ x : World, Calls Tryz.prog 15 #[.agg #[.int .i64 k', .int .i64 n', .slice ya yl yc]] x (BoolPost false x)) := by
      intro x
      have := fits_any k' n' ya yl yc hyl x
      rwa [decide_eq_false (by omega)] at this
    clear hxl hyl hfit hx
    go_enter Tryz.func11, Tryz.ntmps11
    go_wp2_with fail
    refine (FX.out _).mono ?_
    rintro e w1 ⟨rfl, hb1⟩
    have B1 := hid (below_of hb0 hb1)
    have z1 : w.heap.size + 1 < w1.heap.size := by have := hb1.size; simp at this; omega
    have b0 : w1.cell? ⟨w.heap.size + 1, 0, none⟩ = some (.int .i64 k') := by rw [bcell hb1 _ _ (by simp)]; simp [World.cell?_alloc_at]
    have b1 : w1.cell? ⟨w.heap.size + 1, 1, none⟩ = some (.int .i64 n') := by rw [bcell hb1 _ _ (by simp)]; simp [World.cell?_alloc_at]
    have b2 : w1.cell? ⟨w.heap.size + 1, 2, none⟩ = some (.slice ya yl yc) := by rw [bcell hb1 _ _ (by simp)]; simp [World.cell?_alloc_at]
    clear hb1
    go_wp2_with fail
    refine (FY.out _).mono ?_
    rintro e w2 ⟨rfl, hb2⟩
    have B2 := hid (below_of B1.out hb2)
    clear hb2 b0 b1 b2
    go_wp2_with fail
    go_ret
    exact ⟨rfl, B2.out⟩
  · have FX : Hid (∀ x : World, Calls Tryz.prog 15 #[.agg #[.int .i64 k, .int .i64 n, .slice xa xl xc]] x (BoolPost false x)) := by
      intro x
      have := fits_any k n xa xl xc hxl x
      rwa [decide_eq_false hx] at this
    clear hxl hyl hfit hx
    go_enter Tryz.func11, Tryz.ntmps11
    go_wp2_with fail
    refine (FX.out _).mono ?_
    rintro e w1 ⟨rfl, hb1⟩
    have B1 := hid (below_of hb0 hb1)
    clear hb1
    go_wp2_with fail
    go_ret
    exact ⟨rfl, B1.out⟩

set_option maxRecDepth 100000 in
set_option maxHeartbeats 4000000 in
theorem law11_fit (x y : Pl.Ty) (c : Bool) (a : Int) (ha : Pl.in64 a) (sx sy : Value) (w : World) (ht : Tab w) (hl : Lie w x.es sx) (hl' : Lie w y.es sy) (hfx : (x.es.length : Int) ≤ 2147483647) (hfy : (y.es.length : Int) ≤ 2147483647)
    (hxk : Pl.in64 x.k) (hxn : Pl.in64 x.n) (hyk : Pl.in64 y.k) (hyn : Pl.in64 y.n) :
    Calls Tryz.prog 11 #[.agg #[.int .i64 x.k, .int .i64 x.n, sx], .agg #[.int .i64 y.k, .int .i64 y.n, sy], .bool c, .int .i64 a] w (LawPost w) := by
  obtain ⟨xa, xc, rfl⟩ := hl.slice
  obtain ⟨ya, yc, rfl⟩ := hl'.slice
  have TAB := hid ht
  have LX := hid hl
  have LY := hid hl'
  have FX : Hid (∀ z : World, Calls Tryz.prog 15 #[.agg #[.int .i64 x.k, .int .i64 x.n, .slice xa x.es.length xc]] z (BoolPost true z)) := by
    intro z
    have := fits_any x.k x.n xa x.es.length xc (by omega) z
    rwa [decide_eq_true hfx] at this
  have FY : Hid (∀ z : World, Calls Tryz.prog 15 #[.agg #[.int .i64 y.k, .int .i64 y.n, .slice ya y.es.length yc]] z (BoolPost true z)) := by
    intro z
    have := fits_any y.k y.n ya y.es.length yc (by omega) z
    rwa [decide_eq_true hfy] at this
  clear ht hl hl' hfx hfy
  generalize hxl : x.es.length = xl at *
  generalize hyl : y.es.length = yl at *
  have hb0 := two_below' w (Obj.cells #[.int .i64 x.k, .int .i64 x.n, .slice xa xl xc] 25) (Obj.cells #[.int .i64 y.k, .int .i64 y.n, .slice ya yl yc] 25)
  have hP : Has ((w.alloc (Obj.cells #[.int .i64 x.k, .int .i64 x.n, .slice xa xl xc] 25)).alloc (Obj.cells #[.int .i64 y.k, .int .i64 y.n, .slice ya yl yc] 25)) w.heap.size #[.int .i64 x.k, .int .i64 x.n, .slice xa xl xc] := (Has.new _ _ _ rfl).alloc _
  have hR : Has ((w.alloc (Obj.cells #[.int .i64 x.k, .int .i64 x.n, .slice xa xl xc] 25)).alloc (Obj.cells #[.int .i64 y.k, .int .i64 y.n, .slice ya yl yc] 25)) (w.heap.size + 1) #[.int .i64 y.k, .int .i64 y.n, .slice ya yl yc] := Has.new _ _ _ (by simp)
  go_enter Tryz.func11, Tryz.ntmps11
  go_wp2_with fail
  refine (FX.out _).mono ?_
  rintro e w1 ⟨rfl, hb1⟩
  have B1 := hid (below_of hb0 hb1)
  have hP := hP.below hb1
  have hR := hR.below hb1
  have z1 := hP.1
  have z2 := hR.1
  have b0 := hR.2 0 _ rfl
  have b1 := hR.2 1 _ rfl
  have b2 := hR.2 2 _ rfl
  have PW := hid hP
  have RW := hid hR
  clear hb0 hb1 hP hR
  go_wp2_with fail
  refine (FY.out _).mono ?_
  rintro e w2 ⟨rfl, hb2⟩
  have B2 := hid (below_of B1.out hb2)
  have hP := PW.out.below hb2
  have hR := RW.out.below hb2
  clear hb2 b0 b1 b2 z1 z2
  have z1 := hP.1
  have z2 := hR.1
  have a0 := hP.2 0 _ rfl
  have a1 := hP.2 1 _ rfl
  have a2 := hP.2 2 _ rfl
  have b0 := hR.2 0 _ rfl
  have b1 := hR.2 1 _ rfl
  have b2 := hR.2 2 _ rfl
  have PW := hid hP
  have RW := hid hR
  clear hP hR B1
  go_wp2_with fail
  have hb3 : Below w2.heap.size w2 (w2.alloc (Obj.cells #[.int .i64 x.k, .int .i64 x.n, .slice xa xl xc, .int .i64 y.k, .int .i64 y.n, .slice ya yl yc] 25)) := (Below.refl _ _).alloc (Nat.le_refl _) _
  have hN : Has (w2.alloc (Obj.cells #[.int .i64 x.k, .int .i64 x.n, .slice xa xl xc, .int .i64 y.k, .int .i64 y.n, .slice ya yl yc] 25)) w2.heap.size #[.int .i64 x.k, .int .i64 x.n, .slice xa xl xc, .int .i64 y.k, .int .i64 y.n, .slice ya yl yc] := Has.new _ _ _ rfl
  have lxy := hN.two hxk hxn hyk hyn (LX.out.kept (.of_below (below_of B2.out hb3))) (LY.out.kept (.of_below (below_of B2.out hb3)))
  refine (val_all [x, y] _ _ lxy).mono ?_
  rintro e w3 ⟨rfl, hb4⟩
  have hb4 := below_of hb3 hb4
  have B3 := hid (below_of B2.out hb4)
  have hP := PW.out.below hb4
  have hR := RW.out.below hb4
  clear hb3 hb4 hN lxy a0 a1 a2 b0 b1 b2 z1 z2
  have PW := hid hP
  have RW := hid hR
  clear hP hR B2
  cases hv : Pl.validL [x, y] with
  | false =>
    clear hv
    go_wp2_with fail
    go_ret
    exact ⟨rfl, B3.out⟩
  | true =>
    have hv : Pl.valid x = true ∧ Pl.valid y = true := by simpa [Pl.validL] using hv
    obtain ⟨hvx, hvy⟩ := hv
    have VX := hid hvx
    have VY := hid hvy
    clear hvx hvy
    have hmf : ∀ (fn : Fn) (first cap : Array Value) (w : World), (Instr.makeFunc fn first cap).run Tryz.prog w = .ok (.func fn first cap) w := fun _ _ _ _ => rfl
    go_wp2_with fail
    refine (sizes_any c a ha _).mono ?_
    rintro e w4 ⟨W, M, rfl, okW, okM, hb5⟩
    have B4 := hid (below_of B3.out hb5)
    have hP := PW.out.below hb5
    have hR := RW.out.below hb5
    have z1 := hP.1
    have z2 := hR.1
    have hW4 : 4 ≤ W := by unfold Pl.okW at okW; omega
    have hW8 : W ≤ 8 := by unfold Pl.okW at okW; omega
    have hw3 : IntKind.i64.wrap (3 * W) = 3 * W := by rw [IntKind.wrap_i64]; omega
    have hw2 : IntKind.i64.wrap (2 * W) = 2 * W := by rw [IntKind.wrap_i64]; omega
    have OKW := hid okW
    have OKM := hid okM
    have a0 := hP.2 0 _ rfl
    have a1 := hP.2 1 _ rfl
    have a2 := hP.2 2 _ rfl
    have PW := hid hP
    have RW := hid hR
    clear hb5 okW okM hP hR B3
    go_wp2_with fail
    have hb6 := two_below' w4 (Obj.cells #[.int .i64 W, .int .i64 M] 29) (Obj.cells #[.int .i64 x.k, .int .i64 x.n, .slice xa xl xc] 25)
    have hQ : Has ((w4.alloc (Obj.cells #[.int .i64 W, .int .i64 M] 29)).alloc (Obj.cells #[.int .i64 x.k, .int .i64 x.n, .slice xa xl xc] 25)) w4.heap.size #[.int .i64 W, .int .i64 M] := (Has.new _ _ _ rfl).alloc _
    have hB : Has ((w4.alloc (Obj.cells #[.int .i64 W, .int .i64 M] 29)).alloc (Obj.cells #[.int .i64 x.k, .int .i64 x.n, .slice xa xl xc] 25)) (w4.heap.size + 1) #[.int .i64 x.k, .int .i64 x.n, .slice xa xl xc] := Has.new _ _ _ (by simp)
    have hP := PW.out.below hb6
    have hR := RW.out.below hb6
    have B5 := hid (below_of B4.out hb6)
    clear hb6 a0 a1 a2 z1 z2 B4
    generalize ((w4.alloc (Obj.cells #[.int .i64 W, .int .i64 M] 29)).alloc (Obj.cells #[.int .i64 x.k, .int .i64 x.n, .slice xa xl xc] 25)) = w5 at *
    generalize w4.heap.size + 1 = B at *
    generalize w4.heap.size = Q at *
    generalize w.heap.size + 1 = R at *
    generalize hPe : w.heap.size = P at *
    have z1 := hP.1
    have z2 := hR.1
    have z3 := hQ.1
    have hLX := LX.out.kept (.of_below (hPe ▸ B5.out))
    have hLY := LY.out.kept (.of_below (hPe ▸ B5.out))
    have hTB := TAB.out.kept (.of_below (hPe ▸ B5.out))
    have LONE := hid (hB.one hxk hxn (by rw [hxl] at *; exact hLX))
    have LX5 := hid hLX
    have LY5 := hid hLY
    have TAB5 := hid hTB
    have HP := hid hP
    have HR := hid hR
    have HQ := hid hQ
    have a0 := hP.2 0 _ rfl
    have a1 := hP.2 1 _ rfl
    have a2 := hP.2 2 _ rfl
    have b0 := hR.2 0 _ rfl
    have b1 := hR.2 1 _ rfl
    have b2 := hR.2 2 _ rfl
    have q0 := hQ.2 0 _ rfl
    have q1 := hQ.2 1 _ rfl
    obtain ⟨v1, v2, v3, v4, v6, v7, v8⟩ := w_valid x y VX.out VY.out
    obtain ⟨s1, s2, s3, s4, s6, s7, s8⟩ := w_size x y W M
    have CALL : Hid (∀ (u : Pl.Ty) (s : Int) (sv : Value) (wx : World), Pl.valid u = true → Pl.sz W M u = s → 0 ≤ s → Pl.in64 u.k → Pl.in64 u.n → Below w5.heap.size w5 wx → Lie wx u.es sv → Calls Tryz.prog 26 #[.agg #[.int .i64 u.k, .int .i64 u.n, sv], .pointer (some ⟨Q, 0, none⟩)] wx (IntPost s wx)) :=
      fun u s sv wx h1 h2 h3 h4 h5 h6 h7 => size_fn u h1 W M s OKW.out OKM.out h2 h3 h4 h5 sv Q wx (TAB5.out.kept (.of_below h6)) h7 (HQ.out.below h6)
    have hl1 : ∀ n : Int, 0 ≤ n → n ≤ 17 → Pl.in64 n := fun n h1 h2 => ⟨by omega, by omega⟩
    have i0 := hl1 0 (by omega) (by omega)
    have C1 : Hid (∀ wx, Below w5.heap.size w5 wx → Calls Tryz.prog 26 #[.agg #[.int .i64 1, .int .i64 0, .slice (some ⟨B, 0, none⟩) 1 1], .pointer (some ⟨Q, 0, none⟩)] wx (IntPost W wx)) :=
      fun wx h => CALL.out (.mk 1 0 [x]) W _ wx v1 s1 (by omega) (hl1 1 (by omega) (by omega)) (hl1 0 (by omega) (by omega)) h (LONE.out.kept (.of_below h))
    have C2 : Hid (∀ wx, Below w5.heap.size w5 wx → Calls Tryz.prog 26 #[.agg #[.int .i64 5, .int .i64 0, .slice (some ⟨B, 0, none⟩) 1 1], .pointer (some ⟨Q, 0, none⟩)] wx (IntPost W wx)) :=
      fun wx h => CALL.out (.mk 5 0 [x]) W _ wx v2 s2 (by omega) (hl1 5 (by omega) (by omega)) (hl1 0 (by omega) (by omega)) h (LONE.out.kept (.of_below h))
    have C3 : Hid (∀ (b : Nat) (wx : World), Below w5.heap.size w5 wx → Has wx b #[.int .i64 x.k, .int .i64 x.n, .slice xa xl xc, .int .i64 y.k, .int .i64 y.n, .slice ya yl yc] → Calls Tryz.prog 26 #[.agg #[.int .i64 4, .int .i64 0, .slice (some ⟨b, 0, none⟩) 2 2], .pointer (some ⟨Q, 0, none⟩)] wx (IntPost W wx)) :=
      fun b wx h hh => CALL.out (.mk 4 0 [x, y]) W _ wx v3 s3 (by omega) (hl1 4 (by omega) (by omega)) (hl1 0 (by omega) (by omega)) h (hh.two hxk hxn hyk hyn (LX5.out.kept (.of_below h)) (LY5.out.kept (.of_below h)))
    have C4 : Hid (∀ wx, Below w5.heap.size w5 wx → Calls Tryz.prog 26 #[.agg #[.int .i64 2, .int .i64 0, .slice (some ⟨B, 0, none⟩) 1 1], .pointer (some ⟨Q, 0, none⟩)] wx (IntPost (3 * W) wx)) :=
      fun wx h => CALL.out (.mk 2 0 [x]) (3 * W) _ wx v4 s4 (by omega) (hl1 2 (by omega) (by omega)) (hl1 0 (by omega) (by omega)) h (LONE.out.kept (.of_below h))
    have C6 : Hid (∀ wx, Below w5.heap.size w5 wx → Calls Tryz.prog 26 #[.agg #[.int .i64 0, .int .i64 16, .slice none 0 0], .pointer (some ⟨Q, 0, none⟩)] wx (IntPost (2 * W) wx)) :=
      fun wx h => CALL.out (.mk 0 16 []) (2 * W) _ wx v6 s6 (by omega) (hl1 0 (by omega) (by omega)) (hl1 16 (by omega) (by omega)) h (.nil none 0)
    have C7 : Hid (∀ wx, Below w5.heap.size w5 wx → Calls Tryz.prog 26 #[.agg #[.int .i64 0, .int .i64 11, .slice none 0 0], .pointer (some ⟨Q, 0, none⟩)] wx (IntPost W wx)) :=
      fun wx h => CALL.out (.mk 0 11 []) W _ wx v7 s7 (by omega) (hl1 0 (by omega) (by omega)) (hl1 11 (by omega) (by omega)) h (.nil none 0)
    have C8 : Hid (∀ wx, Below w5.heap.size w5 wx → Calls Tryz.prog 26 #[.agg #[.int .i64 0, .int .i64 17, .slice none 0 0], .pointer (some ⟨Q, 0, none⟩)] wx (IntPost W wx)) :=
      fun wx h => CALL.out (.mk 0 17 []) W _ wx v8 s8 (by omega) (hl1 0 (by omega) (by omega)) (hl1 17 (by omega) (by omega)) h (.nil none 0)
    clear hP hR hQ hB hLX hLY hTB s1 s2 s3 s4 s6 s7 s8 v1 v2 v3 v4 v6 v7 v8 i0 hl1
    have HB0 : Hid (Below w5.heap.size w5 w5.drew) := (Below.refl _ _).drew
    go_region_held3 (fun z => z.cell? ⟨P, 0, none⟩ = some (.int .i64 x.k) ∧ z.cell? ⟨P, 1, none⟩ = some (.int .i64 x.n) ∧ z.cell? ⟨P, 2, none⟩ = some (.slice xa xl xc) ∧ z.cell? ⟨R, 0, none⟩ = some (.int .i64 y.k) ∧ z.cell? ⟨R, 1, none⟩ = some (.int .i64 y.n) ∧ z.cell? ⟨R, 2, none⟩ = some (.slice ya yl yc) ∧ z.cell? ⟨Q, 0, none⟩ = some (.int .i64 W) ∧ z.cell? ⟨Q, 1, none⟩ = some (.int .i64 M))
      (first | go_keep)
      (first
        | (go_at_call_of 26 (Value.agg #[.int .i64 1, .int .i64 0, .slice (some ⟨B, 0, none⟩) 1 1]); refine (C1.out _ HB0.out).mono ?_; rintro e u1 ⟨rfl, hu1⟩
           have HB1 := hid (below_of HB0.out hu1)
           have a0_1 := (HP.out.below HB1.out).2 0 _ rfl
           have a1_1 := (HP.out.below HB1.out).2 1 _ rfl
           have a2_1 := (HP.out.below HB1.out).2 2 _ rfl
           have b0_1 := (HR.out.below HB1.out).2 0 _ rfl
           have b1_1 := (HR.out.below HB1.out).2 1 _ rfl
           have b2_1 := (HR.out.below HB1.out).2 2 _ rfl
           have q0_1 := (HQ.out.below HB1.out).2 0 _ rfl
           have q1_1 := (HQ.out.below HB1.out).2 1 _ rfl
           have z1_1 := (HP.out.below HB1.out).1
           have z2_1 := (HR.out.below HB1.out).1
           have z3_1 := (HQ.out.below HB1.out).1
           clear hu1)
        | (go_at_call_of 26 (Value.agg #[.int .i64 5, .int .i64 0, .slice (some ⟨B, 0, none⟩) 1 1]); refine (C2.out _ HB1.out).mono ?_; rintro e u2 ⟨rfl, hu2⟩
           have HB2 := hid (below_of HB1.out hu2)
           have a0_2 := (HP.out.below HB2.out).2 0 _ rfl
           have a1_2 := (HP.out.below HB2.out).2 1 _ rfl
           have a2_2 := (HP.out.below HB2.out).2 2 _ rfl
           have b0_2 := (HR.out.below HB2.out).2 0 _ rfl
           have b1_2 := (HR.out.below HB2.out).2 1 _ rfl
           have b2_2 := (HR.out.below HB2.out).2 2 _ rfl
           have q0_2 := (HQ.out.below HB2.out).2 0 _ rfl
           have q1_2 := (HQ.out.below HB2.out).2 1 _ rfl
           have z1_2 := (HP.out.below HB2.out).1
           have z2_2 := (HR.out.below HB2.out).1
           have z3_2 := (HQ.out.below HB2.out).1
           clear hu2)
        | (go_at_call 26; refine (C3.out _ _ (HB2.out.alloc HB2.out.size (.cells #[.int .i64 x.k, .int .i64 x.n, .slice xa xl xc, .int .i64 y.k, .int .i64 y.n, .slice ya yl yc] 25)) (Has.new _ _ _ rfl)).mono ?_; rintro e u3 ⟨rfl, hu3⟩
           have HB3 := hid (below_of (HB2.out.alloc HB2.out.size (.cells #[.int .i64 x.k, .int .i64 x.n, .slice xa xl xc, .int .i64 y.k, .int .i64 y.n, .slice ya yl yc] 25)) hu3)
           have a0_3 := (HP.out.below HB3.out).2 0 _ rfl
           have a1_3 := (HP.out.below HB3.out).2 1 _ rfl
           have a2_3 := (HP.out.below HB3.out).2 2 _ rfl
           have b0_3 := (HR.out.below HB3.out).2 0 _ rfl
           have b1_3 := (HR.out.below HB3.out).2 1 _ rfl
           have b2_3 := (HR.out.below HB3.out).2 2 _ rfl
           have q0_3 := (HQ.out.below HB3.out).2 0 _ rfl
           have q1_3 := (HQ.out.below HB3.out).2 1 _ rfl
           have z1_3 := (HP.out.below HB3.out).1
           have z2_3 := (HR.out.below HB3.out).1
           have z3_3 := (HQ.out.below HB3.out).1
           clear hu3)
        | (go_at_call_of 26 (Value.agg #[.int .i64 2, .int .i64 0, .slice (some ⟨B, 0, none⟩) 1 1]); refine (C4.out _ HB3.out).mono ?_; rintro e u4 ⟨rfl, hu4⟩
           have HB4 := hid (below_of HB3.out hu4)
           have a0_4 := (HP.out.below HB4.out).2 0 _ rfl
           have a1_4 := (HP.out.below HB4.out).2 1 _ rfl
           have a2_4 := (HP.out.below HB4.out).2 2 _ rfl
           have b0_4 := (HR.out.below HB4.out).2 0 _ rfl
           have b1_4 := (HR.out.below HB4.out).2 1 _ rfl
           have b2_4 := (HR.out.below HB4.out).2 2 _ rfl
           have q0_4 := (HQ.out.below HB4.out).2 0 _ rfl
           have q1_4 := (HQ.out.below HB4.out).2 1 _ rfl
           have z1_4 := (HP.out.below HB4.out).1
           have z2_4 := (HR.out.below HB4.out).1
           have z3_4 := (HQ.out.below HB4.out).1
           clear hu4)
        | (go_at_call_of 26 (Value.agg #[.int .i64 0, .int .i64 16, .slice none 0 0]); refine (C6.out _ HB4.out).mono ?_; rintro e u5 ⟨rfl, hu5⟩
           have HB5 := hid (below_of HB4.out hu5)
           have a0_5 := (HP.out.below HB5.out).2 0 _ rfl
           have a1_5 := (HP.out.below HB5.out).2 1 _ rfl
           have a2_5 := (HP.out.below HB5.out).2 2 _ rfl
           have b0_5 := (HR.out.below HB5.out).2 0 _ rfl
           have b1_5 := (HR.out.below HB5.out).2 1 _ rfl
           have b2_5 := (HR.out.below HB5.out).2 2 _ rfl
           have q0_5 := (HQ.out.below HB5.out).2 0 _ rfl
           have q1_5 := (HQ.out.below HB5.out).2 1 _ rfl
           have z1_5 := (HP.out.below HB5.out).1
           have z2_5 := (HR.out.below HB5.out).1
           have z3_5 := (HQ.out.below HB5.out).1
           clear hu5)
        | (go_at_call_of 26 (Value.agg #[.int .i64 0, .int .i64 11, .slice none 0 0]); refine (C7.out _ HB5.out).mono ?_; rintro e u6 ⟨rfl, hu6⟩
           have HB6 := hid (below_of HB5.out hu6)
           have a0_6 := (HP.out.below HB6.out).2 0 _ rfl
           have a1_6 := (HP.out.below HB6.out).2 1 _ rfl
           have a2_6 := (HP.out.below HB6.out).2 2 _ rfl
           have b0_6 := (HR.out.below HB6.out).2 0 _ rfl
           have b1_6 := (HR.out.below HB6.out).2 1 _ rfl
           have b2_6 := (HR.out.below HB6.out).2 2 _ rfl
           have q0_6 := (HQ.out.below HB6.out).2 0 _ rfl
           have q1_6 := (HQ.out.below HB6.out).2 1 _ rfl
           have z1_6 := (HP.out.below HB6.out).1
           have z2_6 := (HR.out.below HB6.out).1
           have z3_6 := (HQ.out.below HB6.out).1
           clear hu6)
        | (go_at_call_of 26 (Value.agg #[.int .i64 0, .int .i64 17, .slice none 0 0]); refine (C8.out _ HB6.out).mono ?_; rintro e u7 ⟨rfl, hu7⟩
           have HB7 := hid (below_of HB6.out hu7)
           have a0_7 := (HP.out.below HB7.out).2 0 _ rfl
           have a1_7 := (HP.out.below HB7.out).2 1 _ rfl
           have a2_7 := (HP.out.below HB7.out).2 2 _ rfl
           have b0_7 := (HR.out.below HB7.out).2 0 _ rfl
           have b1_7 := (HR.out.below HB7.out).2 1 _ rfl
           have b2_7 := (HR.out.below HB7.out).2 2 _ rfl
           have q0_7 := (HQ.out.below HB7.out).2 0 _ rfl
           have q1_7 := (HQ.out.below HB7.out).2 1 _ rfl
           have z1_7 := (HP.out.below HB7.out).1
           have z2_7 := (HR.out.below HB7.out).1
           have z3_7 := (HQ.out.below HB7.out).1
           clear hu7))
    clear a0 a1 a2 b0 b1 b2 q0 q1
    go_wp2
    go_ret
    exact ⟨by simp, below_of (hPe ▸ B5.out) HB7.out⟩
theorem law11 (x y : Pl.Ty) (c : Bool) (a : Int) (ha : Pl.in64 a) (sx sy : Value) (w : World) (ht : Tab w) (hl : Lie w x.es sx) (hl' : Lie w y.es sy) (hxk : Pl.in64 x.k) (hxn : Pl.in64 x.n) (hyk : Pl.in64 y.k) (hyn : Pl.in64 y.n) :
    Calls Tryz.prog 11 #[.agg #[.int .i64 x.k, .int .i64 x.n, sx], .agg #[.int .i64 y.k, .int .i64 y.n, sy], .bool c, .int .i64 a] w (LawPost w) := by
  by_cases hfit : (x.es.length : Int) ≤ 2147483647 ∧ (y.es.length : Int) ≤ 2147483647
  · exact law11_fit x y c a ha sx sy w ht hl hl' hfit.1 hfit.2 hxk hxn hyk hyn
  · have hlen := hl.len
    have hlen' := hl'.len
    obtain ⟨xa, xc, rfl⟩ := hl.slice
    obtain ⟨ya, yc, rfl⟩ := hl'.slice
    unfold reach at hlen hlen'
    exact law11_unfit x.k x.n y.k y.n c a xa ya _ xc _ yc w (by omega) (by omega) hfit
end Go.Proofs.YtphfjojdiilneaaGreatDoor
