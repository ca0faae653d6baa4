/- The walk of FnAlignParts. -/
import Derived.Test.YtphfjojdiilneaaGreatDoorHas
set_option linter.unusedVariables false
set_option linter.unusedSimpArgs false
namespace Go.Proofs.YtphfjojdiilneaaGreatDoor
open Go.RowKit

theorem law3_long (es : List Pl.Ty) (k n x : Int) (c : Bool) (a : Int) (sa ta : Option Addr) (sc tl tc : Nat) (w : World) (hsl : es.length ≤ 9223372036854775807) (hfit : ¬ (es.length : Int) ≤ 2147483647) :
    Calls Tryz.prog 3 #[.slice sa es.length sc, .agg #[.int .i64 k, .int .i64 n, .slice ta tl tc], .int .i64 x, .bool c, .int .i64 a] w (LawPost w) := by
  have hb0 : Below w.heap.size w (w.alloc (Obj.cells #[Value.int IntKind.i64 k, Value.int IntKind.i64 n, Value.slice ta tl tc] 25)) := (Below.refl _ _).alloc (Nat.le_refl _) _
  generalize es.length = sl at *
  go_enter Tryz.func3, Tryz.ntmps3
  go_wp2_with fail
  go_ret
  exact ⟨rfl, hb0⟩
theorem law3_unfit (es : List Pl.Ty) (k n x : Int) (c : Bool) (a : Int) (sa ta : Option Addr) (sc tl tc : Nat) (w : World) (hsl : (es.length : Int) ≤ 2147483647) (htl : tl ≤ 9223372036854775807) (hfit : ¬ (tl : Int) ≤ 2147483647) :
    Calls Tryz.prog 3 #[.slice sa es.length sc, .agg #[.int .i64 k, .int .i64 n, .slice ta tl tc], .int .i64 x, .bool c, .int .i64 a] w (LawPost w) := by
  have hb0 : Below w.heap.size w (w.alloc (Obj.cells #[Value.int IntKind.i64 k, Value.int IntKind.i64 n, Value.slice ta tl tc] 25)) := (Below.refl _ _).alloc (Nat.le_refl _) _
  have FIT : Hid (∀ x : World, Calls Tryz.prog 15 #[.agg #[.int .i64 k, .int .i64 n, .slice ta tl tc]] x (BoolPost false x)) := by
    intro x
    have := fits_any k n ta tl tc htl x
    rwa [decide_eq_false hfit] at this
  clear htl hfit
  generalize es.length = sl at *
  go_enter Tryz.func3, Tryz.ntmps3
  go_wp2_with fail
  refine (FIT.out _).mono ?_
  rintro e w1 ⟨rfl, hb1⟩
  have B1 := hid (below_of hb0 hb1)
  clear hb1
  go_wp2_with fail
  go_ret
  exact ⟨rfl, B1.out⟩

set_option maxRecDepth 100000 in
set_option maxHeartbeats 4000000 in
theorem law3_fit (es : List Pl.Ty) (t : Pl.Ty) (x : Int) (c : Bool) (a : Int) (hx : Pl.in64 x) (ha : Pl.in64 a) (sv tv : Value) (w : World) (ht : Tab w) (hl : Lie w es sv) (hlt' : Lie w t.es tv) (hfit : (es.length : Int) ≤ 2147483647) (hfit' : (t.es.length : Int) ≤ 2147483647) (h64k : Pl.in64 t.k) (h64n : Pl.in64 t.n) :
    Calls Tryz.prog 3 #[sv, .agg #[.int .i64 t.k, .int .i64 t.n, tv], .int .i64 x, .bool c, .int .i64 a] w (LawPost w) := by
  obtain ⟨sa, sc, rfl⟩ := hl.slice
  obtain ⟨ta, tc, rfl⟩ := hlt'.slice
  have TAB := hid ht
  have HL := hid hl
  have HT := hid hlt'
  have FIT : Hid (∀ x : World, Calls Tryz.prog 15 #[.agg #[.int .i64 t.k, .int .i64 t.n, .slice ta t.es.length tc]] x (BoolPost true x)) := by
    intro x
    have := fits_any t.k t.n ta t.es.length tc (by omega) x
    rwa [decide_eq_true hfit'] at this
  have VALS : Hid (∀ x : World, Lie x es (.slice sa es.length sc) → Calls Tryz.prog 16 #[.slice sa es.length sc] x (BoolPost (Pl.validL es) x)) := fun x h => val_all es _ x h
  have PL : Hid (∀ wx : World, Calls Tryz.prog 19 #[.int .i64 x, .int .i64 1000] wx fun e w' => e = .returned (.int .i64 (x % 1000)) ∧ wx = w') := fun wx => place_any x 1000 wx hx (by omega) (by omega)
  have hp0 := Int.emod_nonneg x (show (1000 : Int) ≠ 0 by omega)
  have hp1 := Int.emod_lt_of_pos x (show (0 : Int) < 1000 by omega)
  clear hl ht hlt' hfit' hx
  generalize x % 1000 = p at *
  generalize hsl : es.length = sl at *
  generalize htl : t.es.length = tl at *
  have hb0 : Below w.heap.size w (w.alloc (Obj.cells #[.int .i64 t.k, .int .i64 t.n, .slice ta tl tc] 25)) := (Below.refl _ _).alloc (Nat.le_refl _) _
  have hP : Has (w.alloc (Obj.cells #[.int .i64 t.k, .int .i64 t.n, .slice ta tl tc] 25)) w.heap.size #[.int .i64 t.k, .int .i64 t.n, .slice ta tl tc] := Has.new _ _ _ rfl
  go_enter Tryz.func3, Tryz.ntmps3
  go_wp2_with fail
  refine (FIT.out _).mono ?_
  rintro e w1 ⟨rfl, hb1⟩
  have B1 := hid (below_of hb0 hb1)
  have P1 := hid (hP.below hb1)
  clear hb0 hb1 hP
  go_wp2_with fail
  refine (VALS.out _ (HL.out.kept (.of_below B1.out))).mono ?_
  rintro e w2 ⟨rfl, hb2⟩
  have B2 := hid (below_of B1.out hb2)
  have P2 := hid (P1.out.below hb2)
  have p0 := P2.out.2 0 _ rfl
  have p1 := P2.out.2 1 _ rfl
  have p2 := P2.out.2 2 _ rfl
  clear hb2 B1 P1
  cases hv : Pl.validL es with
  | false =>
    clear hv
    go_wp2_with fail
    go_ret
    exact ⟨rfl, B2.out⟩
  | true =>
  have HV := hid hv
  clear hv
  go_wp2_with fail
  have hb3 : Below w2.heap.size w2 (w2.alloc (Obj.cells #[.int .i64 t.k, .int .i64 t.n, .slice ta tl tc] 25)) := (Below.refl _ _).alloc (Nat.le_refl _) _
  have hN : Has (w2.alloc (Obj.cells #[.int .i64 t.k, .int .i64 t.n, .slice ta tl tc] 25)) w2.heap.size #[.int .i64 t.k, .int .i64 t.n, .slice ta tl tc] := Has.new _ _ _ rfl
  refine (val_one t _ rfl h64k h64n _ _ _ (HT.out.kept (.of_below (below_of B2.out hb3))) (hN.2 0 _ rfl) (hN.2 1 _ rfl) (hN.2 2 _ rfl)).mono ?_
  rintro e w3 ⟨rfl, hb4⟩
  have hb4 := below_of hb3 hb4
  have B3 := hid (below_of B2.out hb4)
  have P3 := hid (P2.out.below hb4)
  clear hb3 hb4 hN p0 p1 p2 B2 P2
  cases hv : Pl.valid t with
  | false =>
    clear hv
    go_wp2_with fail
    go_ret
    exact ⟨rfl, B3.out⟩
  | true =>
  have HVT := hid hv
  clear hv
  go_wp2_with fail
  refine (sizes_any c a ha _).mono ?_
  rintro e w4 ⟨W, M, rfl, okW, okM, hb5⟩
  have OKW := hid okW
  have OKM := hid okM
  have hb6 : Below w4.heap.size w4 (w4.alloc (Obj.cells #[.int .i64 W, .int .i64 M] 29)) := (Below.refl _ _).alloc (Nat.le_refl _) _
  have hQ : Has (w4.alloc (Obj.cells #[.int .i64 W, .int .i64 M] 29)) w4.heap.size #[.int .i64 W, .int .i64 M] := Has.new _ _ _ rfl
  have hb56 := below_of hb5 hb6
  have B5 := hid (below_of B3.out hb56)
  have hP := P3.out.below hb56
  clear hb5 hb6 hb56 okW okM P3 B3
  go_wp2_with fail
  generalize (w4.alloc (Obj.cells #[.int .i64 W, .int .i64 M] 29)) = w5 at *
  generalize w4.heap.size = Q at *
  generalize hPe : w.heap.size = P at *
  have zp := hP.1
  have zq := hQ.1
  have HP := hid hP
  have HQ := hid hQ
  have DW : Hid (∀ wx, Below w5.heap.size w5 wx → Below w.heap.size w wx) := fun wx h => (hPe ▸ B5.out : Below w.heap.size w w5).trans (h.mono (by rw [hPe]; exact Nat.le_of_lt zp))
  have IAL : Hid (∀ (u : Pl.Ty) (uv : Value) (wx : World), Pl.valid u = true → Pl.in64 u.k → Pl.in64 u.n → Below w5.heap.size w5 wx → Lie wx u.es uv → Calls Tryz.prog 18 #[.int .i64 W, .int .i64 M, .agg #[.int .i64 u.k, .int .i64 u.n, uv]] wx (IntPost (Pl.al W M u) wx)) :=
    fun u uv wx h1 h2 h3 h4 h5 => ialof u h1 W M OKW.out OKM.out uv wx (TAB.out.kept (.of_below (DW.out _ h4))) h5 h2 h3
  have ISAL : Hid (∀ u, Pl.isAl (Pl.al W M u)) := fun u => Pl.al_isAl OKW.out OKM.out u
  clear hP hQ
  go_loopw [12, 39] (fun m i wr => ∃ (k : Nat) (y : Int), k ≤ sl ∧ i = .int .i64 k ∧ m = .int .i64 y ∧ y = Pl.maxs 1 ((Pl.alL W M es).take k) ∧ Below w5.heap.size w5 wr) (fun _ i _ => sl - (intOf i).toNat)
  case atStart => exact ⟨0, 1, Nat.zero_le _, rfl, rfl, rfl, Below.refl _ _⟩
  case round =>
    obtain ⟨k, y, hk, rfl, rfl, hy, hbw⟩ := hrel
    by_cases hlt : k < sl
    · have hlt2 : k < es.length := by omega
      obtain ⟨b, off, cap', sc', sa', he, hcap, hbl, c0, c1, c2, hk64, hn64, hl1⟩ := HL.out.one k hlt2
      simp only [Value.slice.injEq] at he
      obtain ⟨rfl, hh, rfl⟩ := he
      clear hh
      have hbw0 := DW.out _ hbw
      have d0 := (bcell hbw0 _ _ hbl).trans c0
      have d1 := (bcell hbw0 _ _ hbl).trans c1
      have d2 := (bcell hbw0 _ _ hbl).trans c2
      have q0 := (HQ.out.below hbw).2 0 _ rfl
      have q1 := (HQ.out.below hbw).2 1 _ rfl
      have yq := (HQ.out.below hbw).1
      have CALL : Hid (∀ wx, Below wr.heap.size wr wx → Calls Tryz.prog 18 #[.int .i64 W, .int .i64 M, .agg #[.int .i64 (es[k]).k, .int .i64 (es[k]).n, .slice sa' (es[k]).es.length sc']] wx (IntPost (Pl.al W M es[k]) wx)) :=
        fun wx h => IAL.out es[k] _ wx ((Pl.validL_iff es).1 HV.out _ (List.getElem_mem hlt2)) hk64 hn64 (below_of hbw h) (hl1.kept (.of_below (DW.out _ (below_of hbw h))))
      have BW := hid hbw
      have NEXT : Hid (Pl.maxs 1 ((Pl.alL W M es).take (k + 1)) = max y (Pl.al W M es[k])) := by
        show Pl.maxs 1 _ = _
        rw [Pl.alL_map, take_next _ k (by simpa using hlt2), maxs_snoc, hy, Pl.alL_map]
        simp
      have hal := (ISAL.out es[k]).le
      generalize Pl.al W M es[k] = A at *
      obtain ⟨ha1, ha2⟩ := hal
      have hb1 : Hid (∀ o, Below wr.heap.size wr (wr.alloc o)) := fun o => (Below.refl _ _).alloc (Nat.le_refl _) _
      clear hbw hbw0 c0 c1 c2 hl1 hy hcap
      go_wp2_with fail
      refine (CALL.out _ (hb1.out _)).mono ?_
      rintro e w6 ⟨rfl, hb6⟩
      have B6 := hid (below_of BW.out (below_of (hb1.out _) hb6))
      clear hb6 d0 d1 d2 q0 q1
      go_wp2_with fail
      all_goals
        go_roundw
        case rel => exact ⟨k + 1, max y A, by omega, by go_num, by first | rfl | (congr 1; omega), NEXT.out.symm, B6.out⟩
        case measure => simp [intOf]; omega
    · obtain rfl : k = sl := by omega
      have hY : y = Pl.maxs 1 (Pl.alL W M es) := by rw [hy, List.take_of_length_le (by rw [Pl.alL_map]; simp; omega)]
      have hP := HP.out.below hbw
      have hQ := HQ.out.below hbw
      have f0 := hP.2 0 _ rfl
      have f1 := hP.2 1 _ rfl
      have f2 := hP.2 2 _ rfl
      have q0 := hQ.2 0 _ rfl
      have q1 := hQ.2 1 _ rfl
      have yp := hP.1
      have yq := hQ.1
      have PR := hid hP
      have QR := hid hQ
      have BW := hid hbw
      have I6 : Hid (∀ wx, Below w5.heap.size w5 wx → Calls Tryz.prog 18 #[.int .i64 W, .int .i64 M, .agg #[.int .i64 6, .int .i64 0, .slice sa k sc]] wx (IntPost y wx)) := by
        intro wx h
        have hv6 : Pl.valid (.mk 6 0 es) = true := by simp [Pl.valid, Pl.need, HV.out]
        have := IAL.out (.mk 6 0 es) (.slice sa k sc) wx hv6 ⟨by simp [Pl.Ty.k], by simp [Pl.Ty.k]⟩ ⟨by simp [Pl.Ty.n], by simp [Pl.Ty.n]⟩ h (HL.out.kept (.of_below (DW.out _ h)))
        have e : Pl.al W M (.mk 6 0 es) = y := by rw [hY]; simp [Pl.al]
        rwa [e] at this
      have IX : Hid (∀ wx, Below w5.heap.size w5 wx → Calls Tryz.prog 18 #[.int .i64 W, .int .i64 M, .agg #[.int .i64 t.k, .int .i64 t.n, .slice ta tl tc]] wx (IntPost (Pl.al W M t) wx)) :=
        fun wx h => IAL.out t _ wx HVT.out h64k h64n h (HT.out.kept (.of_below (DW.out _ h)))
      have I3 : Hid (∀ (v : Nat) (wx : World), Below w5.heap.size w5 wx → Has wx v #[.int .i64 t.k, .int .i64 t.n, .slice ta tl tc] → Calls Tryz.prog 18 #[.int .i64 W, .int .i64 M, .agg #[.int .i64 3, .int .i64 p, .slice (some ⟨v, 0, none⟩) 1 1]] wx (IntPost (Pl.al W M t) wx)) := by
        intro v wx h hh
        have hv3 : Pl.valid (.mk 3 p [t]) = true := by simp [Pl.valid, Pl.validL, Pl.need, HVT.out, hp0]
        have := IAL.out (.mk 3 p [t]) (.slice (some ⟨v, 0, none⟩) 1 1) wx hv3 ⟨by simp [Pl.Ty.k], by simp [Pl.Ty.k]⟩ ⟨by simp [Pl.Ty.n]; omega, by simp [Pl.Ty.n]; omega⟩ h (hh.one h64k h64n (HT.out.kept (.of_below (DW.out _ h))))
        have e : Pl.al W M (.mk 3 p [t]) = Pl.al W M t := by
          have := (ISAL.out t).le
          simp [Pl.al, Pl.alL, Pl.maxs]
          omega
        rwa [e] at this
      clear hP hQ hbw hy hY
      generalize Pl.al W M t = A at *
      go_wp2_with fail
      go_region_held3 (fun z => z.cell? ⟨P, 0, none⟩ = some (.int .i64 t.k) ∧ z.cell? ⟨P, 1, none⟩ = some (.int .i64 t.n) ∧ z.cell? ⟨P, 2, none⟩ = some (.slice ta tl tc))
        (first | go_keep)
        (first | (go_at_call 19; refine (PL.out _).mono ?_; rintro e w6 ⟨rfl, rfl⟩))
      · have hD : Has (((wr.alloc (Obj.cells #[.int .i64 t.k, .int .i64 t.n, .slice ta tl tc] 25)).alloc (Obj.cells #[.int .i64 3, .int .i64 p, .slice (some ⟨wr.heap.size, 0, none⟩) 1 1] 25)).drew) wr.heap.size #[.int .i64 t.k, .int .i64 t.n, .slice ta tl tc] := (Has.new _ _ _ rfl).alloc _
        have hE : Has (((wr.alloc (Obj.cells #[.int .i64 t.k, .int .i64 t.n, .slice ta tl tc] 25)).alloc (Obj.cells #[.int .i64 3, .int .i64 p, .slice (some ⟨wr.heap.size, 0, none⟩) 1 1] 25)).drew) (wr.heap.size + 1) #[.int .i64 3, .int .i64 p, .slice (some ⟨wr.heap.size, 0, none⟩) 1 1] := Has.new _ _ _ (by simp)
        have hB : Below wr.heap.size wr (((wr.alloc (Obj.cells #[.int .i64 t.k, .int .i64 t.n, .slice ta tl tc] 25)).alloc (Obj.cells #[.int .i64 3, .int .i64 p, .slice (some ⟨wr.heap.size, 0, none⟩) 1 1] 25)).drew) := (((Below.refl _ _).alloc (Nat.le_refl _) _).alloc (by simp) _).drew
        have HP7 := hid (PR.out.below hB)
        have HQ7 := hid (QR.out.below hB)
        have B7 := hid (below_of BW.out hB)
        clear hB f0 f1 f2 q0 q1 yp yq
        generalize ((wr.alloc (Obj.cells #[.int .i64 t.k, .int .i64 t.n, .slice ta tl tc] 25)).alloc (Obj.cells #[.int .i64 3, .int .i64 p, .slice (some ⟨wr.heap.size, 0, none⟩) 1 1] 25)).drew = w7 at *
        generalize wr.heap.size + 1 = D2 at *
        generalize wr.heap.size = D1 at *
        have HE := hid hE
        have HD := hid hD
        have p0 := HP7.out.2 0 _ rfl
        have p1 := HP7.out.2 1 _ rfl
        have p2 := HP7.out.2 2 _ rfl
        have q0 := HQ7.out.2 0 _ rfl
        have q1 := HQ7.out.2 1 _ rfl
        have e0 := HE.out.2 0 _ rfl
        have e1 := HE.out.2 1 _ rfl
        have e2 := HE.out.2 2 _ rfl
        clear hD hE
        go_wp2_with fail
        have HB0 : Hid (Below w7.heap.size w7 w7.drew) := (Below.refl _ _).drew
        go_region_held3 (fun z => z.cell? ⟨P, 0, none⟩ = some (.int .i64 t.k) ∧ z.cell? ⟨P, 1, none⟩ = some (.int .i64 t.n) ∧ z.cell? ⟨P, 2, none⟩ = some (.slice ta tl tc) ∧ z.cell? ⟨Q, 0, none⟩ = some (.int .i64 W) ∧ z.cell? ⟨Q, 1, none⟩ = some (.int .i64 M) ∧ z.cell? ⟨D2, 0, none⟩ = some (.int .i64 3) ∧ z.cell? ⟨D2, 1, none⟩ = some (.int .i64 p) ∧ z.cell? ⟨D2, 2, none⟩ = some (.slice (some ⟨D1, 0, none⟩) 1 1))
          (first | go_keep)
          (first
            | (go_at_call_of 18 (Value.agg #[.int .i64 6, .int .i64 0, .slice sa k sc]); refine (I6.out _ (below_of B7.out HB0.out)).mono ?_; rintro e u1 ⟨rfl, hu1⟩
               have HB1 := hid (below_of HB0.out hu1)
               have p0_1 := (HP7.out.below HB1.out).2 0 _ rfl
               have p1_1 := (HP7.out.below HB1.out).2 1 _ rfl
               have p2_1 := (HP7.out.below HB1.out).2 2 _ rfl
               have q0_1 := (HQ7.out.below HB1.out).2 0 _ rfl
               have q1_1 := (HQ7.out.below HB1.out).2 1 _ rfl
               have e0_1 := (HE.out.below HB1.out).2 0 _ rfl
               have e1_1 := (HE.out.below HB1.out).2 1 _ rfl
               have e2_1 := (HE.out.below HB1.out).2 2 _ rfl
               clear hu1)
            | (go_at_call_of 18 (Value.agg #[.int .i64 3, .int .i64 p, .slice (some ⟨D1, 0, none⟩) 1 1]); refine (I3.out _ _ (below_of B7.out HB1.out) (HD.out.below HB1.out)).mono ?_; rintro e u2 ⟨rfl, hu2⟩
               have HB2 := hid (below_of HB1.out hu2)
               have p0_2 := (HP7.out.below HB2.out).2 0 _ rfl
               have p1_2 := (HP7.out.below HB2.out).2 1 _ rfl
               have p2_2 := (HP7.out.below HB2.out).2 2 _ rfl
               have q0_2 := (HQ7.out.below HB2.out).2 0 _ rfl
               have q1_2 := (HQ7.out.below HB2.out).2 1 _ rfl
               have e0_2 := (HE.out.below HB2.out).2 0 _ rfl
               have e1_2 := (HE.out.below HB2.out).2 1 _ rfl
               have e2_2 := (HE.out.below HB2.out).2 2 _ rfl
               clear hu2)
            | (go_at_call_of 18 (Value.agg #[.int .i64 t.k, .int .i64 t.n, .slice ta tl tc]); refine (IX.out _ (below_of B7.out HB2.out)).mono ?_; rintro e u3 ⟨rfl, hu3⟩
               have HB3 := hid (below_of HB2.out hu3)
               have p0_3 := (HP7.out.below HB3.out).2 0 _ rfl
               have p1_3 := (HP7.out.below HB3.out).2 1 _ rfl
               have p2_3 := (HP7.out.below HB3.out).2 2 _ rfl
               have q0_3 := (HQ7.out.below HB3.out).2 0 _ rfl
               have q1_3 := (HQ7.out.below HB3.out).2 1 _ rfl
               have e0_3 := (HE.out.below HB3.out).2 0 _ rfl
               have e1_3 := (HE.out.below HB3.out).2 1 _ rfl
               have e2_3 := (HE.out.below HB3.out).2 2 _ rfl
               clear hu3))
        clear p0 p1 p2 q0 q1 e0 e1 e2
        go_wp2
        go_ret
        exact ⟨by simp, hPe ▸ DW.out _ (below_of B7.out HB3.out)⟩
      · have hD : Has (((wr.alloc (Obj.cells #[.int .i64 3, .int .i64 p, .slice (some ⟨wr.heap.size + 1, 0, none⟩) 1 1] 25)).alloc (Obj.cells #[.int .i64 t.k, .int .i64 t.n, .slice ta tl tc] 25)).drew) (wr.heap.size + 1) #[.int .i64 t.k, .int .i64 t.n, .slice ta tl tc] := Has.new _ _ _ (by simp)
        have hE : Has (((wr.alloc (Obj.cells #[.int .i64 3, .int .i64 p, .slice (some ⟨wr.heap.size + 1, 0, none⟩) 1 1] 25)).alloc (Obj.cells #[.int .i64 t.k, .int .i64 t.n, .slice ta tl tc] 25)).drew) wr.heap.size #[.int .i64 3, .int .i64 p, .slice (some ⟨wr.heap.size + 1, 0, none⟩) 1 1] := (Has.new _ _ _ rfl).alloc _
        have hB : Below wr.heap.size wr (((wr.alloc (Obj.cells #[.int .i64 3, .int .i64 p, .slice (some ⟨wr.heap.size + 1, 0, none⟩) 1 1] 25)).alloc (Obj.cells #[.int .i64 t.k, .int .i64 t.n, .slice ta tl tc] 25)).drew) := (((Below.refl _ _).alloc (Nat.le_refl _) _).alloc (by simp) _).drew
        have HP7 := hid (PR.out.below hB)
        have HQ7 := hid (QR.out.below hB)
        have B7 := hid (below_of BW.out hB)
        clear hB f0 f1 f2 q0 q1 yp yq
        generalize ((wr.alloc (Obj.cells #[.int .i64 3, .int .i64 p, .slice (some ⟨wr.heap.size + 1, 0, none⟩) 1 1] 25)).alloc (Obj.cells #[.int .i64 t.k, .int .i64 t.n, .slice ta tl tc] 25)).drew = w7 at *
        generalize wr.heap.size + 1 = D2 at *
        generalize wr.heap.size = D1 at *
        have HE := hid hE
        have HD := hid hD
        have p0 := HP7.out.2 0 _ rfl
        have p1 := HP7.out.2 1 _ rfl
        have p2 := HP7.out.2 2 _ rfl
        have q0 := HQ7.out.2 0 _ rfl
        have q1 := HQ7.out.2 1 _ rfl
        have e0 := HE.out.2 0 _ rfl
        have e1 := HE.out.2 1 _ rfl
        have e2 := HE.out.2 2 _ rfl
        clear hD hE
        go_wp2_with fail
        have HB0 : Hid (Below w7.heap.size w7 w7.drew) := (Below.refl _ _).drew
        go_region_held3 (fun z => z.cell? ⟨P, 0, none⟩ = some (.int .i64 t.k) ∧ z.cell? ⟨P, 1, none⟩ = some (.int .i64 t.n) ∧ z.cell? ⟨P, 2, none⟩ = some (.slice ta tl tc) ∧ z.cell? ⟨Q, 0, none⟩ = some (.int .i64 W) ∧ z.cell? ⟨Q, 1, none⟩ = some (.int .i64 M) ∧ z.cell? ⟨D1, 0, none⟩ = some (.int .i64 3) ∧ z.cell? ⟨D1, 1, none⟩ = some (.int .i64 p) ∧ z.cell? ⟨D1, 2, none⟩ = some (.slice (some ⟨D2, 0, none⟩) 1 1))
          (first | go_keep)
          (first
            | (go_at_call_of 18 (Value.agg #[.int .i64 6, .int .i64 0, .slice sa k sc]); refine (I6.out _ (below_of B7.out HB0.out)).mono ?_; rintro e u1 ⟨rfl, hu1⟩
               have HB1 := hid (below_of HB0.out hu1)
               have p0_1 := (HP7.out.below HB1.out).2 0 _ rfl
               have p1_1 := (HP7.out.below HB1.out).2 1 _ rfl
               have p2_1 := (HP7.out.below HB1.out).2 2 _ rfl
               have q0_1 := (HQ7.out.below HB1.out).2 0 _ rfl
               have q1_1 := (HQ7.out.below HB1.out).2 1 _ rfl
               have e0_1 := (HE.out.below HB1.out).2 0 _ rfl
               have e1_1 := (HE.out.below HB1.out).2 1 _ rfl
               have e2_1 := (HE.out.below HB1.out).2 2 _ rfl
               clear hu1)
            | (go_at_call_of 18 (Value.agg #[.int .i64 3, .int .i64 p, .slice (some ⟨D2, 0, none⟩) 1 1]); refine (I3.out _ _ (below_of B7.out HB1.out) (HD.out.below HB1.out)).mono ?_; rintro e u2 ⟨rfl, hu2⟩
               have HB2 := hid (below_of HB1.out hu2)
               have p0_2 := (HP7.out.below HB2.out).2 0 _ rfl
               have p1_2 := (HP7.out.below HB2.out).2 1 _ rfl
               have p2_2 := (HP7.out.below HB2.out).2 2 _ rfl
               have q0_2 := (HQ7.out.below HB2.out).2 0 _ rfl
               have q1_2 := (HQ7.out.below HB2.out).2 1 _ rfl
               have e0_2 := (HE.out.below HB2.out).2 0 _ rfl
               have e1_2 := (HE.out.below HB2.out).2 1 _ rfl
               have e2_2 := (HE.out.below HB2.out).2 2 _ rfl
               clear hu2)
            | (go_at_call_of 18 (Value.agg #[.int .i64 t.k, .int .i64 t.n, .slice ta tl tc]); refine (IX.out _ (below_of B7.out HB2.out)).mono ?_; rintro e u3 ⟨rfl, hu3⟩
               have HB3 := hid (below_of HB2.out hu3)
               have p0_3 := (HP7.out.below HB3.out).2 0 _ rfl
               have p1_3 := (HP7.out.below HB3.out).2 1 _ rfl
               have p2_3 := (HP7.out.below HB3.out).2 2 _ rfl
               have q0_3 := (HQ7.out.below HB3.out).2 0 _ rfl
               have q1_3 := (HQ7.out.below HB3.out).2 1 _ rfl
               have e0_3 := (HE.out.below HB3.out).2 0 _ rfl
               have e1_3 := (HE.out.below HB3.out).2 1 _ rfl
               have e2_3 := (HE.out.below HB3.out).2 2 _ rfl
               clear hu3))
        clear p0 p1 p2 q0 q1 e0 e1 e2
        go_wp2
        go_ret
        exact ⟨by simp, hPe ▸ DW.out _ (below_of B7.out HB3.out)⟩
      · have hD : Has (((wr.alloc (Obj.cells #[.int .i64 t.k, .int .i64 t.n, .slice ta tl tc] 25)).alloc (Obj.cells #[.int .i64 3, .int .i64 p, .slice (some ⟨wr.heap.size, 0, none⟩) 1 1] 25)).drew) wr.heap.size #[.int .i64 t.k, .int .i64 t.n, .slice ta tl tc] := (Has.new _ _ _ rfl).alloc _
        have hE : Has (((wr.alloc (Obj.cells #[.int .i64 t.k, .int .i64 t.n, .slice ta tl tc] 25)).alloc (Obj.cells #[.int .i64 3, .int .i64 p, .slice (some ⟨wr.heap.size, 0, none⟩) 1 1] 25)).drew) (wr.heap.size + 1) #[.int .i64 3, .int .i64 p, .slice (some ⟨wr.heap.size, 0, none⟩) 1 1] := Has.new _ _ _ (by simp)
        have hB : Below wr.heap.size wr (((wr.alloc (Obj.cells #[.int .i64 t.k, .int .i64 t.n, .slice ta tl tc] 25)).alloc (Obj.cells #[.int .i64 3, .int .i64 p, .slice (some ⟨wr.heap.size, 0, none⟩) 1 1] 25)).drew) := (((Below.refl _ _).alloc (Nat.le_refl _) _).alloc (by simp) _).drew
        have HP7 := hid (PR.out.below hB)
        have HQ7 := hid (QR.out.below hB)
        have B7 := hid (below_of BW.out hB)
        clear hB f0 f1 f2 q0 q1 yp yq
        generalize ((wr.alloc (Obj.cells #[.int .i64 t.k, .int .i64 t.n, .slice ta tl tc] 25)).alloc (Obj.cells #[.int .i64 3, .int .i64 p, .slice (some ⟨wr.heap.size, 0, none⟩) 1 1] 25)).drew = w7 at *
        generalize wr.heap.size + 1 = D2 at *
        generalize wr.heap.size = D1 at *
        have HE := hid hE
        have HD := hid hD
        have p0 := HP7.out.2 0 _ rfl
        have p1 := HP7.out.2 1 _ rfl
        have p2 := HP7.out.2 2 _ rfl
        have q0 := HQ7.out.2 0 _ rfl
        have q1 := HQ7.out.2 1 _ rfl
        have e0 := HE.out.2 0 _ rfl
        have e1 := HE.out.2 1 _ rfl
        have e2 := HE.out.2 2 _ rfl
        clear hD hE
        go_wp2_with fail
        have HB0 : Hid (Below w7.heap.size w7 w7.drew) := (Below.refl _ _).drew
        go_region_held3 (fun z => z.cell? ⟨P, 0, none⟩ = some (.int .i64 t.k) ∧ z.cell? ⟨P, 1, none⟩ = some (.int .i64 t.n) ∧ z.cell? ⟨P, 2, none⟩ = some (.slice ta tl tc) ∧ z.cell? ⟨Q, 0, none⟩ = some (.int .i64 W) ∧ z.cell? ⟨Q, 1, none⟩ = some (.int .i64 M) ∧ z.cell? ⟨D2, 0, none⟩ = some (.int .i64 3) ∧ z.cell? ⟨D2, 1, none⟩ = some (.int .i64 p) ∧ z.cell? ⟨D2, 2, none⟩ = some (.slice (some ⟨D1, 0, none⟩) 1 1))
          (first | go_keep)
          (first
            | (go_at_call_of 18 (Value.agg #[.int .i64 6, .int .i64 0, .slice sa k sc]); refine (I6.out _ (below_of B7.out HB0.out)).mono ?_; rintro e u1 ⟨rfl, hu1⟩
               have HB1 := hid (below_of HB0.out hu1)
               have p0_1 := (HP7.out.below HB1.out).2 0 _ rfl
               have p1_1 := (HP7.out.below HB1.out).2 1 _ rfl
               have p2_1 := (HP7.out.below HB1.out).2 2 _ rfl
               have q0_1 := (HQ7.out.below HB1.out).2 0 _ rfl
               have q1_1 := (HQ7.out.below HB1.out).2 1 _ rfl
               have e0_1 := (HE.out.below HB1.out).2 0 _ rfl
               have e1_1 := (HE.out.below HB1.out).2 1 _ rfl
               have e2_1 := (HE.out.below HB1.out).2 2 _ rfl
               clear hu1)
            | (go_at_call_of 18 (Value.agg #[.int .i64 3, .int .i64 p, .slice (some ⟨D1, 0, none⟩) 1 1]); refine (I3.out _ _ (below_of B7.out HB1.out) (HD.out.below HB1.out)).mono ?_; rintro e u2 ⟨rfl, hu2⟩
               have HB2 := hid (below_of HB1.out hu2)
               have p0_2 := (HP7.out.below HB2.out).2 0 _ rfl
               have p1_2 := (HP7.out.below HB2.out).2 1 _ rfl
               have p2_2 := (HP7.out.below HB2.out).2 2 _ rfl
               have q0_2 := (HQ7.out.below HB2.out).2 0 _ rfl
               have q1_2 := (HQ7.out.below HB2.out).2 1 _ rfl
               have e0_2 := (HE.out.below HB2.out).2 0 _ rfl
               have e1_2 := (HE.out.below HB2.out).2 1 _ rfl
               have e2_2 := (HE.out.below HB2.out).2 2 _ rfl
               clear hu2)
            | (go_at_call_of 18 (Value.agg #[.int .i64 t.k, .int .i64 t.n, .slice ta tl tc]); refine (IX.out _ (below_of B7.out HB2.out)).mono ?_; rintro e u3 ⟨rfl, hu3⟩
               have HB3 := hid (below_of HB2.out hu3)
               have p0_3 := (HP7.out.below HB3.out).2 0 _ rfl
               have p1_3 := (HP7.out.below HB3.out).2 1 _ rfl
               have p2_3 := (HP7.out.below HB3.out).2 2 _ rfl
               have q0_3 := (HQ7.out.below HB3.out).2 0 _ rfl
               have q1_3 := (HQ7.out.below HB3.out).2 1 _ rfl
               have e0_3 := (HE.out.below HB3.out).2 0 _ rfl
               have e1_3 := (HE.out.below HB3.out).2 1 _ rfl
               have e2_3 := (HE.out.below HB3.out).2 2 _ rfl
               clear hu3))
        clear p0 p1 p2 q0 q1 e0 e1 e2
        go_wp2
        go_ret
        exact ⟨by simp, hPe ▸ DW.out _ (below_of B7.out HB3.out)⟩
      · have hD : Has (((wr.alloc (Obj.cells #[.int .i64 t.k, .int .i64 t.n, .slice ta tl tc] 25)).alloc (Obj.cells #[.int .i64 3, .int .i64 p, .slice (some ⟨wr.heap.size, 0, none⟩) 1 1] 25)).drew) wr.heap.size #[.int .i64 t.k, .int .i64 t.n, .slice ta tl tc] := (Has.new _ _ _ rfl).alloc _
        have hE : Has (((wr.alloc (Obj.cells #[.int .i64 t.k, .int .i64 t.n, .slice ta tl tc] 25)).alloc (Obj.cells #[.int .i64 3, .int .i64 p, .slice (some ⟨wr.heap.size, 0, none⟩) 1 1] 25)).drew) (wr.heap.size + 1) #[.int .i64 3, .int .i64 p, .slice (some ⟨wr.heap.size, 0, none⟩) 1 1] := Has.new _ _ _ (by simp)
        have hB : Below wr.heap.size wr (((wr.alloc (Obj.cells #[.int .i64 t.k, .int .i64 t.n, .slice ta tl tc] 25)).alloc (Obj.cells #[.int .i64 3, .int .i64 p, .slice (some ⟨wr.heap.size, 0, none⟩) 1 1] 25)).drew) := (((Below.refl _ _).alloc (Nat.le_refl _) _).alloc (by simp) _).drew
        have HP7 := hid (PR.out.below hB)
        have HQ7 := hid (QR.out.below hB)
        have B7 := hid (below_of BW.out hB)
        clear hB f0 f1 f2 q0 q1 yp yq
        generalize ((wr.alloc (Obj.cells #[.int .i64 t.k, .int .i64 t.n, .slice ta tl tc] 25)).alloc (Obj.cells #[.int .i64 3, .int .i64 p, .slice (some ⟨wr.heap.size, 0, none⟩) 1 1] 25)).drew = w7 at *
        generalize wr.heap.size + 1 = D2 at *
        generalize wr.heap.size = D1 at *
        have HE := hid hE
        have HD := hid hD
        have p0 := HP7.out.2 0 _ rfl
        have p1 := HP7.out.2 1 _ rfl
        have p2 := HP7.out.2 2 _ rfl
        have q0 := HQ7.out.2 0 _ rfl
        have q1 := HQ7.out.2 1 _ rfl
        have e0 := HE.out.2 0 _ rfl
        have e1 := HE.out.2 1 _ rfl
        have e2 := HE.out.2 2 _ rfl
        clear hD hE
        go_wp2_with fail
        have HB0 : Hid (Below w7.heap.size w7 w7.drew) := (Below.refl _ _).drew
        go_region_held3 (fun z => z.cell? ⟨P, 0, none⟩ = some (.int .i64 t.k) ∧ z.cell? ⟨P, 1, none⟩ = some (.int .i64 t.n) ∧ z.cell? ⟨P, 2, none⟩ = some (.slice ta tl tc) ∧ z.cell? ⟨Q, 0, none⟩ = some (.int .i64 W) ∧ z.cell? ⟨Q, 1, none⟩ = some (.int .i64 M) ∧ z.cell? ⟨D2, 0, none⟩ = some (.int .i64 3) ∧ z.cell? ⟨D2, 1, none⟩ = some (.int .i64 p) ∧ z.cell? ⟨D2, 2, none⟩ = some (.slice (some ⟨D1, 0, none⟩) 1 1))
          (first | go_keep)
          (first
            | (go_at_call_of 18 (Value.agg #[.int .i64 6, .int .i64 0, .slice sa k sc]); refine (I6.out _ (below_of B7.out HB0.out)).mono ?_; rintro e u1 ⟨rfl, hu1⟩
               have HB1 := hid (below_of HB0.out hu1)
               have p0_1 := (HP7.out.below HB1.out).2 0 _ rfl
               have p1_1 := (HP7.out.below HB1.out).2 1 _ rfl
               have p2_1 := (HP7.out.below HB1.out).2 2 _ rfl
               have q0_1 := (HQ7.out.below HB1.out).2 0 _ rfl
               have q1_1 := (HQ7.out.below HB1.out).2 1 _ rfl
               have e0_1 := (HE.out.below HB1.out).2 0 _ rfl
               have e1_1 := (HE.out.below HB1.out).2 1 _ rfl
               have e2_1 := (HE.out.below HB1.out).2 2 _ rfl
               clear hu1)
            | (go_at_call_of 18 (Value.agg #[.int .i64 3, .int .i64 p, .slice (some ⟨D1, 0, none⟩) 1 1]); refine (I3.out _ _ (below_of B7.out HB1.out) (HD.out.below HB1.out)).mono ?_; rintro e u2 ⟨rfl, hu2⟩
               have HB2 := hid (below_of HB1.out hu2)
               have p0_2 := (HP7.out.below HB2.out).2 0 _ rfl
               have p1_2 := (HP7.out.below HB2.out).2 1 _ rfl
               have p2_2 := (HP7.out.below HB2.out).2 2 _ rfl
               have q0_2 := (HQ7.out.below HB2.out).2 0 _ rfl
               have q1_2 := (HQ7.out.below HB2.out).2 1 _ rfl
               have e0_2 := (HE.out.below HB2.out).2 0 _ rfl
               have e1_2 := (HE.out.below HB2.out).2 1 _ rfl
               have e2_2 := (HE.out.below HB2.out).2 2 _ rfl
               clear hu2)
            | (go_at_call_of 18 (Value.agg #[.int .i64 t.k, .int .i64 t.n, .slice ta tl tc]); refine (IX.out _ (below_of B7.out HB2.out)).mono ?_; rintro e u3 ⟨rfl, hu3⟩
               have HB3 := hid (below_of HB2.out hu3)
               have p0_3 := (HP7.out.below HB3.out).2 0 _ rfl
               have p1_3 := (HP7.out.below HB3.out).2 1 _ rfl
               have p2_3 := (HP7.out.below HB3.out).2 2 _ rfl
               have q0_3 := (HQ7.out.below HB3.out).2 0 _ rfl
               have q1_3 := (HQ7.out.below HB3.out).2 1 _ rfl
               have e0_3 := (HE.out.below HB3.out).2 0 _ rfl
               have e1_3 := (HE.out.below HB3.out).2 1 _ rfl
               have e2_3 := (HE.out.below HB3.out).2 2 _ rfl
               clear hu3))
        clear p0 p1 p2 q0 q1 e0 e1 e2
        go_wp2
        go_ret
        exact ⟨by simp, hPe ▸ DW.out _ (below_of B7.out HB3.out)⟩
      · have hD : Has (((wr.alloc (Obj.cells #[.int .i64 3, .int .i64 p, .slice (some ⟨wr.heap.size + 1, 0, none⟩) 1 1] 25)).alloc (Obj.cells #[.int .i64 t.k, .int .i64 t.n, .slice ta tl tc] 25)).drew) (wr.heap.size + 1) #[.int .i64 t.k, .int .i64 t.n, .slice ta tl tc] := Has.new _ _ _ (by simp)
        have hE : Has (((wr.alloc (Obj.cells #[.int .i64 3, .int .i64 p, .slice (some ⟨wr.heap.size + 1, 0, none⟩) 1 1] 25)).alloc (Obj.cells #[.int .i64 t.k, .int .i64 t.n, .slice ta tl tc] 25)).drew) wr.heap.size #[.int .i64 3, .int .i64 p, .slice (some ⟨wr.heap.size + 1, 0, none⟩) 1 1] := (Has.new _ _ _ rfl).alloc _
        have hB : Below wr.heap.size wr (((wr.alloc (Obj.cells #[.int .i64 3, .int .i64 p, .slice (some ⟨wr.heap.size + 1, 0, none⟩) 1 1] 25)).alloc (Obj.cells #[.int .i64 t.k, .int .i64 t.n, .slice ta tl tc] 25)).drew) := (((Below.refl _ _).alloc (Nat.le_refl _) _).alloc (by simp) _).drew
        have HP7 := hid (PR.out.below hB)
        have HQ7 := hid (QR.out.below hB)
        have B7 := hid (below_of BW.out hB)
        clear hB f0 f1 f2 q0 q1 yp yq
        generalize ((wr.alloc (Obj.cells #[.int .i64 3, .int .i64 p, .slice (some ⟨wr.heap.size + 1, 0, none⟩) 1 1] 25)).alloc (Obj.cells #[.int .i64 t.k, .int .i64 t.n, .slice ta tl tc] 25)).drew = w7 at *
        generalize wr.heap.size + 1 = D2 at *
        generalize wr.heap.size = D1 at *
        have HE := hid hE
        have HD := hid hD
        have p0 := HP7.out.2 0 _ rfl
        have p1 := HP7.out.2 1 _ rfl
        have p2 := HP7.out.2 2 _ rfl
        have q0 := HQ7.out.2 0 _ rfl
        have q1 := HQ7.out.2 1 _ rfl
        have e0 := HE.out.2 0 _ rfl
        have e1 := HE.out.2 1 _ rfl
        have e2 := HE.out.2 2 _ rfl
        clear hD hE
        go_wp2_with fail
        have HB0 : Hid (Below w7.heap.size w7 w7.drew) := (Below.refl _ _).drew
        go_region_held3 (fun z => z.cell? ⟨P, 0, none⟩ = some (.int .i64 t.k) ∧ z.cell? ⟨P, 1, none⟩ = some (.int .i64 t.n) ∧ z.cell? ⟨P, 2, none⟩ = some (.slice ta tl tc) ∧ z.cell? ⟨Q, 0, none⟩ = some (.int .i64 W) ∧ z.cell? ⟨Q, 1, none⟩ = some (.int .i64 M) ∧ z.cell? ⟨D1, 0, none⟩ = some (.int .i64 3) ∧ z.cell? ⟨D1, 1, none⟩ = some (.int .i64 p) ∧ z.cell? ⟨D1, 2, none⟩ = some (.slice (some ⟨D2, 0, none⟩) 1 1))
          (first | go_keep)
          (first
            | (go_at_call_of 18 (Value.agg #[.int .i64 6, .int .i64 0, .slice sa k sc]); refine (I6.out _ (below_of B7.out HB0.out)).mono ?_; rintro e u1 ⟨rfl, hu1⟩
               have HB1 := hid (below_of HB0.out hu1)
               have p0_1 := (HP7.out.below HB1.out).2 0 _ rfl
               have p1_1 := (HP7.out.below HB1.out).2 1 _ rfl
               have p2_1 := (HP7.out.below HB1.out).2 2 _ rfl
               have q0_1 := (HQ7.out.below HB1.out).2 0 _ rfl
               have q1_1 := (HQ7.out.below HB1.out).2 1 _ rfl
               have e0_1 := (HE.out.below HB1.out).2 0 _ rfl
               have e1_1 := (HE.out.below HB1.out).2 1 _ rfl
               have e2_1 := (HE.out.below HB1.out).2 2 _ rfl
               clear hu1)
            | (go_at_call_of 18 (Value.agg #[.int .i64 3, .int .i64 p, .slice (some ⟨D2, 0, none⟩) 1 1]); refine (I3.out _ _ (below_of B7.out HB1.out) (HD.out.below HB1.out)).mono ?_; rintro e u2 ⟨rfl, hu2⟩
               have HB2 := hid (below_of HB1.out hu2)
               have p0_2 := (HP7.out.below HB2.out).2 0 _ rfl
               have p1_2 := (HP7.out.below HB2.out).2 1 _ rfl
               have p2_2 := (HP7.out.below HB2.out).2 2 _ rfl
               have q0_2 := (HQ7.out.below HB2.out).2 0 _ rfl
               have q1_2 := (HQ7.out.below HB2.out).2 1 _ rfl
               have e0_2 := (HE.out.below HB2.out).2 0 _ rfl
               have e1_2 := (HE.out.below HB2.out).2 1 _ rfl
               have e2_2 := (HE.out.below HB2.out).2 2 _ rfl
               clear hu2)
            | (go_at_call_of 18 (Value.agg #[.int .i64 t.k, .int .i64 t.n, .slice ta tl tc]); refine (IX.out _ (below_of B7.out HB2.out)).mono ?_; rintro e u3 ⟨rfl, hu3⟩
               have HB3 := hid (below_of HB2.out hu3)
               have p0_3 := (HP7.out.below HB3.out).2 0 _ rfl
               have p1_3 := (HP7.out.below HB3.out).2 1 _ rfl
               have p2_3 := (HP7.out.below HB3.out).2 2 _ rfl
               have q0_3 := (HQ7.out.below HB3.out).2 0 _ rfl
               have q1_3 := (HQ7.out.below HB3.out).2 1 _ rfl
               have e0_3 := (HE.out.below HB3.out).2 0 _ rfl
               have e1_3 := (HE.out.below HB3.out).2 1 _ rfl
               have e2_3 := (HE.out.below HB3.out).2 2 _ rfl
               clear hu3))
        clear p0 p1 p2 q0 q1 e0 e1 e2
        go_wp2
        go_ret
        exact ⟨by simp, hPe ▸ DW.out _ (below_of B7.out HB3.out)⟩
      · have hD : Has (((wr.alloc (Obj.cells #[.int .i64 3, .int .i64 p, .slice (some ⟨wr.heap.size + 1, 0, none⟩) 1 1] 25)).alloc (Obj.cells #[.int .i64 t.k, .int .i64 t.n, .slice ta tl tc] 25)).drew) (wr.heap.size + 1) #[.int .i64 t.k, .int .i64 t.n, .slice ta tl tc] := Has.new _ _ _ (by simp)
        have hE : Has (((wr.alloc (Obj.cells #[.int .i64 3, .int .i64 p, .slice (some ⟨wr.heap.size + 1, 0, none⟩) 1 1] 25)).alloc (Obj.cells #[.int .i64 t.k, .int .i64 t.n, .slice ta tl tc] 25)).drew) wr.heap.size #[.int .i64 3, .int .i64 p, .slice (some ⟨wr.heap.size + 1, 0, none⟩) 1 1] := (Has.new _ _ _ rfl).alloc _
        have hB : Below wr.heap.size wr (((wr.alloc (Obj.cells #[.int .i64 3, .int .i64 p, .slice (some ⟨wr.heap.size + 1, 0, none⟩) 1 1] 25)).alloc (Obj.cells #[.int .i64 t.k, .int .i64 t.n, .slice ta tl tc] 25)).drew) := (((Below.refl _ _).alloc (Nat.le_refl _) _).alloc (by simp) _).drew
        have HP7 := hid (PR.out.below hB)
        have HQ7 := hid (QR.out.below hB)
        have B7 := hid (below_of BW.out hB)
        clear hB f0 f1 f2 q0 q1 yp yq
        generalize ((wr.alloc (Obj.cells #[.int .i64 3, .int .i64 p, .slice (some ⟨wr.heap.size + 1, 0, none⟩) 1 1] 25)).alloc (Obj.cells #[.int .i64 t.k, .int .i64 t.n, .slice ta tl tc] 25)).drew = w7 at *
        generalize wr.heap.size + 1 = D2 at *
        generalize wr.heap.size = D1 at *
        have HE := hid hE
        have HD := hid hD
        have p0 := HP7.out.2 0 _ rfl
        have p1 := HP7.out.2 1 _ rfl
        have p2 := HP7.out.2 2 _ rfl
        have q0 := HQ7.out.2 0 _ rfl
        have q1 := HQ7.out.2 1 _ rfl
        have e0 := HE.out.2 0 _ rfl
        have e1 := HE.out.2 1 _ rfl
        have e2 := HE.out.2 2 _ rfl
        clear hD hE
        go_wp2_with fail
        have HB0 : Hid (Below w7.heap.size w7 w7.drew) := (Below.refl _ _).drew
        go_region_held3 (fun z => z.cell? ⟨P, 0, none⟩ = some (.int .i64 t.k) ∧ z.cell? ⟨P, 1, none⟩ = some (.int .i64 t.n) ∧ z.cell? ⟨P, 2, none⟩ = some (.slice ta tl tc) ∧ z.cell? ⟨Q, 0, none⟩ = some (.int .i64 W) ∧ z.cell? ⟨Q, 1, none⟩ = some (.int .i64 M) ∧ z.cell? ⟨D1, 0, none⟩ = some (.int .i64 3) ∧ z.cell? ⟨D1, 1, none⟩ = some (.int .i64 p) ∧ z.cell? ⟨D1, 2, none⟩ = some (.slice (some ⟨D2, 0, none⟩) 1 1))
          (first | go_keep)
          (first
            | (go_at_call_of 18 (Value.agg #[.int .i64 6, .int .i64 0, .slice sa k sc]); refine (I6.out _ (below_of B7.out HB0.out)).mono ?_; rintro e u1 ⟨rfl, hu1⟩
               have HB1 := hid (below_of HB0.out hu1)
               have p0_1 := (HP7.out.below HB1.out).2 0 _ rfl
               have p1_1 := (HP7.out.below HB1.out).2 1 _ rfl
               have p2_1 := (HP7.out.below HB1.out).2 2 _ rfl
               have q0_1 := (HQ7.out.below HB1.out).2 0 _ rfl
               have q1_1 := (HQ7.out.below HB1.out).2 1 _ rfl
               have e0_1 := (HE.out.below HB1.out).2 0 _ rfl
               have e1_1 := (HE.out.below HB1.out).2 1 _ rfl
               have e2_1 := (HE.out.below HB1.out).2 2 _ rfl
               clear hu1)
            | (go_at_call_of 18 (Value.agg #[.int .i64 3, .int .i64 p, .slice (some ⟨D2, 0, none⟩) 1 1]); refine (I3.out _ _ (below_of B7.out HB1.out) (HD.out.below HB1.out)).mono ?_; rintro e u2 ⟨rfl, hu2⟩
               have HB2 := hid (below_of HB1.out hu2)
               have p0_2 := (HP7.out.below HB2.out).2 0 _ rfl
               have p1_2 := (HP7.out.below HB2.out).2 1 _ rfl
               have p2_2 := (HP7.out.below HB2.out).2 2 _ rfl
               have q0_2 := (HQ7.out.below HB2.out).2 0 _ rfl
               have q1_2 := (HQ7.out.below HB2.out).2 1 _ rfl
               have e0_2 := (HE.out.below HB2.out).2 0 _ rfl
               have e1_2 := (HE.out.below HB2.out).2 1 _ rfl
               have e2_2 := (HE.out.below HB2.out).2 2 _ rfl
               clear hu2)
            | (go_at_call_of 18 (Value.agg #[.int .i64 t.k, .int .i64 t.n, .slice ta tl tc]); refine (IX.out _ (below_of B7.out HB2.out)).mono ?_; rintro e u3 ⟨rfl, hu3⟩
               have HB3 := hid (below_of HB2.out hu3)
               have p0_3 := (HP7.out.below HB3.out).2 0 _ rfl
               have p1_3 := (HP7.out.below HB3.out).2 1 _ rfl
               have p2_3 := (HP7.out.below HB3.out).2 2 _ rfl
               have q0_3 := (HQ7.out.below HB3.out).2 0 _ rfl
               have q1_3 := (HQ7.out.below HB3.out).2 1 _ rfl
               have e0_3 := (HE.out.below HB3.out).2 0 _ rfl
               have e1_3 := (HE.out.below HB3.out).2 1 _ rfl
               have e2_3 := (HE.out.below HB3.out).2 2 _ rfl
               clear hu3))
        clear p0 p1 p2 q0 q1 e0 e1 e2
        go_wp2
        go_ret
        exact ⟨by simp, hPe ▸ DW.out _ (below_of B7.out HB3.out)⟩
theorem law3 (es : List Pl.Ty) (t : Pl.Ty) (x : Int) (c : Bool) (a : Int) (hx : Pl.in64 x) (ha : Pl.in64 a) (sv tv : Value) (w : World) (ht : Tab w) (hl : Lie w es sv) (hlt' : Lie w t.es tv) (h64k : Pl.in64 t.k) (h64n : Pl.in64 t.n) :
    Calls Tryz.prog 3 #[sv, .agg #[.int .i64 t.k, .int .i64 t.n, tv], .int .i64 x, .bool c, .int .i64 a] w (LawPost w) := by
  have hlen := hl.len
  have hlen' := hlt'.len
  unfold reach at hlen hlen'
  by_cases hfit : (es.length : Int) ≤ 2147483647
  · by_cases hfit' : (t.es.length : Int) ≤ 2147483647
    · exact law3_fit es t x c a hx ha sv tv w ht hl hlt' hfit hfit' h64k h64n
    · obtain ⟨sa, sc, rfl⟩ := hl.slice
      obtain ⟨ta, tc, rfl⟩ := hlt'.slice
      exact law3_unfit es t.k t.n x c a sa ta sc _ tc w hfit (by omega) hfit'
  · obtain ⟨sa, sc, rfl⟩ := hl.slice
    obtain ⟨ta, tc, rfl⟩ := hlt'.slice
    exact law3_long es t.k t.n x c a sa ta sc _ tc w (by omega) hfit
end Go.Proofs.YtphfjojdiilneaaGreatDoor
