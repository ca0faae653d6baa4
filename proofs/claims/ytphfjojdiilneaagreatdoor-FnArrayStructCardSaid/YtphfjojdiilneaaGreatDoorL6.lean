/- The walk of FnArrayStruct. -/
import Derived.Test.YtphfjojdiilneaaGreatDoorOwn
import Derived.Test.YtphfjojdiilneaaGreatDoorSsz
import Derived.Test.YtphfjojdiilneaaGreatDoorPrp
set_option linter.unusedVariables false
set_option linter.unusedSimpArgs false
namespace Go.Proofs.YtphfjojdiilneaaGreatDoor
open Go.RowKit

theorem rep_valid (x : Pl.Ty) (k : Nat) (hv : Pl.valid x = true) : Pl.valid (.mk 6 0 (List.replicate k x)) = true ∧ Pl.valid (.mk 3 k [x]) = true := by
  have h : Pl.validL (List.replicate k x) = true := by
    rw [Pl.validL_iff]
    intro t ht
    rw [(List.mem_replicate.1 ht).2]; exact hv
  constructor
  · simp [Pl.valid, Pl.need, h]
  · simp [Pl.valid, Pl.validL, Pl.need, hv]

set_option maxRecDepth 100000 in
set_option maxHeartbeats 4000000 in
theorem law6_fit (t : Pl.Ty) (x : Int) (c : Bool) (a : Int) (hx : Pl.in64 x) (ha : Pl.in64 a) (sv : Value) (w : World) (ht : Tab w) (hl : Lie w t.es sv) (hfit : (t.es.length : Int) ≤ 2147483647) (h64k : Pl.in64 t.k) (h64n : Pl.in64 t.n) :
    Calls Tryz.prog 6 #[.agg #[.int .i64 t.k, .int .i64 t.n, sv], .int .i64 x, .bool c, .int .i64 a] w (LawPost w) := by
  obtain ⟨sa, sc, rfl⟩ := hl.slice
  have TAB := hid ht
  have HL := hid hl
  have FIT : Hid (∀ x : World, Calls Tryz.prog 15 #[.agg #[.int .i64 t.k, .int .i64 t.n, .slice sa t.es.length sc]] x (BoolPost true x)) := by
    intro x
    have := fits_any t.k t.n sa t.es.length sc (by omega) x
    rwa [decide_eq_true hfit] at this
  have VAL : Hid (∀ (b : Nat) (x : World), Lie x t.es (.slice sa t.es.length sc) → x.cell? ⟨b, 0, none⟩ = some (.int .i64 t.k) → x.cell? ⟨b, 1, none⟩ = some (.int .i64 t.n) → x.cell? ⟨b, 2, none⟩ = some (.slice sa t.es.length sc) → Calls Tryz.prog 16 #[.slice (some ⟨b, 0, none⟩) 1 1] x (BoolPost (Pl.valid t) x)) :=
    fun b x h1 h2 h3 h4 => val_one t _ rfl h64k h64n b _ x h1 h2 h3 h4
  have PL : Hid (∀ wx : World, Calls Tryz.prog 19 #[.int .i64 x, .int .i64 41] wx fun e w' => e = .returned (.int .i64 (x % 41)) ∧ wx = w') := fun wx => place_any x 41 wx hx (by omega) (by omega)
  have hp0 := Int.emod_nonneg x (show (41 : Int) ≠ 0 by omega)
  have hp1 := Int.emod_lt_of_pos x (show (0 : Int) < 41 by omega)
  clear hl ht hfit
  clear hx
  generalize x % 41 = p at *
  obtain ⟨N, rfl⟩ : ∃ N : Nat, p = N := ⟨p.toNat, by omega⟩
  have hN : N < 41 := by omega
  clear hp0 hp1
  generalize hsl : t.es.length = sl at *
  go_enter Tryz.func6, Tryz.ntmps6
  go_wp2_with fail
  have hb0 : Below w.heap.size w (w.alloc (Obj.cells #[Value.int IntKind.i64 t.k, Value.int IntKind.i64 t.n, Value.slice sa sl sc] 25)) := (Below.refl _ _).alloc (Nat.le_refl _) _
  refine (FIT.out _).mono ?_
  rintro e w1 ⟨rfl, hb1⟩
  have b0 : w1.cell? ⟨w.heap.size, 0, none⟩ = some (.int .i64 t.k) := by rw [bcell hb1 _ _ (by simp)]; simp
  have b1 : w1.cell? ⟨w.heap.size, 1, none⟩ = some (.int .i64 t.n) := by rw [bcell hb1 _ _ (by simp)]; simp
  have b2 : w1.cell? ⟨w.heap.size, 2, none⟩ = some (.slice sa sl sc) := by rw [bcell hb1 _ _ (by simp)]; simp
  have B1 := hid (below_of hb0 hb1)
  have s1 : w.heap.size < w1.heap.size := by have := hb1.size; simp at this; omega
  clear hb0 hb1
  go_wp2_with fail
  have hb1 : Below w1.heap.size w1 (w1.alloc (Obj.cells #[Value.int IntKind.i64 t.k, Value.int IntKind.i64 t.n, Value.slice sa sl sc] 25)) := (Below.refl _ _).alloc (Nat.le_refl _) _
  refine (VAL.out _ _ (HL.out.kept (.of_below (below_of B1.out hb1))) ?_ ?_ ?_).mono ?_
  · simp
  · simp
  · simp
  rintro e w2 ⟨rfl, hb2⟩
  have hb2 := below_of hb1 hb2
  have B2 := hid (below_of B1.out hb2)
  have c0 := (bcell hb2 _ _ s1).trans b0
  have c1 := (bcell hb2 _ _ s1).trans b1
  have c2 := (bcell hb2 _ _ s1).trans b2
  have s2 : w.heap.size < w2.heap.size := Nat.lt_of_lt_of_le s1 hb2.size
  clear b0 b1 b2 hb1 hb2 s1
  cases hv : Pl.valid t with
  | false =>
    clear hv
    go_wp2_with fail
    go_ret
    exact ⟨rfl, B2.out⟩
  | true =>
    have HV := hid hv
    clear hv
    obtain ⟨i0, hi, hz0, hz1, hz2⟩ := info_parts info25
    go_wp2_with fail
    refine (sizes_any c a ha _).mono ?_
    rintro e w3 ⟨W, M, rfl, okW, okM, hb3⟩
    have d0 := (bcell hb3 _ _ s2).trans c0
    have d1 := (bcell hb3 _ _ s2).trans c1
    have d2 := (bcell hb3 _ _ s2).trans c2
    have s3 : w.heap.size < w3.heap.size := Nat.lt_of_lt_of_le s2 hb3.size
    have B3 := hid (below_of B2.out hb3)
    have OKW := hid okW
    have OKM := hid okM
    clear hb3 c0 c1 c2 s2 okW okM
    go_wp2_with (first | (go_at_call 19; refine (PL.out _).mono ?_; rintro e w' ⟨rfl, rfl⟩))
    have B4 := hid (B3.out.alloc B3.out.size (.cells #[.int .i64 W, .int .i64 M] 29))
    have hQ : Has (w3.alloc (.cells #[.int .i64 W, .int .i64 M] 29)) w3.heap.size #[.int .i64 W, .int .i64 M] := Has.new _ _ _ rfl
    have hP : Has (w3.alloc (.cells #[.int .i64 W, .int .i64 M] 29)) w.heap.size #[.int .i64 t.k, .int .i64 t.n, .slice sa sl sc] := by
      refine Has.alloc ⟨s3, fun j v hv => ?_⟩ _
      match j, hv with
      | 0, hv => cases hv; exact d0
      | 1, hv => cases hv; exact d1
      | 2, hv => cases hv; exact d2
    clear d0 d1 d2 s3
    generalize (w3.alloc (.cells #[.int .i64 W, .int .i64 M] 29)) = w4 at *
    generalize w3.heap.size = Q at *
    generalize hPe : w.heap.size = P at *
    have SSZ : Hid (Calls Tryz.prog 22 #[.agg #[.int .i64 W, .int .i64 M], .agg #[.int .i64 t.k, .int .i64 t.n, .slice sa sl sc]] w4 (IntPost (Pl.sz W M t) w4)) :=
      ssz_all t HV.out h64n _ W M w4 OKW.out OKM.out (HL.out.kept (.of_below (hPe ▸ B4.out)))
    refine SSZ.out.mono ?_
    rintro e w5 ⟨rfl, hb5⟩
    have B5 := hid (B4.out.trans (hb5.mono (Nat.le_of_lt hP.1)))
    have hQ := hQ.below hb5
    have hP := hP.below hb5
    clear hb5 SSZ
    have HQ := hid hQ
    have HP := hid hP
    have q0 := hQ.2 0 _ rfl
    have q1 := hQ.2 1 _ rfl
    have p0 := hP.2 0 _ rfl
    have p1 := hP.2 1 _ rfl
    have p2 := hP.2 2 _ rfl
    have zq := hQ.1
    have zp := hP.1
    clear hQ hP B3 B4
    by_cases hbig : 4611686018427387904 < Pl.sz W M t
    · generalize Pl.sz W M t = S at *
      go_wp2_with fail
      refine (works_any W M OKW.out OKM.out _ (TAB.out.kept (.of_below (hPe ▸ B5.out)))).mono ?_
      rintro e w9 ⟨rfl, hb9⟩
      have HB9 := hid (B5.out.trans (hb9.mono (Nat.le_of_lt zp)))
      clear hb9
      go_wp2_with fail
      go_ret
      exact ⟨rfl, hPe ▸ HB9.out⟩
    · have SREP := hid (Pl.sz_rep N t W M OKW.out OKM.out (by omega))
      obtain ⟨hv6, hv3⟩ := rep_valid t N HV.out
      have I6 : Hid (∀ (v : Value) (wx : World), Tab wx → Lie wx (List.replicate N t) v → Calls Tryz.prog 24 #[.int .i64 W, .int .i64 M, .agg #[.int .i64 6, .int .i64 0, v]] wx (SzPost (Pl.sz W M (.mk 3 N [t])) wx)) := by
        intro v wx h1 h2
        have := iszof (.mk 6 0 (List.replicate N t)) hv6 W M OKW.out OKM.out v wx h1 h2 ⟨by simp [Pl.Ty.k], by simp [Pl.Ty.k]⟩ ⟨by simp [Pl.Ty.n], by simp [Pl.Ty.n]⟩
        rwa [SREP.out] at this
      have I3 : Hid (∀ (v : Value) (wx : World), Tab wx → Lie wx [t] v → Calls Tryz.prog 24 #[.int .i64 W, .int .i64 M, .agg #[.int .i64 3, .int .i64 N, v]] wx (SzPost (Pl.sz W M (.mk 3 N [t])) wx)) := by
        intro v wx h1 h2
        exact iszof (.mk 3 N [t]) hv3 W M OKW.out OKM.out v wx h1 h2 ⟨by simp [Pl.Ty.k], by simp [Pl.Ty.k]⟩ ⟨by simp only [Pl.Ty.n]; omega, by simp only [Pl.Ty.n]; omega⟩
      have LX : Hid (∀ wx, Below w5.heap.size w5 wx → Lie wx t.es (.slice sa sl sc)) := fun wx h => HL.out.kept (.of_below (hPe ▸ (B5.out.trans (h.mono (Nat.le_of_lt zp)))))
      have TX : Hid (∀ wx, Below w5.heap.size w5 wx → Tab wx) := fun wx h => TAB.out.kept (.of_below (hPe ▸ (B5.out.trans (h.mono (Nat.le_of_lt zp)))))
      clear hv6 hv3 SREP
      generalize hSe : Pl.sz W M t = S at *
      generalize Pl.sz W M (.mk 3 N [t]) = S3 at *
      clear hSe
      go_wp2_with fail
      go_loopw [10, 31] (fun v i wr => ∃ (k : Nat) (u : Value), k ≤ N ∧ i = .int .i64 k ∧ u = v ∧ RepInv w5 t (.slice sa sl sc) k u wr) (fun _ i _ => N - (intOf i).toNat)
      case atStart => exact ⟨0, _, Nat.zero_le _, rfl, rfl, RepInv.start _ _ _⟩
      case round =>
        obtain ⟨k, v, hk, rfl, rfl, hinv⟩ := hrel
        have hbw := hinv.2
        have e0 := (bcell hbw _ _ zp).trans p0
        have e1 := (bcell hbw _ _ zp).trans p1
        have e2 := (bcell hbw _ _ zp).trans p2
        have f0 := (bcell hbw _ _ zq).trans q0
        have f1 := (bcell hbw _ _ zq).trans q1
        have yp := Nat.lt_of_lt_of_le zp hbw.size
        have yq := Nat.lt_of_lt_of_le zq hbw.size
        have sz5 := hbw.size
        have INV := hid hinv
        have BW := hid hbw
        clear hinv hbw p0 p1 p2 q0 q1
        by_cases hlt : k < N
        · go_wp2_with (at_builtin; (refine wpList_append_own_at _ rfl _ _ 22 rfl w5.heap.size 25 i0 (.agg #[.int .i64 0, .int .i64 0, .slice none 0 0]) 3 40 Tryz.underlying22 hi hz0 hz1 hz2 rfl (by decide) _ _ _ rfl (INV.out.1.alloc _) ⟨wr.heap.size, 0, none⟩ 1 1 [.int .i64 t.k, .int .i64 t.n, .slice sa sl sc] rfl rfl ?c1 ?c2 ?c3 ?c4 ?c5 ?_))
          case c1 =>
            intro j u hj
            match j, hj with
            | 0, hj => simp at hj; subst hj; simp [Addr.add]
            | 1, hj => simp at hj; subst hj; simp [Addr.add]
            | 2, hj => simp at hj; subst hj; simp [Addr.add]
          case c2 =>
            intro u hu
            simp at hu
            rcases hu with rfl | rfl | rfl <;> rfl
          case c3 => unfold maxLen; omega
          case c4 => omega
          case c5 => simp; omega
          intro v' w6 hown' hgrow _ hat
          have INV2 := hid (RepInv.step INV.out ((Below.refl _ _).alloc (Nat.le_refl _) _) hown' hgrow)
          clear hown' hgrow hat e0 e1 e2 f0 f1
          go_wp2
          go_roundw
          case rel => exact ⟨k + 1, _, by omega, by go_num, rfl, INV2.out⟩
          case measure => simp [intOf]; omega
        · obtain rfl : k = N := by omega
          have LR := hid (INV.out.lie h64k h64n (LX.out _ BW.out) (by unfold reach; omega))
          obtain ⟨va, vc, hve⟩ : ∃ va vc, v = .slice va k vc := by
            obtain ⟨va, vc, e⟩ := LR.out.slice
            exact ⟨va, vc, by rw [e, List.length_replicate]⟩
          clear INV
          subst hve
          go_wp2_with fail
          refine (I6.out _ _ (TX.out _ BW.out) LR.out).mono ?_
          rintro e w6 ⟨r, rfl, har, h64r, hb6⟩
          have HAR := hid har
          have B6 := hid (below_of BW.out hb6)
          have g0 := (bcell hb6 _ _ yp).trans e0
          have g1 := (bcell hb6 _ _ yp).trans e1
          have g2 := (bcell hb6 _ _ yp).trans e2
          have h0 := (bcell hb6 _ _ yq).trans f0
          have h1 := (bcell hb6 _ _ yq).trans f1
          have xq := Nat.lt_of_lt_of_le yq hb6.size
          clear hb6 har h64r e0 e1 e2 f0 f1 LR
          go_wp2_with fail
          have hb7 : Below w6.heap.size w6 (w6.alloc (.cells #[.int .i64 t.k, .int .i64 t.n, .slice sa sl sc] 25)) := (Below.refl _ _).alloc (Nat.le_refl _) _
          have h7 : Has (w6.alloc (.cells #[.int .i64 t.k, .int .i64 t.n, .slice sa sl sc] 25)) w6.heap.size #[.int .i64 t.k, .int .i64 t.n, .slice sa sl sc] := Has.new _ _ _ rfl
          refine (I3.out _ _ (TX.out _ (below_of B6.out hb7)) (h7.one h64k h64n (LX.out _ (below_of B6.out hb7)))).mono ?_
          rintro e w8 ⟨r', rfl, har', h64r', hb8⟩
          have hb8 := below_of hb7 hb8
          have HAL := hid (HAR.out.both har')
          have B8 := hid (below_of B6.out hb8)
          have k0 := (bcell hb8 _ _ xq).trans h0
          have k1 := (bcell hb8 _ _ xq).trans h1
          clear hb7 hb8 h7 har' h64r' g0 g1 g2 h0 h1
          go_wp2_with (first | (go_at_call 25; refine (alike_any _ _ _ HAL.out).mono ?_; rintro e w' ⟨rfl, rfl⟩))
          refine (works_any W M OKW.out OKM.out _ (TX.out _ B8.out)).mono ?_
          rintro e w9 ⟨rfl, hb9⟩
          have HB9 := hid (B5.out.trans ((below_of B8.out hb9).mono (Nat.le_of_lt zp)))
          clear hb9 k0 k1
          go_wp2_with fail
          go_ret
          exact ⟨rfl, hPe ▸ HB9.out⟩
set_option maxHeartbeats 400000 in
theorem law6_unfit (k n x : Int) (c : Bool) (a : Int) (sa : Option Addr) (sl sc : Nat) (w : World) (hsl : sl ≤ 9223372036854775807) (hfit : ¬ (sl : Int) ≤ 2147483647) :
    Calls Tryz.prog 6 #[.agg #[.int .i64 k, .int .i64 n, .slice sa sl sc], .int .i64 x, .bool c, .int .i64 a] w (LawPost w) := by
  have FIT : Hid (∀ x : World, Calls Tryz.prog 15 #[.agg #[.int .i64 k, .int .i64 n, .slice sa sl sc]] x (BoolPost false x)) := by
    intro x
    have := fits_any k n sa sl sc hsl x
    rwa [decide_eq_false hfit] at this
  clear hsl hfit
  have hb0 : Below w.heap.size w (w.alloc (Obj.cells #[Value.int IntKind.i64 k, Value.int IntKind.i64 n, Value.slice sa sl sc] 25)) := (Below.refl _ _).alloc (Nat.le_refl _) _
  go_enter Tryz.func6, Tryz.ntmps6
  go_wp2_with fail
  refine (FIT.out _).mono ?_
  rintro e w1 ⟨rfl, hb1⟩
  have B1 := hid (below_of hb0 hb1)
  clear hb1
  go_wp2_with fail
  go_ret
  exact ⟨rfl, B1.out⟩
theorem law6 (t : Pl.Ty) (x : Int) (c : Bool) (a : Int) (hx : Pl.in64 x) (ha : Pl.in64 a) (sv : Value) (w : World) (ht : Tab w) (hl : Lie w t.es sv) (h64k : Pl.in64 t.k) (h64n : Pl.in64 t.n) :
    Calls Tryz.prog 6 #[.agg #[.int .i64 t.k, .int .i64 t.n, sv], .int .i64 x, .bool c, .int .i64 a] w (LawPost w) := by
  by_cases hfit : (t.es.length : Int) ≤ 2147483647
  · exact law6_fit t x c a hx ha sv w ht hl hfit h64k h64n
  · have hlen := hl.len
    obtain ⟨sa, sc, rfl⟩ := hl.slice
    exact law6_unfit t.k t.n x c a sa _ sc w (by unfold reach at hlen; omega) hfit
end Go.Proofs.YtphfjojdiilneaaGreatDoor
