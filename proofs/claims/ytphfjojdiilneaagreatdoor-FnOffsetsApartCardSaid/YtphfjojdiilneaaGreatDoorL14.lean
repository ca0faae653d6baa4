/- The walk of FnOffsetsApart. -/
import Derived.Test.YtphfjojdiilneaaGreatDoorHas
import Derived.Test.YtphfjojdiilneaaGreatDoorSsz
import Derived.Test.YtphfjojdiilneaaGreatDoorPof
set_option linter.unusedVariables false
set_option linter.unusedSimpArgs false
namespace Go.Proofs.YtphfjojdiilneaaGreatDoor
open Go.RowKit

set_option maxHeartbeats 400000 in
theorem law14_unfit (c : Bool) (a : Int) (sa : Option Addr) (sl sc : Nat) (w : World) (hsl : sl ≤ 9223372036854775807) (hfit : ¬ (sl : Int) ≤ 2147483647) :
    Calls Tryz.prog 14 #[.slice sa sl sc, .bool c, .int .i64 a] w (LawPost w) := by
  go_enter Tryz.func14, Tryz.ntmps14
  go_wp2_with fail
  go_ret
  exact ⟨rfl, Below.refl _ _⟩

set_option maxRecDepth 100000 in
set_option maxHeartbeats 4000000 in
theorem law14_fit (es : List Pl.Ty) (c : Bool) (a : Int) (ha : Pl.in64 a) (sv : Value) (w : World) (ht : Tab w) (hl : Lie w es sv) (hfit : (es.length : Int) ≤ 2147483647) :
    Calls Tryz.prog 14 #[sv, .bool c, .int .i64 a] w (LawPost w) := by
  obtain ⟨sa, sc, rfl⟩ := hl.slice
  have TAB := hid ht
  have HL := hid hl
  have VALS : Hid (∀ x : World, Lie x es (.slice sa es.length sc) → Calls Tryz.prog 16 #[.slice sa es.length sc] x (BoolPost (Pl.validL es) x)) := fun x h => val_all es _ x h
  clear hl ht
  generalize hsl : es.length = sl at *
  go_enter Tryz.func14, Tryz.ntmps14
  go_wp2_with fail
  refine (VALS.out _ HL.out).mono ?_
  rintro e w2 ⟨rfl, hb2⟩
  have B2 := hid hb2
  clear hb2 VALS
  cases hv : Pl.validL es with
  | false =>
    clear hv
    go_wp2_with fail
    go_ret
    exact ⟨rfl, B2.out⟩
  | true =>
  have HV := hid hv
  clear hv
  go_wp2_with fail
  refine (sizes_any c a ha _).mono ?_
  rintro e w3 ⟨W, M, rfl, okW, okM, hb3⟩
  have OKW := hid okW
  have OKM := hid okM
  have B3 := hid (below_of B2.out hb3)
  clear hb3 okW okM B2
  go_wp2_with fail
  have hb4 : Below w3.heap.size w3 ((w3.alloc (Obj.cells #[.int .i64 W, .int .i64 M] 29)).alloc (Obj.cells #[.int .i64 6, .int .i64 0, .slice sa sl sc] 25)) := ((Below.refl _ _).alloc (Nat.le_refl _) _).alloc (by simp) _
  have hQ : Has ((w3.alloc (Obj.cells #[.int .i64 W, .int .i64 M] 29)).alloc (Obj.cells #[.int .i64 6, .int .i64 0, .slice sa sl sc] 25)) w3.heap.size #[.int .i64 W, .int .i64 M] := (Has.new _ _ _ rfl).alloc _
  have hR : Has ((w3.alloc (Obj.cells #[.int .i64 W, .int .i64 M] 29)).alloc (Obj.cells #[.int .i64 6, .int .i64 0, .slice sa sl sc] 25)) (w3.heap.size + 1) #[.int .i64 6, .int .i64 0, .slice sa sl sc] := Has.new _ _ _ (by simp)
  have B4 := hid (below_of B3.out hb4)
  clear hb4 B3
  generalize ((w3.alloc (Obj.cells #[.int .i64 W, .int .i64 M] 29)).alloc (Obj.cells #[.int .i64 6, .int .i64 0, .slice sa sl sc] 25)) = w4 at *
  generalize w3.heap.size + 1 = R at *
  generalize w3.heap.size = Q at *
  have hv6 : Pl.valid (.mk 6 0 es) = true := by simp [Pl.valid, Pl.need, HV.out]
  have hz : Pl.sz W M (.mk 6 0 es) = Pl.fin 0 (Pl.prs W M es) := by simp [Pl.sz]
  have i6 : Pl.in64 (Pl.Ty.k (.mk 6 0 es)) := ⟨by simp [Pl.Ty.k], by simp [Pl.Ty.k]⟩
  have i0 : Pl.in64 (Pl.Ty.n (.mk 6 0 es)) := ⟨by simp [Pl.Ty.n], by simp [Pl.Ty.n]⟩
  have SSZ : Hid (Calls Tryz.prog 22 #[.agg #[.int .i64 W, .int .i64 M], .agg #[.int .i64 6, .int .i64 0, .slice sa sl sc]] w4 (IntPost (Pl.fin 0 (Pl.prs W M es)) w4)) := by
    have := ssz_all (.mk 6 0 es) hv6 i0 (.slice sa sl sc) W M w4 OKW.out OKM.out (HL.out.kept (.of_below B4.out))
    rwa [hz] at this
  have ISZ : Hid (∀ wx, Below w.heap.size w wx → Calls Tryz.prog 24 #[.int .i64 W, .int .i64 M, .agg #[.int .i64 6, .int .i64 0, .slice sa sl sc]] wx (SzPost (Pl.fin 0 (Pl.prs W M es)) wx)) := by
    intro wx h
    have := iszof (.mk 6 0 es) hv6 W M OKW.out OKM.out (.slice sa sl sc) wx (TAB.out.kept (.of_below h)) (HL.out.kept (.of_below h)) i6 i0
    rwa [hz] at this
  have HZ := hid (Pl.sz_isSize M OKW.out (.mk 6 0 es))
  have IOF := hid (iofof es HV.out W M OKW.out OKM.out (.slice sa sl sc))
  have PRS : Hid (∀ k (h : k < es.length), ∃ h' : k < (Pl.prs W M es).length, (Pl.prs W M es)[k] = (Pl.al W M es[k], Pl.sz W M es[k])) := fun k h => ⟨by rw [Pl.prs_length]; omega, Pl.prs_at W M es k h (by rw [Pl.prs_length]; omega)⟩
  have LEN : Hid ((Pl.offs 0 (Pl.prs W M es)).length = sl) := by show _ = _; rw [Pl.offs_length, Pl.prs_length, hsl]
  have PLEN : Hid ((Pl.prs W M es).length = sl) := by show _ = _; rw [Pl.prs_length, hsl]
  have q0 := hQ.2 0 _ rfl
  have q1 := hQ.2 1 _ rfl
  have r0 := hR.2 0 _ rfl
  have r1 := hR.2 1 _ rfl
  have r2 := hR.2 2 _ rfl
  rw [hz] at HZ
  clear hv6 hz i6 i0
  generalize hL : Pl.prs W M es = L at *
  generalize hZ : Pl.fin 0 L = Z at *
  refine SSZ.out.mono ?_
  rintro e w5 ⟨rfl, hb5⟩
  have B5 := hid (below_of B4.out hb5)
  have hQ := hQ.below hb5
  have hR := hR.below hb5
  clear SSZ hb5 q0 q1 r0 r1 r2 B4
  have q0 := hQ.2 0 _ rfl
  have q1 := hQ.2 1 _ rfl
  have r0 := hR.2 0 _ rfl
  have r1 := hR.2 1 _ rfl
  have r2 := hR.2 2 _ rfl
  by_cases hneg : Z < 0
  · clear hZ hL hQ hR IOF PRS LEN PLEN
    go_wp2_with fail
    refine (ISZ.out _ B5.out).mono ?_
    rintro e w6 ⟨r, rfl, har, h64r, hb6⟩
    have hr : r < 0 := by unfold Pl.Alike at har; omega
    have B6 := hid (below_of B5.out hb6)
    clear hb6 har h64r q0 q1 r0 r1 r2
    go_wp2_with fail
    go_ret
    exact ⟨rfl, B6.out⟩
  · have hZ0 : 0 ≤ Pl.fin 0 L := by omega
    have hZp : 0 ≤ Z := by omega
    go_wp2_with fail
    refine (IOF.out _ (TAB.out.kept (.of_below B5.out)) (HL.out.kept (.of_below B5.out))).mono ?_
    rintro e w6 ⟨ob, r, rfl, hrow, hall, _, hb6⟩
    have B6 := hid (below_of B5.out hb6)
    have hQ := hQ.below hb6
    have hR := hR.below hb6
    have HQ := hid hQ
    have HR := hid hR
    have zo := hrow.lt
    have ROW : Hid (∀ k (h : k < L.length), w6.cell? ⟨ob, k, none⟩ = some (.int .i64 (Pl.up (Pl.fin 0 (L.take k)) (L[k]).1))) := by
      intro k hk
      have hk' : k < (Pl.offs 0 L).length := by rw [LEN.out]; rw [PLEN.out] at hk; exact hk
      have := hrow.cell hk'
      rw [(hall k hk').1.exact (Pl.offs_nonneg hZ0 k hk'), Pl.offs_at 0 L k hk hk'] at this
      exact this
    have FAT : Hid (∀ k (h : k < L.length), 0 ≤ Pl.fin 0 (L.take k) ∧ 0 ≤ Pl.up (Pl.fin 0 (L.take k)) (L[k]).1 ∧ 0 ≤ (L[k]).2 ∧ Pl.fin 0 (L.take (k + 1)) = Pl.up (Pl.fin 0 (L.take k)) (L[k]).1 + (L[k]).2 ∧ Pl.fin 0 (L.take (k + 1)) ≤ 9223372036854775807) := fun k h => Pl.fin_at hZ0 k h
    have FULL : Hid (Pl.fin 0 (L.take sl) = Z) := by show _ = _; rw [List.take_of_length_le (Nat.le_of_eq PLEN.out), hZ]
    have DW : Hid (∀ wx, Below w6.heap.size w6 wx → Below w.heap.size w wx) := fun wx h => below_of B6.out h
    have ISAL : Hid (∀ u, Pl.isAl (Pl.al W M u)) := fun u => Pl.al_isAl OKW.out OKM.out u
    have IAL : Hid (∀ k (h : k < es.length) (uv : Value) (wx : World), Pl.in64 (es[k]).k → Pl.in64 (es[k]).n → Below w6.heap.size w6 wx → Lie w (es[k]).es uv → Calls Tryz.prog 18 #[.int .i64 W, .int .i64 M, .agg #[.int .i64 (es[k]).k, .int .i64 (es[k]).n, uv]] wx (IntPost (Pl.al W M es[k]) wx)) :=
      fun k h uv wx h2 h3 h4 h5 => ialof es[k] ((Pl.validL_iff es).1 HV.out _ (List.getElem_mem h)) W M OKW.out OKM.out uv wx (TAB.out.kept (.of_below (DW.out _ h4))) (h5.kept (.of_below (DW.out _ h4))) h2 h3
    have ISK : Hid (∀ k (h : k < es.length) (uv : Value) (wx : World), Pl.in64 (es[k]).k → Pl.in64 (es[k]).n → Below w6.heap.size w6 wx → Lie w (es[k]).es uv → 0 ≤ Pl.sz W M es[k] → Calls Tryz.prog 24 #[.int .i64 W, .int .i64 M, .agg #[.int .i64 (es[k]).k, .int .i64 (es[k]).n, uv]] wx (IntPost (Pl.sz W M es[k]) wx)) :=
      fun k h uv wx h2 h3 h4 h5 h6 => (iszof es[k] ((Pl.validL_iff es).1 HV.out _ (List.getElem_mem h)) W M OKW.out OKM.out uv wx (TAB.out.kept (.of_below (DW.out _ h4))) (h5.kept (.of_below (DW.out _ h4))) h2 h3).mono fun e w' h' => SzPost.exact h6 h'
    rw [LEN.out]
    clear hrow hall hb6 q0 q1 r0 r1 r2 hQ hR hZ hL hZ0 IOF
    go_wp2_with fail
    go_loopw [10, 49] (fun x i wr => ∃ (k : Nat) (y : Int), k ≤ sl ∧ i = .int .i64 k ∧ x = .int .i64 y ∧ y = Pl.fin 0 (L.take k) ∧ Below w6.heap.size w6 wr) (fun _ i _ => sl - (intOf i).toNat)
    case atStart => exact ⟨0, 0, Nat.zero_le _, rfl, rfl, rfl, Below.refl _ _⟩
    case round =>
      obtain ⟨k, y, hk, rfl, rfl, hy, hbw⟩ := hrel
      have q0 := (HQ.out.below hbw).2 0 _ rfl
      have q1 := (HQ.out.below hbw).2 1 _ rfl
      have zq := (HQ.out.below hbw).1
      by_cases hlt : k < sl
      · have hlt2 : k < es.length := by omega
        obtain ⟨hkL, hpair⟩ := PRS.out k hlt2
        obtain ⟨hf1, hf2, hf3, hf4, hf5⟩ := FAT.out k hkL
        have o0 := (bcell hbw ob k zo).trans (ROW.out k hkL)
        have zo' := Nat.lt_of_lt_of_le zo hbw.size
        rw [hpair] at hf2 hf3 hf4 o0
        simp only at hf2 hf3 hf4 o0
        rw [← hy] at hf1 hf2 hf4 o0
        obtain ⟨b, off, cap', sc', sa', he, hcap, hbl, c0, c1, c2, hk64, hn64, hl1⟩ := HL.out.one k hlt2
        simp only [Value.slice.injEq] at he
        obtain ⟨rfl, hh, rfl⟩ := he
        clear hh
        have hbw0 := DW.out _ hbw
        have d0 := (bcell hbw0 _ _ hbl).trans c0
        have d1 := (bcell hbw0 _ _ hbl).trans c1
        have d2 := (bcell hbw0 _ _ hbl).trans c2
        have hA := ISAL.out es[k]
        obtain ⟨ho1, ho2, ho3⟩ := Pl.up_apart hA hf2
        obtain ⟨ha1, ha8⟩ := hA.le
        have AL : Hid (∀ wx, Below wr.heap.size wr wx → Calls Tryz.prog 18 #[.int .i64 W, .int .i64 M, .agg #[.int .i64 (es[k]).k, .int .i64 (es[k]).n, .slice sa' (es[k]).es.length sc']] wx (IntPost (Pl.al W M es[k]) wx)) := fun wx h => IAL.out k hlt2 _ wx hk64 hn64 (below_of hbw h) hl1
        have SK : Hid (∀ wx, Below wr.heap.size wr wx → Calls Tryz.prog 24 #[.int .i64 W, .int .i64 M, .agg #[.int .i64 (es[k]).k, .int .i64 (es[k]).n, .slice sa' (es[k]).es.length sc']] wx (IntPost (Pl.sz W M es[k]) wx)) := fun wx h => ISK.out k hlt2 _ wx hk64 hn64 (below_of hbw h) hl1 hf3
        have BW := hid hbw
        have NEXT := hid hf4
        clear hbw hbw0 c0 c1 c2 hl1 hy hcap hpair hA
        generalize Pl.al W M es[k] = A at *
        generalize Pl.sz W M es[k] = S at *
        generalize Pl.up y A = O at *
        have hOS : O + S ≤ 9223372036854775807 := by rw [NEXT.out] at hf5; exact hf5
        clear hf5 hf4
        have hw1 : IntKind.i64.wrap (O + S) = O + S := by rw [IntKind.wrap_i64]; omega
        have ht1 : O.tmod A = 0 := by rw [Int.tmod_eq_emod_of_nonneg hf2]; exact ho3
        have hb1 : Hid (∀ o, Below wr.heap.size wr (wr.alloc o)) := fun o => (Below.refl _ _).alloc (Nat.le_refl _) _
        go_wp2_with fail
        refine (AL.out _ (hb1.out _)).mono ?_
        rintro e w7 ⟨rfl, hb7⟩
        have hT : Has (wr.alloc (Obj.cells #[.int .i64 (es[k]).k, .int .i64 (es[k]).n, .slice sa' (es[k]).es.length sc'] 25)) wr.heap.size #[.int .i64 (es[k]).k, .int .i64 (es[k]).n, .slice sa' (es[k]).es.length sc'] := Has.new _ _ _ rfl
        have hT := hT.below hb7
        have hb7 := below_of (hb1.out _) hb7
        have t0 := hT.2 0 _ rfl
        have t1 := hT.2 1 _ rfl
        have t2 := hT.2 2 _ rfl
        have zt := hT.1
        have g0 := (bcell hb7 _ _ zq).trans q0
        have g1 := (bcell hb7 _ _ zq).trans q1
        have o1 := (bcell hb7 _ _ zo').trans o0
        have yq := Nat.lt_of_lt_of_le zq hb7.size
        have yo := Nat.lt_of_lt_of_le zo' hb7.size
        have B7 := hid hb7
        clear hb7 hT d0 d1 d2 q0 q1 o0
        go_wp2_with fail
        have B8 := hid B7.out.drew
        go_region_held3 (fun z => z.cell? ⟨Q, 0, none⟩ = some (.int .i64 W) ∧ z.cell? ⟨Q, 1, none⟩ = some (.int .i64 M) ∧ z.cell? ⟨wr.heap.size, 0, none⟩ = some (.int .i64 (es[k]).k) ∧ z.cell? ⟨wr.heap.size, 1, none⟩ = some (.int .i64 (es[k]).n) ∧ z.cell? ⟨wr.heap.size, 2, none⟩ = some (.slice sa' (es[k]).es.length sc') ∧ z.cell? ⟨ob, k, none⟩ = some (.int .i64 O))
          (first | go_keep)
          (first
            | (go_at_call 24; refine (SK.out _ B8.out).mono ?_; rintro e w9 ⟨rfl, hb9⟩
               have B9 := hid (below_of BW.out (below_of B8.out hb9))
               have hc9 : ∀ b o, b < w7.heap.size → w9.cell? ⟨b, o, none⟩ = w7.cell? ⟨b, o, none⟩ := fun b o h => bcell hb9 b o h
               clear hb9))
        clear hc9 t0 t1 t2 g0 g1 o1
        go_wp2
        go_roundw
        case rel => exact ⟨k + 1, O + S, by omega, by go_num, rfl, NEXT.out.symm, B9.out⟩
        case measure => simp [intOf]; omega
      · obtain rfl : k = sl := by omega
        have hyZ : y = Z := by rw [hy, FULL.out]
        subst hyZ
        have r0 := (HR.out.below hbw).2 0 _ rfl
        have r1 := (HR.out.below hbw).2 1 _ rfl
        have r2 := (HR.out.below hbw).2 2 _ rfl
        have BW := hid (DW.out _ hbw)
        clear hy hbw
        go_wp2_with fail
        refine ((ISZ.out _ BW.out).mono fun e w' h => SzPost.exact hZp h).mono ?_
        rintro e w7 ⟨rfl, hb7⟩
        have g0 := (bcell hb7 _ _ zq).trans q0
        have g1 := (bcell hb7 _ _ zq).trans q1
        have B7 := hid (below_of BW.out hb7)
        clear hb7 q0 q1 r0 r1 r2
        go_wp2_with fail
        refine (works_any W M OKW.out OKM.out _ (TAB.out.kept (.of_below B7.out))).mono ?_
        rintro e w9 ⟨rfl, hb9⟩
        have HB9 := hid (below_of B7.out hb9)
        clear hb9 g0 g1
        go_wp2_with fail
        go_ret
        exact ⟨rfl, HB9.out⟩

theorem law14 (es : List Pl.Ty) (c : Bool) (a : Int) (ha : Pl.in64 a) (sv : Value) (w : World) (ht : Tab w) (hl : Lie w es sv) :
    Calls Tryz.prog 14 #[sv, .bool c, .int .i64 a] w (LawPost w) := by
  by_cases hfit : (es.length : Int) ≤ 2147483647
  · exact law14_fit es c a ha sv w ht hl hfit
  · have hlen := hl.len
    obtain ⟨sa, sc, rfl⟩ := hl.slice
    exact law14_unfit c a sa _ sc w (by unfold reach at hlen; omega) hfit
end Go.Proofs.YtphfjojdiilneaaGreatDoor
