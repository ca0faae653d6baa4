/- The walk of FnOneMore. -/
import Derived.Test.YtphfjojdiilneaaGreatDoorFlt
import Derived.Deep.RegionHeld3
import Derived.Deep.DeepCutAuto
set_option linter.unusedVariables false
set_option linter.unusedSimpArgs false
namespace Go.Proofs.YtphfjojdiilneaaGreatDoor
open Go.RowKit

set_option maxRecDepth 100000 in
set_option maxHeartbeats 4000000 in
theorem law13_fit (es : List Pl.Ty) (t : Pl.Ty) (c : Bool) (a : Int) (ha : Pl.in64 a) (sa : Option Addr) (sc : Nat) (tv : Value) (w : World) (ht : Tab w) (hl : Lie w es (.slice sa es.length sc)) (hlt' : Lie w t.es tv) (hfit : (es.length : Int) ≤ 2147483647) (hfit' : (t.es.length : Int) ≤ 2147483647) (h64k : Pl.in64 t.k) (h64n : Pl.in64 t.n)
    (l : List (Pl.Ty × Value)) (hmap : l.map (·.1) = es) (hlm : ∀ p ∈ l, Pl.in64 p.1.k ∧ Pl.in64 p.1.n ∧ Lie w p.1.es p.2) (hsrc : Src w sa es.length sc (flatT l)) :
    Calls Tryz.prog 13 #[.slice sa es.length sc, .agg #[.int .i64 t.k, .int .i64 t.n, tv], .bool c, .int .i64 a] w (LawPost w) := by
  obtain ⟨ta, tc, rfl⟩ := hlt'.slice
  have TAB := hid ht
  have HL := hid hl
  have HT := hid hlt'
  have FIT : Hid (∀ x : World, Calls Tryz.prog 15 #[.agg #[.int .i64 t.k, .int .i64 t.n, .slice ta t.es.length tc]] x (BoolPost true x)) := by
    intro x
    have := fits_any t.k t.n ta t.es.length tc (by omega) x
    rwa [decide_eq_true hfit'] at this
  have VALS : Hid (∀ x : World, Lie x es (.slice sa es.length sc) → Calls Tryz.prog 16 #[.slice sa es.length sc] x (BoolPost (Pl.validL es) x)) := fun x h => val_all es _ x h
  have hll : l.length = es.length := by rw [← hmap, List.length_map]
  have MAP := hid hmap
  have LM := hid hlm
  have ONE := hid (flat_one hlm)
  have SRC := hid hsrc
  have LFL := hid (flatT_length l)
  obtain ⟨i0, hi, hz0, hz1, hz2⟩ := info_parts info25
  clear hl ht hlt' hfit' hmap hlm hsrc
  generalize hsl : es.length = sl at *
  generalize htl : t.es.length = tl at *
  have hb0 : Below w.heap.size w (w.alloc (Obj.cells #[.int .i64 t.k, .int .i64 t.n, .slice ta tl tc] 25)) := (Below.refl _ _).alloc (Nat.le_refl _) _
  have hP : Has (w.alloc (Obj.cells #[.int .i64 t.k, .int .i64 t.n, .slice ta tl tc] 25)) w.heap.size #[.int .i64 t.k, .int .i64 t.n, .slice ta tl tc] := Has.new _ _ _ rfl
  go_enter Tryz.func13, Tryz.ntmps13
  go_wp2_with fail
  refine (FIT.out _).mono ?_
  rintro e w1 ⟨rfl, hb1⟩
  have B1 := hid (below_of hb0 hb1)
  have P1 := hid (hP.below hb1)
  clear hb0 hb1 hP
  go_wp2_with fail
  refine (VALS.out _ (HL.out.kept (.of_below B1.out))).mono ?_
  rintro e w2 ⟨rfl, hb2⟩
  have B2 := hid (below_of B1.out hb2)
  have P2 := hid (P1.out.below hb2)
  have p0 := P2.out.2 0 _ rfl
  have p1 := P2.out.2 1 _ rfl
  have p2 := P2.out.2 2 _ rfl
  clear hb2 B1 P1
  cases hv : Pl.validL es with
  | false =>
    clear hv
    go_wp2_with fail
    go_ret
    exact ⟨rfl, B2.out⟩
  | true =>
  have HV := hid hv
  clear hv
  go_wp2_with fail
  have hb3 : Below w2.heap.size w2 (w2.alloc (Obj.cells #[.int .i64 t.k, .int .i64 t.n, .slice ta tl tc] 25)) := (Below.refl _ _).alloc (Nat.le_refl _) _
  have hN : Has (w2.alloc (Obj.cells #[.int .i64 t.k, .int .i64 t.n, .slice ta tl tc] 25)) w2.heap.size #[.int .i64 t.k, .int .i64 t.n, .slice ta tl tc] := Has.new _ _ _ rfl
  refine (val_one t _ rfl h64k h64n _ _ _ (HT.out.kept (.of_below (below_of B2.out hb3))) (hN.2 0 _ rfl) (hN.2 1 _ rfl) (hN.2 2 _ rfl)).mono ?_
  rintro e w3 ⟨rfl, hb4⟩
  have hb4 := below_of hb3 hb4
  have B3 := hid (below_of B2.out hb4)
  have P3 := hid (P2.out.below hb4)
  clear hb3 hb4 hN p0 p1 p2 B2 P2
  cases hv : Pl.valid t with
  | false =>
    clear hv
    go_wp2_with fail
    go_ret
    exact ⟨rfl, B3.out⟩
  | true =>
  have HVT := hid hv
  clear hv
  go_wp2_with fail
  refine (sizes_any c a ha _).mono ?_
  rintro e w4 ⟨W, M, rfl, okW, okM, hb5⟩
  have OKW := hid okW
  have OKM := hid okM
  have hb6 : Below w4.heap.size w4 (w4.alloc (Obj.cells #[.int .i64 W, .int .i64 M] 29)) := (Below.refl _ _).alloc (Nat.le_refl _) _
  have hQ : Has (w4.alloc (Obj.cells #[.int .i64 W, .int .i64 M] 29)) w4.heap.size #[.int .i64 W, .int .i64 M] := Has.new _ _ _ rfl
  have hb56 := below_of hb5 hb6
  have B5 := hid (below_of B3.out hb56)
  have hP := P3.out.below hb56
  clear hb5 hb6 hb56 okW okM P3 B3
  go_upto_region 6 with (fail)
  generalize (w4.alloc (Obj.cells #[.int .i64 W, .int .i64 M] 29)) = w5 at *
  generalize w4.heap.size = Q at *
  generalize hPe : w.heap.size = P at *
  have zp5 := hP.1
  have HP := hid hP
  have HQ := hid hQ
  have p0 := hP.2 0 _ rfl
  have p1 := hP.2 1 _ rfl
  have p2 := hP.2 2 _ rfl
  have DW : Hid (∀ wx, Below w5.heap.size w5 wx → Below w.heap.size w wx) := fun wx h => (hPe ▸ B5.out : Below w.heap.size w w5).trans (h.mono (by rw [hPe]; exact Nat.le_of_lt zp5))
  clear hP hQ
  go_cut [10] (fun v2 wx => wx.ownsRow w5.heap.size 25 3 v2 (sl + 1) (flatT l ++ [.int .i64 t.k, .int .i64 t.n, .slice ta tl tc]) ∧ Below w5.heap.size w5 wx)
  case first =>
    have hll2 : (flatT l).length = sl * 3 := by rw [LFL.out, hll]
    have SRC5 : Hid (Src w5 sa sl sc (flatT l)) := SRC.out.kept (.of_below (DW.out _ (Below.refl _ _)))
    have KEEP : Hid (∀ z, Below w5.heap.size w5 z → z.cell? ⟨P, 0, none⟩ = some (.int .i64 t.k) ∧ z.cell? ⟨P, 1, none⟩ = some (.int .i64 t.n) ∧ z.cell? ⟨P, 2, none⟩ = some (.slice ta tl tc)) := fun z h => ⟨(HP.out.below h).2 0 _ rfl, (HP.out.below h).2 1 _ rfl, (HP.out.below h).2 2 _ rfl⟩
    have BR : Hid (Below w5.heap.size w5 w5.drew) := (Below.refl _ _).drew
    refine wp_region_held_drew (S := (fun z => z.cell? ⟨P, 0, none⟩ = some (.int .i64 t.k) ∧ z.cell? ⟨P, 1, none⟩ = some (.int .i64 t.n) ∧ z.cell? ⟨P, 2, none⟩ = some (.slice ta tl tc))) (by kernel_rfl) (KEEP.out _ BR.out) (fun hHeld => ?_)
    refine wpAnyH_take (i := 0) (v := .slice sa sl sc) (op_at rfl) (by kernel_rfl) (by kernel_rfl) (by kernel_rfl) (fun _ _ _ h => h) (Or.inl ⟨by rfl, fun wX hSw => by go_simp⟩) (by assumption) ?_
    try simp only [Act.put, List.setIfInBounds_toArray, List.set_cons_zero, List.set_cons_succ]
    refine wpAnyH_take (i := 2) (v := .agg #[.int .i64 t.k, .int .i64 t.n, .slice ta tl tc]) (op_at rfl) (by kernel_rfl) (by kernel_rfl) (by kernel_rfl) (fun _ _ _ h => h) (Or.inl ⟨by rfl, fun wX hSw => by go_simp⟩) (by assumption) ?_
    try simp only [Act.put, List.setIfInBounds_toArray, List.set_cons_zero, List.set_cons_succ]
    refine wpAnyH_ready (rs := [1, 3]) (by kernel_rfl) (by simp) ?_
    refine AllReadyH.cons (op_at rfl) (fun K hK => ?_) (AllReadyH.cons (op_at rfl) (fun K hK => ?_) AllReadyH.nil)
    · rw [if_pos (by rfl)]
      refine oper_append_src (w := w5.drew) _ _ 22 (by rfl) w5.heap.size 25 i0 (.agg #[.int .i64 0, .int .i64 0, .slice none 0 0]) 3 40 Tryz.underlying22 hi hz0 hz1 hz2 rfl (by decide) (.slice none 0 0) 0 [] (by rfl) (World.ownsRow_nil _ _ _ _) sa sl sc (flatT l) (by rfl) SRC5.out hll2 ONE.out (by unfold maxLen; omega) (by omega) (Nat.le_refl _) ?_
      intro v1 w6 hown1 hg1
      have OWN1 : Hid (w6.ownsRow w5.heap.size 25 3 v1 sl (flatT l)) := by (show w6.ownsRow _ _ _ _ _ _; simpa using hown1)
      have B6 : Hid (Below w5.heap.size w5 w6) := BR.out.grown hg1 (Nat.le_refl _) (fun k e => by cases e)
      clear hown1 hg1
      refine hK.out _ _ (KEEP.out _ B6.out) (fun hHeld => ?_)
      clear hK K
      try simp only [Act.put, List.setIfInBounds_toArray, List.set_cons_zero, List.set_cons_succ]
      refine wpAnyH_ready (rs := [3]) (by kernel_rfl) (by simp) ?_
      refine AllReadyH.cons (op_at rfl) (fun K hK => ?_) AllReadyH.nil
      go_simp
      have B6a : Hid (Below w5.heap.size w5 (w6.alloc (Obj.cells #[.int .i64 t.k, .int .i64 t.n, .slice ta tl tc] 25))) := B6.out.alloc B6.out.size _
      refine hK.out _ _ (KEEP.out _ B6a.out) (fun hHeld => ?_)
      clear hK K
      try simp only [Act.put, List.setIfInBounds_toArray, List.set_cons_zero, List.set_cons_succ]
      refine wpAnyH_ready (rs := [4]) (by kernel_rfl) (by simp) ?_
      refine AllReadyH.cons (op_at rfl) (fun K hK => ?_) AllReadyH.nil
      rw [if_pos (by rfl)]
      refine oper_append_src (w := (w6.alloc (Obj.cells #[.int .i64 t.k, .int .i64 t.n, .slice ta tl tc] 25))) _ _ 22 (by rfl) w5.heap.size 25 i0 (.agg #[.int .i64 0, .int .i64 0, .slice none 0 0]) 3 40 Tryz.underlying22 hi hz0 hz1 hz2 rfl (by decide) v1 sl (flatT l) (by rfl) (OWN1.out.alloc _) (some ⟨w6.heap.size, 0, none⟩) 1 1 [.int .i64 t.k, .int .i64 t.n, .slice ta tl tc] (by rfl) (.inl ⟨_, rfl, three_cells (Has.new w6 _ 25 rfl)⟩) rfl three_one (by unfold maxLen; omega) (by omega) B6a.out.size ?_
      intro v2 w7 hown2 hg2
      have B7 : Hid (Below w5.heap.size w5 w7) := B6a.out.grown hg2 B6a.out.size (fun j hj => (OWN1.out.lt j hj).1)
      have OWN2 := hid hown2
      clear hown2 hg2
      refine hK.out _ _ (KEEP.out _ B7.out) (fun hHeld => ?_)
      clear hK K
      try simp only [Act.put, List.setIfInBounds_toArray, List.set_cons_zero, List.set_cons_succ]
      refine wpAnyH_take (i := 5) (v := v2) (op_at rfl) (by kernel_rfl) (by kernel_rfl) (by kernel_rfl) (fun _ _ _ h => h) (Or.inl ⟨by rfl, fun wX hSw => by go_simp⟩) (by assumption) ?_
      try simp only [Act.put, List.setIfInBounds_toArray, List.set_cons_zero, List.set_cons_succ]
      refine wpAnyH_done (by kernel_rfl) ?_ _
      go_wp2_with fail
      go_meet
      exact ⟨OWN2.out, B7.out⟩
    · go_simp
      have BA : Hid (Below w5.heap.size w5 ((w5.drew).alloc (Obj.cells #[.int .i64 t.k, .int .i64 t.n, .slice ta tl tc] 25))) := BR.out.alloc BR.out.size _
      have HN : Hid (Has ((w5.drew).alloc (Obj.cells #[.int .i64 t.k, .int .i64 t.n, .slice ta tl tc] 25)) w5.heap.size #[.int .i64 t.k, .int .i64 t.n, .slice ta tl tc]) := Has.new w5.drew _ 25 rfl
      have SRC6 : Hid (Src ((w5.drew).alloc (Obj.cells #[.int .i64 t.k, .int .i64 t.n, .slice ta tl tc] 25)) sa sl sc (flatT l)) := SRC5.out.kept (.of_below BA.out)
      refine hK.out _ _ (KEEP.out _ BA.out) (fun hHeld => ?_)
      clear hK K
      try simp only [Act.put, List.setIfInBounds_toArray, List.set_cons_zero, List.set_cons_succ]
      refine wpAnyH_ready (rs := [1]) (by kernel_rfl) (by simp) ?_
      refine AllReadyH.cons (op_at rfl) (fun K hK => ?_) AllReadyH.nil
      rw [if_pos (by rfl)]
      refine oper_append_src (w := ((w5.drew).alloc (Obj.cells #[.int .i64 t.k, .int .i64 t.n, .slice ta tl tc] 25))) _ _ 22 (by rfl) w5.heap.size 25 i0 (.agg #[.int .i64 0, .int .i64 0, .slice none 0 0]) 3 40 Tryz.underlying22 hi hz0 hz1 hz2 rfl (by decide) (.slice none 0 0) 0 [] (by rfl) (World.ownsRow_nil _ _ _ _) sa sl sc (flatT l) (by rfl) SRC6.out hll2 ONE.out (by unfold maxLen; omega) (by omega) BA.out.size ?_
      intro v1 w6 hown1 hg1
      have OWN1 : Hid (w6.ownsRow w5.heap.size 25 3 v1 sl (flatT l)) := by (show w6.ownsRow _ _ _ _ _ _; simpa using hown1)
      have B6 : Hid (Below w5.heap.size w5 w6) := BA.out.grown hg1 BA.out.size (fun k e => by cases e)
      have HN6 : Hid (Has w6 w5.heap.size #[.int .i64 t.k, .int .i64 t.n, .slice ta tl tc]) := ⟨Nat.lt_of_lt_of_le HN.out.1 hg1.size, fun j v hv => hg1.cell (HN.out.2 j v hv) (by simp [Value.ownBlock])⟩
      clear hown1 hg1
      refine hK.out _ _ (KEEP.out _ B6.out) (fun hHeld => ?_)
      clear hK K
      try simp only [Act.put, List.setIfInBounds_toArray, List.set_cons_zero, List.set_cons_succ]
      refine wpAnyH_ready (rs := [4]) (by kernel_rfl) (by simp) ?_
      refine AllReadyH.cons (op_at rfl) (fun K hK => ?_) AllReadyH.nil
      rw [if_pos (by rfl)]
      refine oper_append_src (w := w6) _ _ 22 (by rfl) w5.heap.size 25 i0 (.agg #[.int .i64 0, .int .i64 0, .slice none 0 0]) 3 40 Tryz.underlying22 hi hz0 hz1 hz2 rfl (by decide) v1 sl (flatT l) (by rfl) OWN1.out (some ⟨w5.heap.size, 0, none⟩) 1 1 [.int .i64 t.k, .int .i64 t.n, .slice ta tl tc] (by rfl) (.inl ⟨_, rfl, three_cells HN6.out⟩) rfl three_one (by unfold maxLen; omega) (by omega) B6.out.size ?_
      intro v2 w7 hown2 hg2
      have B7 : Hid (Below w5.heap.size w5 w7) := B6.out.grown hg2 B6.out.size (fun j hj => (OWN1.out.lt j hj).1)
      have OWN2 := hid hown2
      clear hown2 hg2
      refine hK.out _ _ (KEEP.out _ B7.out) (fun hHeld => ?_)
      clear hK K
      try simp only [Act.put, List.setIfInBounds_toArray, List.set_cons_zero, List.set_cons_succ]
      refine wpAnyH_take (i := 5) (v := v2) (op_at rfl) (by kernel_rfl) (by kernel_rfl) (by kernel_rfl) (fun _ _ _ h => h) (Or.inl ⟨by rfl, fun wX hSw => by go_simp⟩) (by assumption) ?_
      try simp only [Act.put, List.setIfInBounds_toArray, List.set_cons_zero, List.set_cons_succ]
      refine wpAnyH_done (by kernel_rfl) ?_ _
      go_wp2_with fail
      go_meet
      exact ⟨OWN2.out, B7.out⟩
  case rest =>
    obtain ⟨hown2, hb7⟩ := hcut
    have B7 := hid hb7
    clear hb7
    have hsl2 : (l ++ [(t, Value.slice ta tl tc)]).length = sl + 1 := by rw [List.length_append, hll]; rfl
    have lie7 : Lie wc (es ++ [t]) u10 := by
      have h1 := own_lie (cap := 0) (l ++ [(t, Value.slice ta tl tc)]) (w := wc) (B := w5.heap.size) (v := u10) (by rw [hsl2, flatT_append]; exact hown2) (fun p hp => by
        rcases List.mem_append.1 hp with hp | hp
        · obtain ⟨h1, h2, h3⟩ := LM.out p hp
          exact ⟨h1, h2, h3.kept (.of_below (DW.out _ B7.out))⟩
        · rw [List.mem_singleton.1 hp]
          exact ⟨h64k, h64n, HT.out.kept (.of_below (DW.out _ B7.out))⟩) (by rw [hsl2]; unfold reach; omega)
      rwa [List.map_append, MAP.out] at h1
    obtain ⟨a2, cap2, hv2⟩ : ∃ a2 cap2, u10 = .slice a2 (sl + 1) cap2 := by
      obtain ⟨a2, cap2, e⟩ := lie7.slice
      exact ⟨a2, cap2, by rw [e, List.length_append, hsl]; rfl⟩
    subst hv2
    have LIE7 := hid lie7
    have hP := HP.out.below B7.out
    have hQ := HQ.out.below B7.out
    have q0 := hQ.2 0 _ rfl
    have q1 := hQ.2 1 _ rfl
    have zq := hQ.1
    clear hP hQ hown2 lie7 p0 p1 p2 hsl2
    have hv6 : Pl.valid (.mk 6 0 es) = true := by simp [Pl.valid, Pl.need, HV.out]
    have hvl7 : Pl.validL (es ++ [t]) = true := by
      rw [Pl.validL_iff]
      intro u hu
      rcases List.mem_append.1 hu with hu | hu
      · exact (Pl.validL_iff es).1 HV.out u hu
      · rw [List.mem_singleton.1 hu]; exact HVT.out
    have hv7 : Pl.valid (.mk 6 0 (es ++ [t])) = true := by simp [Pl.valid, Pl.need, hvl7]
    have i6 : ∀ m : List Pl.Ty, Pl.in64 (Pl.Ty.k (.mk 6 0 m)) := fun m => ⟨by simp [Pl.Ty.k], by simp [Pl.Ty.k]⟩
    have j0 : ∀ m : List Pl.Ty, Pl.in64 (Pl.Ty.n (.mk 6 0 m)) := fun m => ⟨by simp [Pl.Ty.n], by simp [Pl.Ty.n]⟩
    have hz : ∀ m : List Pl.Ty, Pl.sz W M (.mk 6 0 m) = Pl.fin 0 (Pl.prs W M m) := fun m => by simp [Pl.sz]
    have hz64 := Pl.sz_isSize M OKW.out (.mk 6 0 (es ++ [t]))
    have SSZ : Hid (Calls Tryz.prog 22 #[.agg #[.int .i64 W, .int .i64 M], .agg #[.int .i64 6, .int .i64 0, .slice a2 (sl + 1) cap2]] wc (IntPost (Pl.fin 0 (Pl.prs W M (es ++ [t]))) wc)) := by
      have := ssz_all (.mk 6 0 (es ++ [t])) hv7 (j0 _) (.slice a2 (sl + 1) cap2) W M wc OKW.out OKM.out LIE7.out
      rwa [hz] at this
    have ISZ2 : Hid (∀ wx, Below wc.heap.size wc wx → Calls Tryz.prog 24 #[.int .i64 W, .int .i64 M, .agg #[.int .i64 6, .int .i64 0, .slice a2 (sl + 1) cap2]] wx (SzPost (Pl.fin 0 (Pl.prs W M (es ++ [t]))) wx)) := by
      intro wx h
      have := iszof (.mk 6 0 (es ++ [t])) hv7 W M OKW.out OKM.out (.slice a2 (sl + 1) cap2) wx (TAB.out.kept (.of_below (DW.out _ (below_of B7.out h)))) (LIE7.out.kept (.of_below h)) (i6 _) (j0 _)
      rwa [hz] at this
    have ISZ1 : Hid (∀ wx, Below wc.heap.size wc wx → Calls Tryz.prog 24 #[.int .i64 W, .int .i64 M, .agg #[.int .i64 6, .int .i64 0, .slice sa sl sc]] wx (SzPost (Pl.fin 0 (Pl.prs W M es)) wx)) := by
      intro wx h
      have := iszof (.mk 6 0 es) hv6 W M OKW.out OKM.out (.slice sa sl sc) wx (TAB.out.kept (.of_below (DW.out _ (below_of B7.out h)))) (HL.out.kept (.of_below (DW.out _ (below_of B7.out h)))) (i6 _) (j0 _)
      rwa [hz] at this
    have IO1 : Hid (∀ wx, Below wc.heap.size wc wx → Calls Tryz.prog 27 #[.int .i64 W, .int .i64 M, .slice sa sl sc] wx (OfsPost (Pl.offs 0 (Pl.prs W M es)) wx)) :=
      fun wx h => iofof es HV.out W M OKW.out OKM.out _ wx (TAB.out.kept (.of_below (DW.out _ (below_of B7.out h)))) (HL.out.kept (.of_below (DW.out _ (below_of B7.out h))))
    have IO2 : Hid (∀ wx, Below wc.heap.size wc wx → Calls Tryz.prog 27 #[.int .i64 W, .int .i64 M, .slice a2 (sl + 1) cap2] wx (OfsPost (Pl.offs 0 (Pl.prs W M (es ++ [t]))) wx)) :=
      fun wx h => iofof (es ++ [t]) hvl7 W M OKW.out OKM.out _ wx (TAB.out.kept (.of_below (DW.out _ (below_of B7.out h)))) (LIE7.out.kept (.of_below h))
    have hA := Pl.al_isAl OKW.out OKM.out t
    have hpl : (Pl.prs W M es).length = sl := by rw [Pl.prs_length, hsl]
    rw [hz] at hz64
    have e2 : Pl.prs W M (es ++ [t]) = Pl.prs W M es ++ [(Pl.al W M t, Pl.sz W M t)] := by rw [Pl.prs_append]; simp [Pl.prs]
    rw [e2] at SSZ ISZ2 IO2 hz64
    clear e2 hv6 hvl7 hv7 i6 j0 hz
    generalize Pl.prs W M es = L at *
    generalize Pl.al W M t = A at *
    generalize Pl.sz W M t = S at *
    obtain ⟨hz1', hz2'⟩ := hz64
    have HA := hid hA
    have hfs := Pl.fin_snoc 0 A S L
    have FS := hid hfs
    have LEN1 : Hid ((Pl.offs 0 L).length = sl) := by show _ = _; rw [Pl.offs_length, hpl]
    have LEN2 : Hid ((Pl.offs 0 (L ++ [(A, S)])).length = sl + 1) := by show _ = _; rw [Pl.offs_length, List.length_append, hpl]; rfl
    have HPL := hid hpl
    generalize hZ : Pl.fin 0 (L ++ [(A, S)]) = Z at *
    clear hfs hA hpl
    go_wp2_with fail
    refine SSZ.out.mono ?_
    rintro e w8 ⟨rfl, hb8⟩
    have B8 := hid hb8
    have k0 := (bcell hb8 _ _ zq).trans q0
    have k1 := (bcell hb8 _ _ zq).trans q1
    have yq := Nat.lt_of_lt_of_le zq hb8.size
    clear hb8 q0 q1 SSZ
    by_cases hneg : Z < 0
    · clear hZ
      go_wp2_with fail
      refine (ISZ2.out _ B8.out).mono ?_
      rintro e w9 ⟨r, rfl, har, h64r, hb9⟩
      have hr : r < 0 := by unfold Pl.Alike at har; omega
      have B9 := hid (below_of B8.out hb9)
      clear hb9 har h64r k0 k1
      go_wp2_with fail
      go_ret
      exact ⟨rfl, hPe ▸ DW.out _ (below_of B7.out B9.out)⟩
    · have hZ0 : 0 ≤ Pl.fin 0 (L ++ [(A, S)]) := by omega
      have hF0 : 0 ≤ Pl.fin 0 L := by
        have := Pl.fin_take_nonneg hZ0 L.length
        rwa [List.take_left] at this
      have hU0 : 0 ≤ Pl.up (Pl.fin 0 L) A := by
        rw [FS.out] at hZ
        exact (Pl.sum_nonneg (by omega : 0 ≤ Pl.sum (Pl.up (Pl.fin 0 L) A) S)).1
      have hle := (Pl.up_apart HA.out hU0).1
      have OFF : Hid (Pl.offs 0 (L ++ [(A, S)]) = Pl.offs 0 L ++ [Pl.up (Pl.fin 0 L) A]) := by show _ = _; rw [Pl.offs_append]; rfl
      have NN := hid (fun k hk => Pl.offs_nonneg hZ0 k hk)
      have NN1 := hid (fun k hk => Pl.offs_nonneg hF0 k hk)
      clear hZ
      go_wp2_with fail
      have B9 := hid B8.out.drew
      go_region_held3 (fun z => z.cell? ⟨Q, 0, none⟩ = some (.int .i64 W) ∧ z.cell? ⟨Q, 1, none⟩ = some (.int .i64 M))
        (first | go_keep)
        (first
          | (go_at_call_of 27 (Value.slice sa sl sc); refine (IO1.out _ B9.out).mono ?_; rintro e w10 ⟨ob1, r1, rfl, hrow1, hall1, _, hb10⟩
             have B10 := hid (below_of B9.out hb10)
             have xq : Q < w10.heap.size := by (have := hb10.size; simp at this; omega)
             have ROW1 := hid hrow1
             have ALL1 := hid hall1
             have hc10 : ∀ b o, b < w8.heap.size → w10.cell? ⟨b, o, none⟩ = w8.cell? ⟨b, o, none⟩ := fun b o h => bcell hb10 b o h
             clear hb10 hrow1 hall1)
          | (go_at_call 27; refine (IO2.out _ B10.out).mono ?_; rintro e w11 ⟨ob2, r2, rfl, hrow2, hall2, _, hb11⟩
             have B11 := hid (below_of B10.out hb11)
             have ROW2 := hid hrow2
             have ALL2 := hid hall2
             have H11 := hid hb11
             have hc11 : ∀ b o, b < w10.heap.size → w11.cell? ⟨b, o, none⟩ = w10.cell? ⟨b, o, none⟩ := fun b o h => bcell hb11 b o h
             clear hb11 hrow2 hall2))
      have g0 := (hc11 Q 0 xq).trans ((hc10 Q 0 yq).trans k0)
      have g1 := (hc11 Q 1 xq).trans ((hc10 Q 1 yq).trans k1)
      have C1 : Hid (∀ k, k < sl → ∃ O : Int, w11.cell? ⟨ob1, k, none⟩ = some (.int .i64 O) ∧ w11.cell? ⟨ob2, k, none⟩ = some (.int .i64 O)) := by
        intro k hk
        have h1 : k < (Pl.offs 0 L).length := by rw [LEN1.out]; exact hk
        have h2 : k < (Pl.offs 0 (L ++ [(A, S)])).length := by rw [LEN2.out]; omega
        have c1 := (bcell H11.out ob1 k ROW1.out.lt).trans (ROW1.out.cell h1)
        have c2 := ROW2.out.cell h2
        rw [(ALL1.out k h1).1.exact (NN1.out k h1)] at c1
        rw [(ALL2.out k h2).1.exact (NN.out k h2)] at c2
        refine ⟨_, c1, ?_⟩
        rw [c2]
        simp only [OFF.out]
        rw [List.getElem_append_left h1]
      have C2 : w11.cell? ⟨ob2, sl, none⟩ = some (.int .i64 (Pl.up (Pl.fin 0 L) A)) := by
        have h2 : sl < (Pl.offs 0 (L ++ [(A, S)])).length := by rw [LEN2.out]; omega
        have c2 := ROW2.out.cell h2
        rw [(ALL2.out sl h2).1.exact (NN.out sl h2)] at c2
        rw [c2]
        have e : (Pl.offs 0 (L ++ [(A, S)]))[sl] = Pl.up (Pl.fin 0 L) A := by
          simp only [OFF.out]
          rw [List.getElem_append_right (by rw [LEN1.out]; exact Nat.le_refl _)]
          simp
        rw [e]
      have zo2 := ROW2.out.lt
      have hsl0 : (0 : Int) ≤ (sl : Int) := by omega
      have hsl1 : (sl : Int) < (sl : Int) + 1 := by omega
      have hw1 : IntKind.i64.wrap (sl : Int) = (sl : Int) := by rw [IntKind.wrap_i64]; omega
      have wq : Q < w11.heap.size := World.block_lt_of_cell? _ _ g0
      rw [LEN1.out, LEN2.out]
      clear hc10 hc11 k0 k1 ROW1 ROW2 ALL1 ALL2 NN NN1 OFF H11 IO1 IO2 hU0 hZ0 FS
      have ISF := hid (fun wx h => (ISZ1.out wx h).mono fun e w' h' => SzPost.exact hF0 h')
      generalize Pl.up (Pl.fin 0 L) A = U at *
      generalize Pl.fin 0 L = F at *
      go_wp2_with fail
      go_loopw [79] (fun i wr => ∃ k : Nat, k ≤ sl ∧ i = .int .i64 k ∧ wr = w11) (fun i _ => sl - (intOf i).toNat)
      case atStart => exact ⟨0, Nat.zero_le _, rfl, rfl⟩
      case round =>
        obtain ⟨k, hk, rfl, rfl⟩ := hrel
        by_cases hlt : k < sl
        · obtain ⟨O, c1, c2⟩ := C1.out k hlt
          go_wp2_with fail
          go_roundw
          case rel => exact ⟨k + 1, by omega, by go_num, by first | rfl | trivial⟩
          case measure => simp [intOf]; omega
        · obtain rfl : k = sl := by omega
          go_wp2_with fail
          have B12 := hid B11.out.drew
          go_region_held3 (fun z => z.cell? ⟨Q, 0, none⟩ = some (.int .i64 W) ∧ z.cell? ⟨Q, 1, none⟩ = some (.int .i64 M) ∧ z.cell? ⟨ob2, k, none⟩ = some (.int .i64 U))
            (first | go_keep)
            (first
              | (go_at_call 24; refine (ISF.out _ B12.out).mono ?_; rintro e w13 ⟨rfl, hb13⟩
                 have B13 := hid (below_of B12.out hb13)
                 have vq := (Nat.lt_of_lt_of_le wq hb13.size : Q < w13.heap.size)
                 have vo := (Nat.lt_of_lt_of_le zo2 hb13.size : ob2 < w13.heap.size)
                 have hc13 : ∀ b o, b < wr.heap.size → w13.cell? ⟨b, o, none⟩ = wr.cell? ⟨b, o, none⟩ := fun b o h => bcell hb13 b o h
                 clear hb13)
              | (go_at_call 23; refine (works_any W M OKW.out OKM.out _ (TAB.out.kept (.of_below (DW.out _ (below_of B7.out B13.out))))).mono ?_; rintro e w14 ⟨rfl, hb14⟩
                 have B14 := hid (below_of B13.out hb14)
                 have hc14 := bcell hb14
                 clear hb14))
          clear hc13 hc14 g0 g1 C2
          go_wp2
          go_ret
          exact ⟨by simp, hPe ▸ DW.out _ (below_of B7.out B14.out)⟩


theorem law13 (es : List Pl.Ty) (t : Pl.Ty) (c : Bool) (a : Int) (ha : Pl.in64 a) (sv tv : Value) (w : World) (ht : Tab w) (hl : Lie w es sv) (hlt' : Lie w t.es tv) (hnil : ∀ n cap, sv = .slice none n cap → cap = 0) (h64k : Pl.in64 t.k) (h64n : Pl.in64 t.n) :
    Calls Tryz.prog 13 #[sv, .agg #[.int .i64 t.k, .int .i64 t.n, tv], .bool c, .int .i64 a] w (LawPost w) := by
  have hlen := hl.len
  have hlen' := hlt'.len
  unfold reach at hlen hlen'
  by_cases hfit : (es.length : Int) ≤ 2147483647
  · by_cases hfit' : (t.es.length : Int) ≤ 2147483647
    · obtain ⟨sa, sc, rfl⟩ := hl.slice
      obtain ⟨l, hmap, hlm, hsrc⟩ := hl.src hnil
      exact law13_fit es t c a ha sa sc tv w ht hl hlt' hfit hfit' h64k h64n l hmap hlm hsrc
    · obtain ⟨sa, sc, rfl⟩ := hl.slice
      obtain ⟨ta, tc, rfl⟩ := hlt'.slice
      exact law13_unfit es t.k t.n c a sa ta sc _ tc w hfit (by omega) hfit'
  · obtain ⟨sa, sc, rfl⟩ := hl.slice
    obtain ⟨ta, tc, rfl⟩ := hlt'.slice
    exact law13_long es t.k t.n c a sa ta sc _ tc w (by omega) hfit
end Go.Proofs.YtphfjojdiilneaaGreatDoor
