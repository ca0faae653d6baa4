/- The walk of Sizeof at every type, and of the thin package's Sizeof and Offsetsof. -/
import Derived.Test.YtphfjojdiilneaaGreatDoorSzo
set_option linter.unusedVariables false
set_option linter.unusedSimpArgs false
namespace Go.Proofs.YtphfjojdiilneaaGreatDoor
open Go.RowKit

set_option maxHeartbeats 400000 in
theorem numf_any (b len cap : Nat) (a : Option Addr) (w : World) (hc : w.cell? ⟨b, 0, none⟩ = some (.slice a len cap)) :
    Calls Tryz.prog 54 #[.pointer (some ⟨b, 0, none⟩)] w fun e w' => e = .returned (.int .i64 len) ∧ w = w' := by
  go_enter Tryz.func54, Tryz.ntmps54
  go_wp2
  go_ret
  exact ⟨rfl, rfl⟩

theorem SzPost.of_eq {s : Int} {w : World} (h0 : 0 ≤ s) (h1 : s ≤ 9223372036854775807) : SzPost s w (.returned (.int .i64 s)) w := ⟨s, rfl, .of_eq rfl h0, ⟨by omega, h1⟩, Below.refl _ _⟩

set_option maxRecDepth 100000 in
set_option maxHeartbeats 800000 in
theorem sz_struct_nil (b p cap : Nat) (a : Option Addr) (w : World) (hs : w.cell? ⟨b, 0, none⟩ = some (.slice a 0 cap)) :
    Calls Tryz.prog 36 #[.pointer (some ⟨p, 0, none⟩), .iface 63 (.pointer (some ⟨b, 0, none⟩))] w (SzPost 0 w) := by
  have m78 := tam78 (T := 63) (by decide)
  have m60 := tam60 (T := 63) (by decide)
  have m76 := tam76 (T := 63) (by decide)
  have h63 := tah63
  have mt := meth63 b
  have NF := hid (numf_any b 0 cap a w hs)
  go_enter Tryz.func36, Tryz.ntmps36
  go_wp2_with (first | (go_at_call 84; refine (under63_any _ _).mono ?_; rintro e w' ⟨rfl, rfl⟩) | (go_at_call 54; refine NF.out.mono ?_; rintro e w' ⟨rfl, rfl⟩))
  go_ret
  exact SzPost.of_eq (Int.le_refl _) (by omega)

set_option maxRecDepth 100000 in
set_option maxHeartbeats 4000000 in
theorem sz_struct_some (es : List Pl.Ty) (m : Nat) (hm : es.length = m + 1) (b p cap g : Nat) (vb Tb bb : Nat → Nat) (W M : Int) (w : World) (HT : ∀ i (h : i < es.length), SzOk es[i]) (env : Env w p W M) (hl : es.length * 8 ≤ reach)
    (hs : w.cell? ⟨b, 0, none⟩ = some (.slice (some ⟨g, 0, none⟩) es.length cap)) (hf : FieldCells w.cell? es.length (some ⟨g, 0, none⟩) vb Tb bb) (ht : ∀ i (h : i < es.length), Rep w.cell? es[i] (Tb i) (bb i)) :
    Calls Tryz.prog 36 #[.pointer (some ⟨p, 0, none⟩), .iface 63 (.pointer (some ⟨b, 0, none⟩))] w (SzPost (Pl.fin 0 (Pl.prs W M es)) w) := by
  have m78 := tam78 (T := 63) (by decide)
  have m60 := tam60 (T := 63) (by decide)
  have m76 := tam76 (T := 63) (by decide)
  have h63 := tah63
  have mt := meth63 b
  have hml : m < es.length := by omega
  have hpl := Pl.prs_length W M es
  obtain ⟨g', hg, c0, _, c1⟩ := hf m hml
  obtain rfl : g = g' := by simpa using hg
  have OFS : Hid (Calls Tryz.prog 37 #[.pointer (some ⟨p, 0, none⟩), .slice (some ⟨g, 0, none⟩) (m + 1) cap] w fun e w' => ∃ (ob : Nat) (r : Int), e = .returned (.slice (some ⟨ob, 0, none⟩) (m + 1) (m + 1)) ∧ w'.cell? ⟨ob, m, none⟩ = some (.int .i64 r) ∧
      Pl.Alike r (Pl.up (Pl.fin 0 ((Pl.prs W M es).take m)) (Pl.al W M es[m])) ∧ Pl.in64 r ∧ Below w.heap.size w w') := by
    have := ofs_of es HT (some ⟨g, 0, none⟩) cap p vb Tb bb W M w env hl hf ht
    rw [hm] at this
    refine this.mono ?_
    rintro e w' ⟨ob, r, rfl, hrow, hall, _, hb⟩
    have hol : (Pl.offs 0 (Pl.prs W M es)).length = m + 1 := by rw [Pl.offs_length]; omega
    have hal := hall m (by omega)
    rw [Pl.offs_at 0 _ m (by omega), Pl.prs_at W M es m hml] at hal
    exact ⟨ob, r m, by rw [hol], hrow.cell (by omega), hal.1, hal.2, hb⟩
  have CALL : Hid (∀ wx, Below w.heap.size w wx → Calls Tryz.prog 36 #[.pointer (some ⟨p, 0, none⟩), .iface (Tb m) (.pointer (some ⟨bb m, 0, none⟩))] wx (SzPost (Pl.sz W M es[m]) wx)) :=
    fun wx hb => HT m hml (Tb m) (bb m) p W M wx ((ht m hml).sub (Kept.of_below hb).sub) (env.kept (.of_below hb))
  have FIN : Hid (Pl.fin 0 (Pl.prs W M es) = Pl.sum (Pl.up (Pl.fin 0 ((Pl.prs W M es).take m)) (Pl.al W M es[m])) (Pl.sz W M es[m])) := by
    have := Pl.fin_take_succ 0 (Pl.prs W M es) m (by omega)
    rw [Pl.prs_at W M es m hml, List.take_of_length_le (by omega)] at this
    exact this
  rw [hm] at hs hl
  have NF := hid (numf_any b _ _ _ w hs)
  have hbl : b < w.heap.size := World.block_lt_of_cell? _ _ hs
  have hgl : g < w.heap.size := World.block_lt_of_cell? _ _ c0
  have hvl : vb m < w.heap.size := World.block_lt_of_cell? _ _ c1
  unfold reach at hl
  have hl0 : ((m : Int) + 1 == 0) = false := by rw [beq_eq_false_iff_ne]; omega
  clear HT env hf ht hpl hg
  generalize Pl.fin 0 (Pl.prs W M es) = R at *
  generalize Pl.up (Pl.fin 0 ((Pl.prs W M es).take m)) (Pl.al W M es[m]) = U at *
  generalize Pl.sz W M es[m] = S at *
  go_enter Tryz.func36, Tryz.ntmps36
  go_wp2_with (first | (go_at_call 84; refine (under63_any _ _).mono ?_; rintro e w' ⟨rfl, rfl⟩) | (go_at_call 54; refine NF.out.mono ?_; rintro e w' ⟨rfl, rfl⟩))
  refine OFS.out.mono ?_
  rintro e w2 ⟨ob, u, rfl, hu, hau, h64u, hb2⟩
  have HB2 := hid hb2
  have d := (bcell hb2 b 0 hbl).trans hs
  have d0 := (bcell hb2 g m hgl).trans c0
  have d1 := (bcell hb2 (vb m) 3 hvl).trans c1
  have HU := hid hau
  obtain ⟨hu1, hu2⟩ := h64u
  clear hb2 hs c0 c1 hau OFS NF
  go_wp2_with fail
  refine (CALL.out _ HB2.out).mono ?_
  rintro e w3 ⟨v, rfl, had, h64d, hb3⟩
  have HB3 := hid (below_of HB2.out hb3)
  obtain ⟨hs1, hs2, hs3⟩ := Pl.alike_sum HU.out had
  have S1 := hid hs1
  have S2 := hid hs2
  have S3 := hid hs3
  obtain ⟨hd1, hd2⟩ := h64d
  clear hs1 hs2 hs3 had hb3 d d0 d1 hu
  by_cases hu : u < 0
  · go_wp2_with fail
    go_ret
    exact ⟨-1, rfl, by rw [FIN.out, S1.out (.inr hu)]; exact .of_neg (by omega) (by omega), ⟨by omega, by omega⟩, HB3.out⟩
  · by_cases hv : v < 0
    · go_wp2_with fail
      go_ret
      exact ⟨-1, rfl, by rw [FIN.out, S1.out (.inl hv)]; exact .of_neg (by omega) (by omega), ⟨by omega, by omega⟩, HB3.out⟩
    · by_cases hov : u + v ≤ 9223372036854775807
      · go_wp2_with fail
        go_ret
        exact ⟨u + v, rfl, by rw [FIN.out, S2.out (by omega) (by omega) hov]; exact .of_eq rfl (by omega), ⟨by omega, by omega⟩, HB3.out⟩
      · go_wp2_with fail
        go_ret
        exact ⟨wrap64 (u + v), rfl, by rw [FIN.out, S3.out (by omega) (by omega) (by omega)]; exact .of_neg (by unfold wrap64; omega) (by omega), ⟨by unfold wrap64; omega, by unfold wrap64; omega⟩, HB3.out⟩

theorem sz_ok_of : ∀ (d : Nat) (t : Pl.Ty), Pl.depth t ≤ d → SzOk t := by
  intro d
  induction d with
  | zero => intro t h; cases t; simp [Pl.depth] at h
  | succ d ih =>
    intro t hd T b p W M w hr env
    have hW := env.okW
    unfold Pl.okW at hW
    cases hr with
    | basic n es b h0 h1 hk hi =>
      have hb := Pl.basicSize_ok env.okW n
      have e : Pl.sz W M (.mk 0 n es) = Pl.basicSize W n := by simp [Pl.sz]
      rw [e]
      refine (sz_78 b p n W w h0 h1 env.word env.okW hk hi env.tab).mono ?_
      rintro e w' ⟨rfl, rfl⟩
      exact SzPost.of_eq (by omega) (by omega)
    | word k n es T b h =>
      have e : Pl.sz W M (.mk k n es) = W := by
        simp only [Pl.sz]
        rw [if_neg (by omega), if_neg (by omega), if_neg (by omega), if_neg (by omega)]
      rw [e]
      rcases h with ⟨rfl, rfl⟩ | ⟨rfl, rfl⟩ | ⟨rfl, rfl⟩
      · refine (sz_85 b p W w env.word).mono ?_
        rintro e w' ⟨rfl, rfl⟩
        exact SzPost.of_eq (by omega) (by omega)
      · refine (sz_89 b p W w env.word).mono ?_
        rintro e w' ⟨rfl, rfl⟩
        exact SzPost.of_eq (by omega) (by omega)
      · refine (sz_91 b p W w env.word).mono ?_
        rintro e w' ⟨rfl, rfl⟩
        exact SzPost.of_eq (by omega) (by omega)
    | slice n es b =>
      have e : Pl.sz W M (.mk 2 n es) = 3 * W := by simp [Pl.sz]
      rw [e]
      refine (sz_76 b p W w env.word env.okW).mono ?_
      rintro e w' ⟨rfl, rfl⟩
      exact SzPost.of_eq (by omega) (by omega)
    | array n t b T' b' h0 h1 hn he ht =>
      have hd' : Pl.depth t ≤ d := by simp only [Pl.depth, Pl.depthL] at hd; omega
      have e : Pl.sz W M (.mk 3 n [t]) = Pl.arr n (Pl.al W M t) (Pl.sz W M t) := by simp [Pl.sz, Pl.prs]
      rw [e]
      exact sz_array n t b T' b' p W M w (ih t hd') env h0 h1 hn he ht
    | struct n es b a cap vb Tb bb hl hs hf ht =>
      have hT : ∀ i (h : i < es.length), SzOk es[i] := fun i hi => ih _ (by have := Pl.depth_mem (List.getElem_mem hi); simp only [Pl.depth] at hd; omega)
      have e : Pl.sz W M (.mk 6 n es) = Pl.fin 0 (Pl.prs W M es) := by simp [Pl.sz]
      rw [e]
      cases es with
      | nil => exact sz_struct_nil b p cap a w hs
      | cons x r =>
        obtain ⟨g, rfl, _⟩ := hf 0 (by simp)
        exact sz_struct_some (x :: r) r.length rfl b p cap g vb Tb bb W M w hT env hl hs hf ht
theorem sz_all (t : Pl.Ty) : SzOk t := sz_ok_of _ t (Nat.le_refl _)

set_option maxHeartbeats 400000 in
theorem iszof (t : Pl.Ty) (hv : Pl.valid t = true) (W M : Int) (okW : Pl.okW W) (okM : Pl.okM M) (sv : Value) (w : World) (ht : Tab w) (hl : Lie w t.es sv) (h64k : Pl.in64 t.k) (h64n : Pl.in64 t.n) :
    Calls Tryz.prog 24 #[.int .i64 W, .int .i64 M, .agg #[.int .i64 t.k, .int .i64 t.n, sv]] w (SzPost (Pl.sz W M t) w) := by
  obtain ⟨sa, sc, rfl⟩ := hl.slice
  have TYP := hid (typ_valid t hv)
  have TAB := hid ht
  have HL := hid hl
  have OKW := hid okW
  have OKM := hid okM
  have ALL := hid (sz_all t)
  clear hl ht hv okW okM
  generalize t.es.length = sl at *
  go_enter Tryz.func24, Tryz.ntmps24
  go_wp2_with fail
  have hb0 : Below w.heap.size w ((w.alloc (Obj.cells #[Value.int IntKind.i64 t.k, Value.int IntKind.i64 t.n, Value.slice sa sl sc] 25)).alloc (Obj.cells #[Value.int IntKind.i64 W, Value.int IntKind.i64 M] 48)) := ((Below.refl _ _).alloc (Nat.le_refl _) _).alloc (by simp) _
  refine (TYP.out _ _ (HL.out.kept (.of_below hb0)) h64k h64n).mono ?_
  rintro e w2 ⟨T, b, rfl, hrep, hb2⟩
  have HB := hid (below_of hb0 hb2)
  have env : Env w2 (w.heap.size + 1) W M := by
    refine ⟨?_, ?_, TAB.out.kept (.of_below HB.out), OKW.out, OKM.out⟩
    · rw [bcell hb2 _ _ (by simp)]; simp [World.cell?_alloc_at]
    · rw [bcell hb2 _ _ (by simp)]; simp [World.cell?_alloc_at]
  have CALL := hid (ALL.out T b (w.heap.size + 1) W M w2 (hrep.sub (memBut_sub _ _ _)) env)
  clear env hb0 hb2 hrep
  go_wp2_with fail
  refine CALL.out.mono ?_
  rintro e w3 ⟨r, rfl, hal, h64, hb3⟩
  have FIN : Hid (SzPost (Pl.sz W M t) w (.returned (.int .i64 r)) w3) := ⟨r, rfl, hal, h64, below_of HB.out hb3⟩
  clear hb3 hal h64
  go_wp2_with fail
  go_ret
  exact FIN.out

set_option maxHeartbeats 400000 in
theorem iofof (es : List Pl.Ty) (hv : Pl.validL es = true) (W M : Int) (okW : Pl.okW W) (okM : Pl.okM M) (sv : Value) (w : World) (ht : Tab w) (hl : Lie w es sv) :
    Calls Tryz.prog 27 #[.int .i64 W, .int .i64 M, sv] w (OfsPost (Pl.offs 0 (Pl.prs W M es)) w) := by
  have hlen := hl.len
  obtain ⟨sa, sc, rfl⟩ := hl.slice
  have FLD := hid (fields_valid es hv)
  have TAB := hid ht
  have HL := hid hl
  have OKW := hid okW
  have OKM := hid okM
  have LEN : Hid (es.length * 8 ≤ reach) := by unfold reach at hlen ⊢; show es.length * 8 ≤ _; omega
  clear hl ht hv okW okM hlen
  go_enter Tryz.func27, Tryz.ntmps27
  go_wp2_with fail
  have hb0 : Below w.heap.size w (w.alloc (Obj.cells #[Value.int IntKind.i64 W, Value.int IntKind.i64 M] 48)) := (Below.refl _ _).alloc (Nat.le_refl _) _
  refine (FLD.out _ _ (HL.out.kept (.of_below hb0))).mono ?_
  rintro e w2 ⟨a, cap, vb, Tb, bb, rfl, _, _, hf, hrep, hb2⟩
  have HB := hid (below_of hb0 hb2)
  have env : Env w2 w.heap.size W M := by
    refine ⟨?_, ?_, TAB.out.kept (.of_below HB.out), OKW.out, OKM.out⟩
    · rw [bcell hb2 _ _ (by simp)]; simp [World.cell?_alloc_at]
    · rw [bcell hb2 _ _ (by simp)]; simp [World.cell?_alloc_at]
  have CALL := hid (ofs_of es (fun i _ => sz_all _) a cap w.heap.size vb Tb bb W M w2 env LEN.out (hf.sub (memBut_sub _ _ _)) (fun i h => (hrep i h).sub (memBut_sub _ _ _)))
  clear env hb0 hb2 hrep hf
  go_wp2_with fail
  refine CALL.out.mono ?_
  rintro e w3 ⟨ob, r, rfl, hrow, hall, hob, hb3⟩
  have FIN : Hid (OfsPost (Pl.offs 0 (Pl.prs W M es)) w (.returned (.slice (some ⟨ob, 0, none⟩) (Pl.offs 0 (Pl.prs W M es)).length (Pl.offs 0 (Pl.prs W M es)).length)) w3) := ⟨ob, r, rfl, hrow, hall, Nat.le_trans HB.out.size hob, below_of HB.out hb3⟩
  clear hb3 hrow hall hob
  go_wp2_with fail
  go_ret
  exact FIN.out
end Go.Proofs.YtphfjojdiilneaaGreatDoor
