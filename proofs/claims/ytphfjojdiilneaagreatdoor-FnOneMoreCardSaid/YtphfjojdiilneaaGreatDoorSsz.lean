/- The walk of the reference's Size at every valid type. -/
import Derived.Test.YtphfjojdiilneaaGreatDoorSof
import Derived.Deep.RegionHeld3
set_option linter.unusedVariables false
set_option linter.unusedSimpArgs false
namespace Go.Proofs.YtphfjojdiilneaaGreatDoor
open Go.RowKit

theorem two_below (w : World) (o o' : Obj) : Below w.heap.size w ((w.alloc o).alloc o') := ((Below.refl _ _).alloc (Nat.le_refl _) _).alloc (by simp) _

set_option maxHeartbeats 1000000 in
theorem ssz_word (k n W M : Int) (h0 : k ≠ 0) (h2 : k ≠ 2) (h3 : k ≠ 3) (h6 : k ≠ 6) (sa : Option Addr) (sl sc : Nat) (w : World) :
    Calls Tryz.prog 22 #[.agg #[.int .i64 W, .int .i64 M], .agg #[.int .i64 k, .int .i64 n, .slice sa sl sc]] w (IntPost W w) := by
  have e0 : (k == 0) = false := by simpa using h0
  have e2 : (k == 2) = false := by simpa using h2
  have e3 : (k == 3) = false := by simpa using h3
  have e6 : (k == 6) = false := by simpa using h6
  clear h0 h2 h3 h6
  go_enter Tryz.func22, Tryz.ntmps22
  go_wp2_with fail
  go_ret
  exact ⟨rfl, two_below _ _ _⟩
set_option maxHeartbeats 1000000 in
theorem ssz_slice (n W M : Int) (okW : Pl.okW W) (sa : Option Addr) (sl sc : Nat) (w : World) :
    Calls Tryz.prog 22 #[.agg #[.int .i64 W, .int .i64 M], .agg #[.int .i64 2, .int .i64 n, .slice sa sl sc]] w (IntPost (3 * W) w) := by
  have hb : 4 ≤ W ∧ W ≤ 8 := by unfold Pl.okW at okW; omega
  obtain ⟨hb1, hb2⟩ := hb
  clear okW
  go_enter Tryz.func22, Tryz.ntmps22
  go_wp2_with fail
  go_ret
  exact ⟨ret_int (by omega), two_below _ _ _⟩
set_option maxHeartbeats 1000000 in
theorem ssz_basic (n W M : Int) (okW : Pl.okW W) (sa : Option Addr) (sl sc : Nat) (w : World) :
    Calls Tryz.prog 22 #[.agg #[.int .i64 W, .int .i64 M], .agg #[.int .i64 0, .int .i64 n, .slice sa sl sc]] w (IntPost (Pl.basicSize W n) w) := by
  have BA : Hid (∀ (x : World), Calls Tryz.prog 32 #[.agg #[.int .i64 W, .int .i64 M], .int .i64 n] x (IntPost (Pl.basicSize W n) x)) := fun x => basic_any W M _ okW x
  clear okW
  go_enter Tryz.func22, Tryz.ntmps22
  go_wp2_with fail
  refine (BA.out _).mono ?_
  rintro e w3 ⟨rfl, hb4⟩
  have HB4 := hid (below_of (two_below _ _ _) hb4)
  clear hb4
  go_wp2_with fail
  go_ret
  exact ⟨rfl, HB4.out⟩
set_option maxHeartbeats 1000000 in
theorem ssz_arr0 (W M : Int) (sa : Option Addr) (sl sc : Nat) (w : World) :
    Calls Tryz.prog 22 #[.agg #[.int .i64 W, .int .i64 M], .agg #[.int .i64 3, .int .i64 0, .slice sa sl sc]] w (IntPost 0 w) := by
  go_enter Tryz.func22, Tryz.ntmps22
  go_wp2_with fail
  go_ret
  exact ⟨rfl, two_below _ _ _⟩

set_option maxRecDepth 100000 in
set_option maxHeartbeats 4000000 in
theorem ssz_arr (n : Int) (h0 : 0 < n) (h1 : n ≤ 9223372036854775807) (t : Pl.Ty) (hv : Pl.valid t = true) (HT : SszOk t) (W M : Int) (okW : Pl.okW W) (okM : Pl.okM M) (sv : Value) (w : World) (hl : Lie w [t] sv) :
    Calls Tryz.prog 22 #[.agg #[.int .i64 W, .int .i64 M], .agg #[.int .i64 3, .int .i64 n, sv]] w (IntPost (Pl.arr n (Pl.al W M t) (Pl.sz W M t)) w) := by
  obtain ⟨b, off, cap, sc, sa, rfl, hc, hb, c0, c1, c2, h64k, h64n, hl1⟩ := hl.one 0 (by simp)
  simp only [Nat.zero_mul, Nat.add_zero, List.getElem_cons_zero, List.length_singleton] at c0 c1 c2 hc h64k h64n hl1
  rw [List.length_singleton]
  have R : Hid (Pl.arr n (Pl.al W M t) (Pl.sz W M t) = Pl.sum (Pl.product (n - 1) (Pl.up (Pl.sz W M t) (Pl.al W M t))) (Pl.sz W M t)) := by
    show Pl.arr n _ _ = _
    unfold Pl.arr; rw [if_neg (by omega)]
  have CALL : Hid (∀ wx, Below w.heap.size w wx → Calls Tryz.prog 22 #[.agg #[.int .i64 W, .int .i64 M], .agg #[.int .i64 t.k, .int .i64 t.n, .slice sa t.es.length sc]] wx (IntPost (Pl.sz W M t) wx)) := fun wx hb => HT hv h64n _ W M wx okW okM (hl1.kept (.of_below hb))
  have ALI : Hid (∀ wx, Below w.heap.size w wx → Calls Tryz.prog 21 #[.agg #[.int .i64 W, .int .i64 M], .agg #[.int .i64 t.k, .int .i64 t.n, .slice sa t.es.length sc]] wx (IntPost (Pl.al W M t) wx)) := fun wx hb => sal_all t _ W M wx okW okM (hl1.kept (.of_below hb))
  have HA := hid (Pl.al_isAl okW okM t)
  have HS := hid (Pl.sz_isSize M okW t)
  have UP := hid (Pl.up_size (Pl.sz W M t) (Pl.al W M t) HA.out.le.1 HA.out.le.2).in64
  have N64 : Hid (Pl.in64 (n - 1)) := ⟨by omega, by omega⟩
  have hn0 : (n == 0) = false := by rw [beq_eq_false_iff_ne]; omega
  have hw1 : IntKind.i64.wrap (n - 1) = n - 1 := by rw [IntKind.wrap_i64]; omega
  have PR : Hid (Pl.in64 (Pl.product (n - 1) (Pl.up (Pl.sz W M t) (Pl.al W M t)))) := by
    show Pl.in64 _
    by_cases hu : Pl.up (Pl.sz W M t) (Pl.al W M t) < 0
    · rw [Pl.product_neg_right _ _ hu]; exact ⟨by omega, by omega⟩
    · unfold Pl.product
      split
      · exact ⟨by omega, by omega⟩
      · rename_i hcn
        by_cases hz : n - 1 = 0
        · rw [hz]; exact ⟨by omega, by omega⟩
        · have := mul_bound (n := n - 1) (k := Pl.up (Pl.sz W M t) (Pl.al W M t)) (by omega) (by omega) (by omega)
          exact ⟨by omega, this.2⟩
  have hbl : b < w.heap.size := World.block_lt_of_cell? _ _ c0
  have hbs : b < w.heap.size + 1 := by omega
  have hbs2 : b < w.heap.size + 1 + 1 := by omega
  have hws2 : w.heap.size < w.heap.size + 1 + 1 := by omega
  clear HT hl1 hl okW okM hv
  generalize Pl.al W M t = A at *
  generalize Pl.sz W M t = S at *
  go_enter Tryz.func22, Tryz.ntmps22
  go_wp2_with fail
  have HB0 := hid ((two_below w (Obj.cells #[.int .i64 W, .int .i64 M] 29) (Obj.cells #[.int .i64 3, .int .i64 n, .slice (some ⟨b, off, none⟩) 1 cap] 25)).drew)
  go_region_held3 (fun x => x.cell? ⟨w.heap.size, 0, none⟩ = some (.int .i64 W) ∧ x.cell? ⟨w.heap.size, 1, none⟩ = some (.int .i64 M) ∧ x.cell? ⟨w.heap.size + 1, 1, none⟩ = some (.int .i64 n) ∧ x.cell? ⟨w.heap.size + 1, 2, none⟩ = some (.slice (some ⟨b, off, none⟩) 1 cap) ∧
      x.cell? ⟨b, off, none⟩ = some (.int .i64 t.k) ∧ x.cell? ⟨b, off + 1, none⟩ = some (.int .i64 t.n) ∧ x.cell? ⟨b, off + 2, none⟩ = some (.slice sa t.es.length sc))
    (first | go_keep)
    (first
      | (go_at_call 22; refine (CALL.out _ HB0.out).mono ?_; rintro e w2 ⟨rfl, hb2⟩
         have HB2 := hid (below_of HB0.out hb2)
         have z1 : w.heap.size + 1 < w2.heap.size := by (have := hb2.size; simp at this; omega)
         have z2 : w.heap.size < w2.heap.size := by omega
         have z3 : b < w2.heap.size := by omega
         have hc2 := bcell hb2
         clear hb2))
  have e0 : w2.cell? ⟨w.heap.size, 0, none⟩ = some (.int .i64 W) := (hc2 w.heap.size 0 (by simp; omega)).trans (by simp)
  have e1 : w2.cell? ⟨w.heap.size, 1, none⟩ = some (.int .i64 M) := (hc2 w.heap.size 1 (by simp; omega)).trans (by simp)
  have e2 : w2.cell? ⟨w.heap.size + 1, 1, none⟩ = some (.int .i64 n) := (hc2 (w.heap.size + 1) 1 (by simp)).trans (by simp [World.cell?_alloc_at])
  have e3 : w2.cell? ⟨w.heap.size + 1, 2, none⟩ = some (.slice (some ⟨b, off, none⟩) 1 cap) := (hc2 (w.heap.size + 1) 2 (by simp)).trans (by simp [World.cell?_alloc_at])
  have e4 := (bcell HB2.out b off hbl).trans c0
  have e5 := (bcell HB2.out b (off + 1) hbl).trans c1
  have e6 := (bcell HB2.out b (off + 2) hbl).trans c2
  clear hc2 c0 c1 c2
  go_wp2_with fail
  have HB3 := hid HB2.out.drew
  go_region_held3 (fun x => x.cell? ⟨w.heap.size, 0, none⟩ = some (.int .i64 W) ∧ x.cell? ⟨w.heap.size, 1, none⟩ = some (.int .i64 M) ∧ x.cell? ⟨w.heap.size + 1, 1, none⟩ = some (.int .i64 n) ∧ x.cell? ⟨w.heap.size + 1, 2, none⟩ = some (.slice (some ⟨b, off, none⟩) 1 cap) ∧
      x.cell? ⟨b, off, none⟩ = some (.int .i64 t.k) ∧ x.cell? ⟨b, off + 1, none⟩ = some (.int .i64 t.n) ∧ x.cell? ⟨b, off + 2, none⟩ = some (.slice sa t.es.length sc))
    (first | go_keep)
    (first
      | (go_at_call 21; refine (ALI.out _ HB3.out).mono ?_; rintro e w4 ⟨rfl, hb4⟩
         have HB4 := hid (below_of HB3.out hb4)
         have hc4 : ∀ b o, b < w2.heap.size → w4.cell? ⟨b, o, none⟩ = w2.cell? ⟨b, o, none⟩ := fun b o h => bcell hb4 b o h
         clear hb4)
      | (go_at_call 35; refine (up_any _ _ _ HS.out.in64 HA.out).mono ?_; rintro e w5 ⟨rfl, rfl⟩)
      | (go_at_call 34; refine (product_any _ _ _ N64.out UP.out).mono ?_; rintro e w6 ⟨rfl, rfl⟩)
      | (go_at_call 33; refine (sum_any _ _ _ PR.out HS.out.in64).mono ?_; rintro e w7 ⟨rfl, rfl⟩))
  clear hc4 e0 e1 e2 e3 e4 e5 e6
  go_wp2
  go_ret
  exact ⟨by rw [R.out]; rfl, HB4.out⟩

set_option maxHeartbeats 1000000 in
theorem ssz_str_nil (n W M : Int) (a : Option Addr) (cap : Nat) (w : World) :
    Calls Tryz.prog 22 #[.agg #[.int .i64 W, .int .i64 M], .agg #[.int .i64 6, .int .i64 n, .slice a 0 cap]] w (IntPost 0 w) := by
  go_enter Tryz.func22, Tryz.ntmps22
  go_wp2_with fail
  refine (sof_nil W M a cap _).mono ?_
  rintro e w3 ⟨a', cap', rfl, _, hb4⟩
  have HB4 := hid (below_of (two_below _ _ _) hb4)
  clear hb4
  go_wp2_with fail
  go_ret
  exact ⟨rfl, HB4.out⟩

set_option maxRecDepth 100000 in
set_option maxHeartbeats 4000000 in
theorem ssz_str_some (n : Int) (es : List Pl.Ty) (m : Nat) (hm : es.length = m + 1) (hT : ∀ i (h : i < es.length), SszOk es[i]) (hv : Pl.validL es = true) (W M : Int) (okW : Pl.okW W) (okM : Pl.okM M) (b off cap : Nat) (sv : Nat → Value) (w : World) (hc : es.length ≤ cap) (hr : es.length * 40 ≤ reach)
    (hk : ∀ i (h : i < es.length), w.cell? ⟨b, off + i * 3, none⟩ = some (.int .i64 (es[i]).k) ∧ w.cell? ⟨b, off + i * 3 + 1, none⟩ = some (.int .i64 (es[i]).n) ∧ w.cell? ⟨b, off + i * 3 + 2, none⟩ = some (sv i))
    (h64 : ∀ i (h : i < es.length), Pl.in64 (es[i]).k ∧ Pl.in64 (es[i]).n) (hs : ∀ i (h : i < es.length), Lie w (es[i]).es (sv i)) :
    Calls Tryz.prog 22 #[.agg #[.int .i64 W, .int .i64 M], .agg #[.int .i64 6, .int .i64 n, .slice (some ⟨b, off, none⟩) es.length cap]] w (IntPost (Pl.fin 0 (Pl.prs W M es)) w) := by
  have hml : m < es.length := by omega
  have hpl := Pl.prs_length W M es
  obtain ⟨c0, c1, c2⟩ := hk m hml
  obtain ⟨sa, sc, hsv⟩ := (hs m hml).slice
  have OFS : Hid (∀ wx, Below w.heap.size w wx → Calls Tryz.prog 28 #[.agg #[.int .i64 W, .int .i64 M], .slice (some ⟨b, off, none⟩) (m + 1) cap] wx fun e w' => ∃ (ob cap' : Nat), e = .returned (.slice (some ⟨ob, 0, none⟩) (m + 1) cap') ∧
      w'.cell? ⟨ob, m, none⟩ = some (.int .i64 (Pl.up (Pl.fin 0 ((Pl.prs W M es).take m)) (Pl.al W M es[m]))) ∧ Below wx.heap.size wx w') := by
    intro wx hbx
    have hkx : ∀ i (h : i < es.length), wx.cell? ⟨b, off + i * 3, none⟩ = some (.int .i64 (es[i]).k) ∧ wx.cell? ⟨b, off + i * 3 + 1, none⟩ = some (.int .i64 (es[i]).n) ∧ wx.cell? ⟨b, off + i * 3 + 2, none⟩ = some (sv i) :=
      fun i h => ⟨(Kept.of_below hbx).cell (hk i h).1, (Kept.of_below hbx).cell (hk i h).2.1, (Kept.of_below hbx).cell (hk i h).2.2⟩
    have := sof_row es hT hv W M okW okM b off cap sv wx hc hr hkx h64 (fun i h => (hs i h).kept (.of_below hbx))
    rw [hm] at this
    refine this.mono ?_
    rintro e w' ⟨a, cap', rfl, hall, hb⟩
    have hol : (Pl.offs 0 (Pl.prs W M es)).length = m + 1 := by rw [Pl.offs_length]; omega
    obtain ⟨g, rfl, _, hc⟩ := hall m (by omega)
    rw [Pl.offs_at 0 _ m (by omega), Pl.prs_at W M es m hml] at hc
    exact ⟨g, cap', by rw [hol], hc, hb⟩
  have CALL : Hid (∀ wx, Below w.heap.size w wx → Calls Tryz.prog 22 #[.agg #[.int .i64 W, .int .i64 M], .agg #[.int .i64 (es[m]).k, .int .i64 (es[m]).n, .slice sa (es[m]).es.length sc]] wx (IntPost (Pl.sz W M es[m]) wx)) :=
    fun wx hb => by rw [← hsv]; exact hT m hml ((Pl.validL_iff es).1 hv _ (List.getElem_mem hml)) (h64 m hml).2 (sv m) W M wx okW okM ((hs m hml).kept (.of_below hb))
  have FIN : Hid (Pl.fin 0 (Pl.prs W M es) = Pl.sum (Pl.up (Pl.fin 0 ((Pl.prs W M es).take m)) (Pl.al W M es[m])) (Pl.sz W M es[m])) := by
    have := Pl.fin_take_succ 0 (Pl.prs W M es) m (by omega)
    rw [Pl.prs_at W M es m hml, List.take_of_length_le (by omega)] at this
    exact this
  have HA := Pl.al_isAl okW okM es[m]
  have US := hid (Pl.up_size (Pl.fin 0 ((Pl.prs W M es).take m)) (Pl.al W M es[m]) HA.le.1 HA.le.2).in64
  have HS := hid (Pl.sz_isSize M okW es[m])
  rw [hsv] at c2
  rw [hm]
  rw [hm] at hc
  unfold reach at hr
  have hbl : b < w.heap.size := World.block_lt_of_cell? _ _ c0
  have hbs : b < w.heap.size + 1 := by omega
  have hbs2 : b < w.heap.size + 1 + 1 := by omega
  have hws2 : w.heap.size < w.heap.size + 1 + 1 := by omega
  have hl0 : ((m : Int) + 1 == 0) = false := by rw [beq_eq_false_iff_ne]; omega
  have hm0 : (0 : Int) ≤ (m : Int) := by omega
  have hw1 : IntKind.i64.wrap (m : Int) = (m : Int) := by rw [IntKind.wrap_i64]; omega
  have hm1 : (m : Int) < (m : Int) + 1 := by omega
  clear hT hk h64 hs hv okW okM hpl hsv HA
  generalize Pl.fin 0 (Pl.prs W M es) = R at *
  generalize Pl.up (Pl.fin 0 ((Pl.prs W M es).take m)) (Pl.al W M es[m]) = U at *
  generalize Pl.sz W M es[m] = S at *
  generalize (es[m]).k = tk at *
  generalize (es[m]).n = tn at *
  generalize (es[m]).es.length = tl at *
  go_enter Tryz.func22, Tryz.ntmps22
  go_wp2_with fail
  have HB0 := hid (two_below w (Obj.cells #[.int .i64 W, .int .i64 M] 29) (Obj.cells #[.int .i64 6, .int .i64 n, .slice (some ⟨b, off, none⟩) (m + 1) cap] 25))
  refine (OFS.out _ HB0.out).mono ?_
  rintro e w2 ⟨ob, cap', rfl, hu, hb2⟩
  have HB2 := hid (below_of HB0.out hb2)
  have z1 : w.heap.size + 1 < w2.heap.size := by have := hb2.size; simp at this; omega
  have z2 : w.heap.size < w2.heap.size := by omega
  have z3 : b < w2.heap.size := by omega
  have zo : ob < w2.heap.size := World.block_lt_of_cell? _ _ hu
  have e0 : w2.cell? ⟨w.heap.size, 0, none⟩ = some (.int .i64 W) := by rw [bcell hb2 _ _ (by simp; omega)]; simp
  have e1 : w2.cell? ⟨w.heap.size, 1, none⟩ = some (.int .i64 M) := by rw [bcell hb2 _ _ (by simp; omega)]; simp
  have e3 : w2.cell? ⟨w.heap.size + 1, 2, none⟩ = some (.slice (some ⟨b, off, none⟩) (m + 1) cap) := by rw [bcell hb2 _ _ (by simp)]; simp [World.cell?_alloc_at]
  have e4 := (bcell HB2.out b (off + m * 3) hbl).trans c0
  have e5 := (bcell HB2.out b (off + m * 3 + 1) hbl).trans c1
  have e6 := (bcell HB2.out b (off + m * 3 + 2) hbl).trans c2
  clear hb2 c0 c1 c2 OFS
  go_wp2_with fail
  have HB3 := hid HB2.out.drew
  go_region_held3 (fun x => x.cell? ⟨w.heap.size, 0, none⟩ = some (.int .i64 W) ∧ x.cell? ⟨w.heap.size, 1, none⟩ = some (.int .i64 M) ∧ x.cell? ⟨w.heap.size + 1, 2, none⟩ = some (.slice (some ⟨b, off, none⟩) (m + 1) cap) ∧ x.cell? ⟨ob, m, none⟩ = some (.int .i64 U) ∧
      x.cell? ⟨b, off + m * 3, none⟩ = some (.int .i64 tk) ∧ x.cell? ⟨b, off + m * 3 + 1, none⟩ = some (.int .i64 tn) ∧ x.cell? ⟨b, off + m * 3 + 2, none⟩ = some (.slice sa tl sc))
    (first | go_keep)
    (first
      | (go_at_call 22; refine (CALL.out _ HB3.out).mono ?_; rintro e w4 ⟨rfl, hb4⟩
         have HB4 := hid (below_of HB3.out hb4)
         have hc4 : ∀ b o, b < w2.heap.size → w4.cell? ⟨b, o, none⟩ = w2.cell? ⟨b, o, none⟩ := fun b o h => bcell hb4 b o h
         clear hb4)
      | (go_at_call 33; refine (sum_any _ _ _ US.out HS.out.in64).mono ?_; rintro e w7 ⟨rfl, rfl⟩))
  clear hc4 e0 e1 e3 e4 e5 e6 hu
  go_wp2
  go_ret
  exact ⟨by rw [FIN.out]; rfl, HB4.out⟩

theorem ssz_ok_of : ∀ (d : Nat) (t : Pl.Ty), Pl.depth t ≤ d → SszOk t := by
  intro d
  induction d with
  | zero => intro t h; cases t; simp [Pl.depth] at h
  | succ d ih =>
    intro t hd hv h64 sv W M w okW okM hl
    cases t with
    | mk k n es =>
      simp only [Pl.depth] at hd
      simp only [Pl.Ty.es, Pl.Ty.k, Pl.Ty.n] at hl h64 ⊢
      have hT : ∀ i (h : i < es.length), SszOk es[i] := fun i hi => ih _ (by have := Pl.depth_mem (List.getElem_mem hi); omega)
      rw [valid_lv] at hv
      simp only [Bool.and_eq_true, Pl.Ty.es, Pl.Ty.k, Pl.Ty.n] at hv
      obtain ⟨hlv, hvl⟩ := hv
      have hcase := lv_true hlv
      obtain ⟨sa, sc, hsv⟩ := hl.slice
      by_cases h0 : k = 0
      · subst h0; subst hsv
        have e : Pl.sz W M (.mk 0 n es) = Pl.basicSize W n := by simp [Pl.sz]
        rw [e]; exact ssz_basic n W M okW sa _ sc w
      by_cases h2 : k = 2
      · subst h2; subst hsv
        have e : Pl.sz W M (.mk 2 n es) = 3 * W := by simp [Pl.sz]
        rw [e]; exact ssz_slice n W M okW sa _ sc w
      by_cases h3 : k = 3
      · subst h3
        obtain ⟨hlen, hn0⟩ : es.length = 1 ∧ 0 ≤ n := by omega
        obtain ⟨t, rfl⟩ := List.length_eq_one_iff.1 hlen
        · have e : Pl.sz W M (.mk 3 n [t]) = Pl.arr n (Pl.al W M t) (Pl.sz W M t) := by simp [Pl.sz, Pl.prs]
          rw [e]
          by_cases hz : n = 0
          · subst hz; subst hsv
            rw [Pl.arr_zero_len]; exact ssz_arr0 W M sa _ sc w
          · exact ssz_arr n (by omega) h64.2 t (by simpa [Pl.validL] using hvl) (hT 0 (by simp)) W M okW okM sv w hl
      by_cases h6 : k = 6
      · subst h6
        have e : Pl.sz W M (.mk 6 n es) = Pl.fin 0 (Pl.prs W M es) := by simp [Pl.sz]
        rw [e]
        cases hl with
        | nil a cap => exact ssz_str_nil n W M a cap w
        | row b off cap es sv hc hr hk h64 hs =>
          cases es with
          | nil => exact ssz_str_nil n W M _ cap w
          | cons x r => exact ssz_str_some n (x :: r) r.length rfl hT hvl W M okW okM b off cap sv w hc hr hk h64 hs
      · subst hsv
        have e : Pl.sz W M (.mk k n es) = W := by
          simp only [Pl.sz]
          rw [if_neg h0, if_neg h2, if_neg h3, if_neg h6]
        rw [e]; exact ssz_word k n W M h0 h2 h3 h6 sa _ sc w
theorem ssz_all (t : Pl.Ty) : SszOk t := ssz_ok_of _ t (Nat.le_refl _)
theorem sof_all (es : List Pl.Ty) (hv : Pl.validL es = true) (W M : Int) (okW : Pl.okW W) (okM : Pl.okM M) (sv : Value) (w : World) (hl : Lie w es sv) :
    Calls Tryz.prog 28 #[.agg #[.int .i64 W, .int .i64 M], sv] w (SofPost (Pl.offs 0 (Pl.prs W M es)) w) := by
  cases hl with
  | nil a cap => exact sof_nil W M a cap w
  | row b off cap es sv hc hr hk h64 hs => exact sof_row es (fun i _ => ssz_all _) hv W M okW okM b off cap sv w hc hr hk h64 hs
end Go.Proofs.YtphfjojdiilneaaGreatDoor
