/- The walk of FnSizeofAny. -/
import Derived.Test.YtphfjojdiilneaaGreatDoorIal
import Derived.Test.YtphfjojdiilneaaGreatDoorWrk
import Derived.Test.YtphfjojdiilneaaGreatDoorSsz
set_option linter.unusedVariables false
set_option linter.unusedSimpArgs false
namespace Go.Proofs.YtphfjojdiilneaaGreatDoor
open Go.RowKit
set_option maxRecDepth 100000 in
set_option maxHeartbeats 1000000 in
theorem law10_valid (t : Pl.Ty) (hv : Pl.valid t = true) (c : Bool) (a : Int) (ha : Pl.in64 a) (sv : Value) (w : World) (ht : Tab w) (hl : Lie w t.es sv) (hfit : (t.es.length : Int) ≤ 2147483647) (h64k : Pl.in64 t.k) (h64n : Pl.in64 t.n) :
    Calls Tryz.prog 10 #[.agg #[.int .i64 t.k, .int .i64 t.n, sv], .bool c, .int .i64 a] w (LawPost w) := by
  obtain ⟨sa, sc, rfl⟩ := hl.slice
  have TAB := hid ht
  have HL := hid hl
  have FIT : Hid (∀ x : World, Calls Tryz.prog 15 #[.agg #[.int .i64 t.k, .int .i64 t.n, .slice sa t.es.length sc]] x (BoolPost true x)) := by
    intro x
    have := fits_any t.k t.n sa t.es.length sc (by omega) x
    rwa [decide_eq_true hfit] at this
  have VAL : Hid (∀ (b : Nat) (x : World), Lie x t.es (.slice sa t.es.length sc) → x.cell? ⟨b, 0, none⟩ = some (.int .i64 t.k) → x.cell? ⟨b, 1, none⟩ = some (.int .i64 t.n) → x.cell? ⟨b, 2, none⟩ = some (.slice sa t.es.length sc) → Calls Tryz.prog 16 #[.slice (some ⟨b, 0, none⟩) 1 1] x (BoolPost true x)) :=
    fun b x h1 h2 h3 h4 => val_one t true hv h64k h64n b _ x h1 h2 h3 h4
  have ISZ : Hid (∀ (W M : Int) (x : World), Pl.okW W → Pl.okM M → Tab x → Lie x t.es (.slice sa t.es.length sc) → Calls Tryz.prog 24 #[.int .i64 W, .int .i64 M, .agg #[.int .i64 t.k, .int .i64 t.n, .slice sa t.es.length sc]] x (SzPost (Pl.sz W M t) x)) :=
    fun W M x h1 h2 h3 h4 => iszof t hv W M h1 h2 _ x h3 h4 h64k h64n
  have SSZ := hid (ssz_all t hv h64n)
  clear hl ht hv hfit
  generalize hsl : t.es.length = sl at *
  go_enter Tryz.func10, Tryz.ntmps10
  go_wp2_with fail
  have hb0 : Below w.heap.size w (w.alloc (Obj.cells #[Value.int IntKind.i64 t.k, Value.int IntKind.i64 t.n, Value.slice sa sl sc] 25)) := (Below.refl _ _).alloc (Nat.le_refl _) _
  refine (FIT.out _).mono ?_
  rintro e w1 ⟨rfl, hb1⟩
  have b0 : w1.cell? ⟨w.heap.size, 0, none⟩ = some (.int .i64 t.k) := by rw [bcell hb1 _ _ (by simp)]; simp
  have b1 : w1.cell? ⟨w.heap.size, 1, none⟩ = some (.int .i64 t.n) := by rw [bcell hb1 _ _ (by simp)]; simp
  have b2 : w1.cell? ⟨w.heap.size, 2, none⟩ = some (.slice sa sl sc) := by rw [bcell hb1 _ _ (by simp)]; simp
  have B1 := hid (below_of hb0 hb1)
  have s1 : w.heap.size < w1.heap.size := by have := hb1.size; simp at this; omega
  clear hb0 hb1
  go_wp2_with fail
  refine (sizes_any c a ha _).mono ?_
  rintro e w2 ⟨W, M, rfl, okW, okM, hb2⟩
  have c0 := (bcell hb2 _ _ s1).trans b0
  have c1 := (bcell hb2 _ _ s1).trans b1
  have c2 := (bcell hb2 _ _ s1).trans b2
  have s2 : w.heap.size < w2.heap.size := Nat.lt_of_lt_of_le s1 hb2.size
  have B2 := hid (below_of B1.out hb2)
  have OKW := hid okW
  have OKM := hid okM
  clear hb2 b0 b1 b2 okW okM s1
  go_wp2_with fail
  have HBR := hid (B2.out.alloc B2.out.size (.cells #[.int .i64 W, .int .i64 M] 29))
  have d0 : (w2.alloc (.cells #[.int .i64 W, .int .i64 M] 29)).cell? ⟨w.heap.size, 0, none⟩ = some (.int .i64 t.k) := (World.cell?_alloc_lt _ _ _ s2).trans c0
  have d1 : (w2.alloc (.cells #[.int .i64 W, .int .i64 M] 29)).cell? ⟨w.heap.size, 1, none⟩ = some (.int .i64 t.n) := (World.cell?_alloc_lt _ _ _ s2).trans c1
  have d2 : (w2.alloc (.cells #[.int .i64 W, .int .i64 M] 29)).cell? ⟨w.heap.size, 2, none⟩ = some (.slice sa sl sc) := (World.cell?_alloc_lt _ _ _ s2).trans c2
  have d3 : (w2.alloc (.cells #[.int .i64 W, .int .i64 M] 29)).cell? ⟨w2.heap.size, 0, none⟩ = some (.int .i64 W) := by simp
  have d4 : (w2.alloc (.cells #[.int .i64 W, .int .i64 M] 29)).cell? ⟨w2.heap.size, 1, none⟩ = some (.int .i64 M) := by simp
  have z0 : w.heap.size < (w2.alloc (.cells #[.int .i64 W, .int .i64 M] 29)).heap.size := by simp; omega
  have z1 : w2.heap.size < (w2.alloc (.cells #[.int .i64 W, .int .i64 M] 29)).heap.size := by simp
  clear B1 B2 c0 c1 c2 s2
  generalize (w2.alloc (.cells #[.int .i64 W, .int .i64 M] 29)) = wr at *
  generalize w2.heap.size = Q at *
  have y0 : w.heap.size < wr.heap.size + 1 := by omega
  have y1 : Q < wr.heap.size + 1 := by omega
  have HBW := hid ((HBR.out.alloc HBR.out.size (.cells #[.int .i64 t.k, .int .i64 t.n, .slice sa sl sc] 25)).drew)
  go_region_held3 (fun x => x.cell? ⟨w.heap.size, 0, none⟩ = some (.int .i64 t.k) ∧ x.cell? ⟨w.heap.size, 1, none⟩ = some (.int .i64 t.n) ∧ x.cell? ⟨w.heap.size, 2, none⟩ = some (.slice sa sl sc) ∧ x.cell? ⟨Q, 0, none⟩ = some (.int .i64 W) ∧ x.cell? ⟨Q, 1, none⟩ = some (.int .i64 M))
    (first | go_keep)
    (first
      | (go_at_call 16; refine (VAL.out _ _ (HL.out.kept (.of_below HBW.out)) ?_ ?_ ?_).mono ?_
         · simp
         · simp
         · simp
         rintro e w3 ⟨rfl, hb3⟩
         have HB3 := hid (below_of HBW.out hb3)
         have z3 : wr.heap.size < w3.heap.size := by (have := hb3.size; simp at this; omega)
         have z4 : w.heap.size < w3.heap.size := by omega
         have z5 : Q < w3.heap.size := by omega
         have hc3 := bcell hb3
         clear hb3)
      | (go_at_call 24; refine (ISZ.out W M _ OKW.out OKM.out (TAB.out.kept (.of_below HB3.out)) (HL.out.kept (.of_below HB3.out))).mono ?_; rintro e w4 ⟨r, rfl, har, h64r, hb4⟩
         have HAR := hid har
         have HB4 := hid (below_of HB3.out hb4)
         have z6 : w.heap.size < w4.heap.size := by (have := hb4.size; omega)
         have z7 : Q < w4.heap.size := by (have := hb4.size; omega)
         have hc4 := bcell hb4
         clear hb4 har h64r)
      | (go_at_call 22; refine (SSZ.out _ W M _ OKW.out OKM.out (HL.out.kept (.of_below HB4.out))).mono ?_; rintro e w5 ⟨rfl, hb5⟩
         have HB5 := hid (below_of HB4.out hb5)
         have y6 : w.heap.size < w5.heap.size := by (have := hb5.size; omega)
         have y7 : Q < w5.heap.size := by (have := hb5.size; omega)
         have hc5 := bcell hb5
         clear hb5)
      | (go_at_call 25; refine (alike_any _ _ _ HAR.out).mono ?_; rintro e w8 ⟨rfl, rfl⟩)
      | (go_at_call 23; refine (works_any W M OKW.out OKM.out _ (TAB.out.kept (.of_below HB5.out))).mono ?_; rintro e w9 ⟨rfl, hb9⟩
         have HB9 := hid (below_of HB5.out hb9)
         have hc9 := bcell hb9
         clear hb9))
  clear hc3 hc4 hc5 hc9 d0 d1 d2 d3 d4
  go_wp2
  go_ret
  exact ⟨by simp, HB9.out⟩
set_option maxRecDepth 100000 in
set_option maxHeartbeats 1000000 in
theorem law10_invalid (t : Pl.Ty) (hv : Pl.valid t = false) (c : Bool) (a : Int) (ha : Pl.in64 a) (sv : Value) (w : World) (ht : Tab w) (hl : Lie w t.es sv) (hfit : (t.es.length : Int) ≤ 2147483647) (h64k : Pl.in64 t.k) (h64n : Pl.in64 t.n) :
    Calls Tryz.prog 10 #[.agg #[.int .i64 t.k, .int .i64 t.n, sv], .bool c, .int .i64 a] w (LawPost w) := by
  obtain ⟨sa, sc, rfl⟩ := hl.slice
  have TAB := hid ht
  have HL := hid hl
  have FIT : Hid (∀ x : World, Calls Tryz.prog 15 #[.agg #[.int .i64 t.k, .int .i64 t.n, .slice sa t.es.length sc]] x (BoolPost true x)) := by
    intro x
    have := fits_any t.k t.n sa t.es.length sc (by omega) x
    rwa [decide_eq_true hfit] at this
  have VAL : Hid (∀ (b : Nat) (x : World), Lie x t.es (.slice sa t.es.length sc) → x.cell? ⟨b, 0, none⟩ = some (.int .i64 t.k) → x.cell? ⟨b, 1, none⟩ = some (.int .i64 t.n) → x.cell? ⟨b, 2, none⟩ = some (.slice sa t.es.length sc) → Calls Tryz.prog 16 #[.slice (some ⟨b, 0, none⟩) 1 1] x (BoolPost false x)) :=
    fun b x h1 h2 h3 h4 => val_one t false hv h64k h64n b _ x h1 h2 h3 h4
  clear hl ht hv hfit
  generalize hsl : t.es.length = sl at *
  go_enter Tryz.func10, Tryz.ntmps10
  go_wp2_with fail
  have hb0 : Below w.heap.size w (w.alloc (Obj.cells #[Value.int IntKind.i64 t.k, Value.int IntKind.i64 t.n, Value.slice sa sl sc] 25)) := (Below.refl _ _).alloc (Nat.le_refl _) _
  refine (FIT.out _).mono ?_
  rintro e w1 ⟨rfl, hb1⟩
  have b0 : w1.cell? ⟨w.heap.size, 0, none⟩ = some (.int .i64 t.k) := by rw [bcell hb1 _ _ (by simp)]; simp
  have b1 : w1.cell? ⟨w.heap.size, 1, none⟩ = some (.int .i64 t.n) := by rw [bcell hb1 _ _ (by simp)]; simp
  have b2 : w1.cell? ⟨w.heap.size, 2, none⟩ = some (.slice sa sl sc) := by rw [bcell hb1 _ _ (by simp)]; simp
  have B1 := hid (below_of hb0 hb1)
  have s1 : w.heap.size < w1.heap.size := by have := hb1.size; simp at this; omega
  clear hb0 hb1
  go_wp2_with fail
  refine (sizes_any c a ha _).mono ?_
  rintro e w2 ⟨W, M, rfl, okW, okM, hb2⟩
  have c0 := (bcell hb2 _ _ s1).trans b0
  have c1 := (bcell hb2 _ _ s1).trans b1
  have c2 := (bcell hb2 _ _ s1).trans b2
  have s2 : w.heap.size < w2.heap.size := Nat.lt_of_lt_of_le s1 hb2.size
  have B2 := hid (below_of B1.out hb2)
  have OKW := hid okW
  have OKM := hid okM
  clear hb2 b0 b1 b2 okW okM s1
  go_wp2_with fail
  have HBR := hid (B2.out.alloc B2.out.size (.cells #[.int .i64 W, .int .i64 M] 29))
  have d0 : (w2.alloc (.cells #[.int .i64 W, .int .i64 M] 29)).cell? ⟨w.heap.size, 0, none⟩ = some (.int .i64 t.k) := (World.cell?_alloc_lt _ _ _ s2).trans c0
  have d1 : (w2.alloc (.cells #[.int .i64 W, .int .i64 M] 29)).cell? ⟨w.heap.size, 1, none⟩ = some (.int .i64 t.n) := (World.cell?_alloc_lt _ _ _ s2).trans c1
  have d2 : (w2.alloc (.cells #[.int .i64 W, .int .i64 M] 29)).cell? ⟨w.heap.size, 2, none⟩ = some (.slice sa sl sc) := (World.cell?_alloc_lt _ _ _ s2).trans c2
  have d3 : (w2.alloc (.cells #[.int .i64 W, .int .i64 M] 29)).cell? ⟨w2.heap.size, 0, none⟩ = some (.int .i64 W) := by simp
  have d4 : (w2.alloc (.cells #[.int .i64 W, .int .i64 M] 29)).cell? ⟨w2.heap.size, 1, none⟩ = some (.int .i64 M) := by simp
  have z0 : w.heap.size < (w2.alloc (.cells #[.int .i64 W, .int .i64 M] 29)).heap.size := by simp; omega
  have z1 : w2.heap.size < (w2.alloc (.cells #[.int .i64 W, .int .i64 M] 29)).heap.size := by simp
  clear B1 B2 c0 c1 c2 s2
  generalize (w2.alloc (.cells #[.int .i64 W, .int .i64 M] 29)) = wr at *
  generalize w2.heap.size = Q at *
  have y0 : w.heap.size < wr.heap.size + 1 := by omega
  have y1 : Q < wr.heap.size + 1 := by omega
  have HBW := hid ((HBR.out.alloc HBR.out.size (.cells #[.int .i64 t.k, .int .i64 t.n, .slice sa sl sc] 25)).drew)
  refine wp_region_held_drew (S := (fun x => x.cell? ⟨w.heap.size, 0, none⟩ = some (.int .i64 t.k) ∧ x.cell? ⟨w.heap.size, 1, none⟩ = some (.int .i64 t.n) ∧ x.cell? ⟨w.heap.size, 2, none⟩ = some (.slice sa sl sc))) (by kernel_rfl) (by go_keep) (fun hHeld => ?_)
  refine wpAnyH_take (i := 0) (v := .agg #[.int .i64 t.k, .int .i64 t.n, .slice sa sl sc]) (op_at rfl) (by kernel_rfl) (by kernel_rfl) (by kernel_rfl) (fun _ _ _ h => h) (Or.inl ⟨by rfl, fun wX hSw => by go_simp⟩) (by assumption) ?_
  try simp only [Act.put, List.setIfInBounds_toArray, List.set_cons_zero, List.set_cons_succ]
  refine wpAnyH_ready (rs := [1]) (by kernel_rfl) (by simp) ?_
  refine AllReadyH.cons (op_at rfl) (fun K hK => ?_) AllReadyH.nil
  go_simp
  refine hK.out _ _ ?_ (fun hHeld => ?_)
  · go_keep
  clear hK K
  try simp only [Act.put, List.setIfInBounds_toArray, List.set_cons_zero, List.set_cons_succ]
  refine wpAnyH_ready (rs := [2]) (by kernel_rfl) (by simp) ?_
  refine AllReadyH.cons (op_at rfl) (fun K hK => ?_) AllReadyH.nil
  go_simp
  refine (VAL.out _ _ (HL.out.kept (.of_below HBW.out)) ?_ ?_ ?_).mono ?_
  · simp
  · simp
  · simp
  rintro e w3 ⟨rfl, hb3⟩
  have HB3 := hid (below_of HBW.out hb3)
  have z3 : wr.heap.size < w3.heap.size := by have := hb3.size; simp at this; omega
  have z4 : w.heap.size < w3.heap.size := by omega
  have hc3 := bcell hb3
  clear hb3
  refine hK.out _ _ ?_ (fun hHeld => ?_)
  · go_keep
  clear hK K
  try simp only [Act.put, List.setIfInBounds_toArray, List.set_cons_zero, List.set_cons_succ]
  refine wpAnyH_take (i := 3) (v := .bool true) (op_at rfl) (by kernel_rfl) (by kernel_rfl) (by kernel_rfl) (fun _ _ _ h => h) (Or.inl ⟨by rfl, fun wX hSw => by go_simp⟩) (by assumption) ?_
  try simp only [Act.put, List.setIfInBounds_toArray, List.set_cons_zero, List.set_cons_succ]
  refine wpAnyH_take (i := 4) (v := .bool true) (op_at rfl) (by kernel_rfl) (by kernel_rfl) (by kernel_rfl) (fun _ _ _ h => h) (Or.inl ⟨by rfl, fun wX hSw => by go_simp⟩) (by assumption) ?_
  try simp only [Act.put, List.setIfInBounds_toArray, List.set_cons_zero, List.set_cons_succ]
  refine wpAnyH_take (i := 5) (v := undef) (op_at rfl) (by kernel_rfl) (by kernel_rfl) (by kernel_rfl) (fun _ _ _ h => h) (Or.inr ⟨by rfl, rfl⟩) (by assumption) ?_
  try simp only [Act.put, List.setIfInBounds_toArray, List.set_cons_zero, List.set_cons_succ]
  refine wpAnyH_take (i := 6) (v := undef) (op_at rfl) (by kernel_rfl) (by kernel_rfl) (by kernel_rfl) (fun _ _ _ h => h) (Or.inr ⟨by rfl, rfl⟩) (by assumption) ?_
  try simp only [Act.put, List.setIfInBounds_toArray, List.set_cons_zero, List.set_cons_succ]
  refine wpAnyH_take (i := 7) (v := undef) (op_at rfl) (by kernel_rfl) (by kernel_rfl) (by kernel_rfl) (fun _ _ _ h => h) (Or.inr ⟨by rfl, rfl⟩) (by assumption) ?_
  try simp only [Act.put, List.setIfInBounds_toArray, List.set_cons_zero, List.set_cons_succ]
  refine wpAnyH_take (i := 8) (v := undef) (op_at rfl) (by kernel_rfl) (by kernel_rfl) (by kernel_rfl) (fun _ _ _ h => h) (Or.inr ⟨by rfl, rfl⟩) (by assumption) ?_
  try simp only [Act.put, List.setIfInBounds_toArray, List.set_cons_zero, List.set_cons_succ]
  refine wpAnyH_take (i := 9) (v := undef) (op_at rfl) (by kernel_rfl) (by kernel_rfl) (by kernel_rfl) (fun _ _ _ h => h) (Or.inr ⟨by rfl, rfl⟩) (by assumption) ?_
  try simp only [Act.put, List.setIfInBounds_toArray, List.set_cons_zero, List.set_cons_succ]
  refine wpAnyH_take (i := 10) (v := undef) (op_at rfl) (by kernel_rfl) (by kernel_rfl) (by kernel_rfl) (fun _ _ _ h => h) (Or.inr ⟨by rfl, rfl⟩) (by assumption) ?_
  try simp only [Act.put, List.setIfInBounds_toArray, List.set_cons_zero, List.set_cons_succ]
  refine wpAnyH_take (i := 11) (v := undef) (op_at rfl) (by kernel_rfl) (by kernel_rfl) (by kernel_rfl) (fun _ _ _ h => h) (Or.inr ⟨by rfl, rfl⟩) (by assumption) ?_
  try simp only [Act.put, List.setIfInBounds_toArray, List.set_cons_zero, List.set_cons_succ]
  refine wpAnyH_take (i := 12) (v := undef) (op_at rfl) (by kernel_rfl) (by kernel_rfl) (by kernel_rfl) (fun _ _ _ h => h) (Or.inr ⟨by rfl, rfl⟩) (by assumption) ?_
  try simp only [Act.put, List.setIfInBounds_toArray, List.set_cons_zero, List.set_cons_succ]
  refine wpAnyH_take (i := 13) (v := undef) (op_at rfl) (by kernel_rfl) (by kernel_rfl) (by kernel_rfl) (fun _ _ _ h => h) (Or.inr ⟨by rfl, rfl⟩) (by assumption) ?_
  try simp only [Act.put, List.setIfInBounds_toArray, List.set_cons_zero, List.set_cons_succ]
  refine wpAnyH_take (i := 14) (v := undef) (op_at rfl) (by kernel_rfl) (by kernel_rfl) (by kernel_rfl) (fun _ _ _ h => h) (Or.inr ⟨by rfl, rfl⟩) (by assumption) ?_
  try simp only [Act.put, List.setIfInBounds_toArray, List.set_cons_zero, List.set_cons_succ]
  refine wpAnyH_take (i := 15) (v := undef) (op_at rfl) (by kernel_rfl) (by kernel_rfl) (by kernel_rfl) (fun _ _ _ h => h) (Or.inr ⟨by rfl, rfl⟩) (by assumption) ?_
  try simp only [Act.put, List.setIfInBounds_toArray, List.set_cons_zero, List.set_cons_succ]
  refine wpAnyH_take (i := 16) (v := undef) (op_at rfl) (by kernel_rfl) (by kernel_rfl) (by kernel_rfl) (fun _ _ _ h => h) (Or.inr ⟨by rfl, rfl⟩) (by assumption) ?_
  try simp only [Act.put, List.setIfInBounds_toArray, List.set_cons_zero, List.set_cons_succ]
  refine wpAnyH_take (i := 17) (v := undef) (op_at rfl) (by kernel_rfl) (by kernel_rfl) (by kernel_rfl) (fun _ _ _ h => h) (Or.inr ⟨by rfl, rfl⟩) (by assumption) ?_
  try simp only [Act.put, List.setIfInBounds_toArray, List.set_cons_zero, List.set_cons_succ]
  refine wpAnyH_take (i := 18) (v := undef) (op_at rfl) (by kernel_rfl) (by kernel_rfl) (by kernel_rfl) (fun _ _ _ h => h) (Or.inr ⟨by rfl, rfl⟩) (by assumption) ?_
  try simp only [Act.put, List.setIfInBounds_toArray, List.set_cons_zero, List.set_cons_succ]
  refine wpAnyH_take (i := 19) (v := .bool true) (op_at rfl) (by kernel_rfl) (by kernel_rfl) (by kernel_rfl) (fun _ _ _ h => h) (Or.inl ⟨by rfl, fun wX hSw => by go_simp⟩) (by assumption) ?_
  try simp only [Act.put, List.setIfInBounds_toArray, List.set_cons_zero, List.set_cons_succ]
  refine wpAnyH_take (i := 20) (v := .bool true) (op_at rfl) (by kernel_rfl) (by kernel_rfl) (by kernel_rfl) (fun _ _ _ h => h) (Or.inl ⟨by rfl, fun wX hSw => by go_simp⟩) (by assumption) ?_
  try simp only [Act.put, List.setIfInBounds_toArray, List.set_cons_zero, List.set_cons_succ]
  refine wpAnyH_done (by kernel_rfl) ?_ _
  clear hc3 d0 d1 d2 d3 d4
  go_wp2
  go_ret
  exact ⟨by simp, HB3.out⟩
set_option maxHeartbeats 400000 in
theorem law10_unfit (k n : Int) (c : Bool) (a : Int) (sa : Option Addr) (sl sc : Nat) (w : World) (hsl : sl ≤ 9223372036854775807) (hfit : ¬ (sl : Int) ≤ 2147483647) :
    Calls Tryz.prog 10 #[.agg #[.int .i64 k, .int .i64 n, .slice sa sl sc], .bool c, .int .i64 a] w (LawPost w) := by
  have FIT : Hid (∀ x : World, Calls Tryz.prog 15 #[.agg #[.int .i64 k, .int .i64 n, .slice sa sl sc]] x (BoolPost false x)) := by
    intro x
    have := fits_any k n sa sl sc hsl x
    rwa [decide_eq_false hfit] at this
  clear hsl hfit
  have hb0 : Below w.heap.size w (w.alloc (Obj.cells #[Value.int IntKind.i64 k, Value.int IntKind.i64 n, Value.slice sa sl sc] 25)) := (Below.refl _ _).alloc (Nat.le_refl _) _
  go_enter Tryz.func10, Tryz.ntmps10
  go_wp2_with fail
  refine (FIT.out _).mono ?_
  rintro e w1 ⟨rfl, hb1⟩
  have B1 := hid (below_of hb0 hb1)
  clear hb1
  go_wp2_with fail
  go_ret
  exact ⟨rfl, B1.out⟩
theorem law10 (t : Pl.Ty) (c : Bool) (a : Int) (ha : Pl.in64 a) (sv : Value) (w : World) (ht : Tab w) (hl : Lie w t.es sv) (h64k : Pl.in64 t.k) (h64n : Pl.in64 t.n) :
    Calls Tryz.prog 10 #[.agg #[.int .i64 t.k, .int .i64 t.n, sv], .bool c, .int .i64 a] w (LawPost w) := by
  by_cases hfit : (t.es.length : Int) ≤ 2147483647
  · cases hv : Pl.valid t with
    | true => exact law10_valid t hv c a ha sv w ht hl hfit h64k h64n
    | false => exact law10_invalid t hv c a ha sv w ht hl hfit h64k h64n
  · have hlen := hl.len
    obtain ⟨sa, sc, rfl⟩ := hl.slice
    exact law10_unfit t.k t.n c a sa _ sc w (by unfold reach at hlen; omega) hfit
end Go.Proofs.YtphfjojdiilneaaGreatDoor
