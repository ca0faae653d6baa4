/- The walk of typ: a type of the package is made of a type that came in. -/
import Derived.Test.YtphfjojdiilneaaGreatDoorFld
import Derived.Deep.RegionHeld3
set_option linter.unusedVariables false
set_option linter.unusedSimpArgs false
namespace Go.Proofs.YtphfjojdiilneaaGreatDoor
open Go.RowKit

/-- One element that came in: its three cells. -/
theorem Lie.one {w : World} {es : List Pl.Ty} {v : Value} (h : Lie w es v) (i : Nat) (hi : i < es.length) :
    ∃ (b off cap sc : Nat) (sa : Option Addr), v = .slice (some ⟨b, off, none⟩) es.length cap ∧ es.length ≤ cap ∧ b < w.heap.size ∧ w.cell? ⟨b, off + i * 3, none⟩ = some (.int .i64 (es[i]).k) ∧ w.cell? ⟨b, off + i * 3 + 1, none⟩ = some (.int .i64 (es[i]).n) ∧
      w.cell? ⟨b, off + i * 3 + 2, none⟩ = some (.slice sa (es[i]).es.length sc) ∧ Pl.in64 (es[i]).k ∧ Pl.in64 (es[i]).n ∧ Lie w (es[i]).es (.slice sa (es[i]).es.length sc) := by
  cases h with
  | nil a cap => simp at hi
  | row b off cap es sv hc hr hk h64 hs =>
    obtain ⟨c0, c1, c2⟩ := hk i hi
    have hl := hs i hi
    obtain ⟨sa, sc, e⟩ := hl.slice
    rw [e] at hl c2
    exact ⟨b, off, cap, sc, sa, rfl, hc, World.block_lt_of_cell? _ _ c0, c0, c1, c2, (h64 i hi).1, (h64 i hi).2, hl⟩

set_option maxHeartbeats 400000 in
theorem typ_basic (n : Int) (es : List Pl.Ty) (h0 : 0 ≤ n) (h1 : n < 18) (sa : Option Addr) (sl sc : Nat) (w : World) :
    Calls Tryz.prog 30 #[.agg #[.int .i64 0, .int .i64 n, .slice sa sl sc]] w (TypPost (.mk 0 n es) w) := by
  have fin : ∀ (b : Nat) (o : Obj) (w' : World), w'.cell? ⟨b, 0, none⟩ = some (.int .i64 (n + 1)) → w'.cell? ⟨b, 1, none⟩ = some (.int .i64 (infoOf n)) → (w.alloc o).heap.size ≤ b → Below (w.alloc o).heap.size (w.alloc o) w' → TypPost (.mk 0 n es) w (.returned (.iface 78 (.pointer (some ⟨b, 0, none⟩)))) w' := by
    intro b o w' c0 c1 hb hbw
    simp only [World.size_alloc] at hb
    exact ⟨78, b, rfl, .basic n es b h0 h1 (memBut_at (show w.heap.size ≤ b by omega) (by simp) c0) (memBut_at (show w.heap.size ≤ b by omega) (by simp) c1), below_of ((Below.refl _ _).alloc (Nat.le_refl _) o) hbw⟩
  have F := hid fin
  clear fin
  go_enter Tryz.func30, Tryz.ntmps30
  go_wp2_with fail
  rw [Int.add_comm]
  refine (typ_any n h0 h1 _).mono ?_
  rintro e w2 ⟨b, rfl, hb, c0, c1, hbw⟩
  have FF := hid (F.out b _ w2 c0 c1 hb hbw)
  clear c0 c1 hbw hb
  go_wp2_with fail
  go_ret
  exact FF.out
set_option maxHeartbeats 400000 in
theorem typ_pointer (n : Int) (t : Pl.Ty) (HT : TypOk t) (sv : Value) (w : World) (hl : Lie w [t] sv) :
    Calls Tryz.prog 30 #[.agg #[.int .i64 1, .int .i64 n, sv]] w (TypPost (.mk 1 n [t]) w) := by
  obtain ⟨b, off, cap, sc, sa, rfl, hc, hb, c0, c1, c2, h64k, h64n, hl1⟩ := hl.one 0 (by simp)
  simp only [Nat.zero_mul, Nat.add_zero, List.getElem_cons_zero, List.length_singleton] at c0 c1 c2 hc h64k h64n hl1
  rw [List.length_singleton]
  have HL := hid hl1
  clear hl1 hl
  go_enter Tryz.func30, Tryz.ntmps30
  go_wp2_with fail
  have hb0 : Below w.heap.size w (w.alloc (Obj.cells #[Value.int IntKind.i64 1, Value.int IntKind.i64 n, Value.slice (some ⟨b, off, none⟩) 1 cap] 25)) := (Below.refl _ _).alloc (Nat.le_refl _) _
  refine (HT _ _ (HL.out.kept (.of_below hb0)) h64k h64n).mono ?_
  rintro e w2 ⟨T, b2, rfl, hrep, hb2⟩
  have HB := hid (below_of hb0 hb2)
  clear hrep hb2 hb0 c0 c1 c2
  go_wp2_with (go_at_call 46; refine (newPointer_any _ _ _).mono ?_; rintro e w3 ⟨rfl, rfl⟩)
  go_ret
  exact ⟨85, w2.heap.size, rfl, .word 1 n [t] 85 _ (by omega), HB.out.alloc HB.out.size _⟩
set_option maxHeartbeats 400000 in
theorem typ_slice (n : Int) (t : Pl.Ty) (HT : TypOk t) (sv : Value) (w : World) (hl : Lie w [t] sv) :
    Calls Tryz.prog 30 #[.agg #[.int .i64 2, .int .i64 n, sv]] w (TypPost (.mk 2 n [t]) w) := by
  obtain ⟨b, off, cap, sc, sa, rfl, hc, hb, c0, c1, c2, h64k, h64n, hl1⟩ := hl.one 0 (by simp)
  simp only [Nat.zero_mul, Nat.add_zero, List.getElem_cons_zero, List.length_singleton] at c0 c1 c2 hc h64k h64n hl1
  rw [List.length_singleton]
  have HL := hid hl1
  clear hl1 hl
  go_enter Tryz.func30, Tryz.ntmps30
  go_wp2_with fail
  have hb0 : Below w.heap.size w (w.alloc (Obj.cells #[Value.int IntKind.i64 2, Value.int IntKind.i64 n, Value.slice (some ⟨b, off, none⟩) 1 cap] 25)) := (Below.refl _ _).alloc (Nat.le_refl _) _
  refine (HT _ _ (HL.out.kept (.of_below hb0)) h64k h64n).mono ?_
  rintro e w2 ⟨T, b2, rfl, hrep, hb2⟩
  have HB := hid (below_of hb0 hb2)
  clear hrep hb2 hb0 c0 c1 c2
  go_wp2_with (go_at_call 47; refine (newSlice_any _ _ _).mono ?_; rintro e w3 ⟨rfl, rfl⟩)
  go_ret
  exact ⟨76, w2.heap.size, rfl, .slice n [t] _, HB.out.alloc HB.out.size _⟩
set_option maxHeartbeats 400000 in
theorem typ_chan (n : Int) (t : Pl.Ty) (HT : TypOk t) (sv : Value) (w : World) (hl : Lie w [t] sv) :
    Calls Tryz.prog 30 #[.agg #[.int .i64 5, .int .i64 n, sv]] w (TypPost (.mk 5 n [t]) w) := by
  obtain ⟨b, off, cap, sc, sa, rfl, hc, hb, c0, c1, c2, h64k, h64n, hl1⟩ := hl.one 0 (by simp)
  simp only [Nat.zero_mul, Nat.add_zero, List.getElem_cons_zero, List.length_singleton] at c0 c1 c2 hc h64k h64n hl1
  rw [List.length_singleton]
  have HL := hid hl1
  clear hl1 hl
  go_enter Tryz.func30, Tryz.ntmps30
  go_wp2_with fail
  have hb0 : Below w.heap.size w (w.alloc (Obj.cells #[Value.int IntKind.i64 5, Value.int IntKind.i64 n, Value.slice (some ⟨b, off, none⟩) 1 cap] 25)) := (Below.refl _ _).alloc (Nat.le_refl _) _
  refine (HT _ _ (HL.out.kept (.of_below hb0)) h64k h64n).mono ?_
  rintro e w2 ⟨T, b2, rfl, hrep, hb2⟩
  have HB := hid (below_of hb0 hb2)
  clear hrep hb2 hb0 c0 c1 c2
  go_wp2_with (go_at_call 50; refine (newChan_any _ _ _).mono ?_; rintro e w3 ⟨rfl, rfl⟩)
  go_ret
  exact ⟨91, w2.heap.size, rfl, .word 5 n [t] 91 _ (by omega), HB.out.alloc HB.out.size _⟩
set_option maxHeartbeats 400000 in
theorem typ_struct (n : Int) (es : List Pl.Ty) (hT : ∀ i (h : i < es.length), TypOk es[i]) (sv : Value) (w : World) (hl : Lie w es sv) :
    Calls Tryz.prog 30 #[.agg #[.int .i64 6, .int .i64 n, sv]] w (TypPost (.mk 6 n es) w) := by
  have hlen : es.length * 8 ≤ reach := by have := hl.len; omega
  obtain ⟨a, cap, rfl⟩ := hl.slice
  have HL := hid hl
  have HT := hid hT
  clear hl hT
  go_enter Tryz.func30, Tryz.ntmps30
  go_wp2_with fail
  have hb0 : Below w.heap.size w (w.alloc (Obj.cells #[Value.int IntKind.i64 6, Value.int IntKind.i64 n, Value.slice a es.length cap] 25)) := (Below.refl _ _).alloc (Nat.le_refl _) _
  refine (fields_of es HT _ _ (HL.out.kept (.of_below hb0))).mono ?_
  rintro e w2 ⟨a2, cap2, vb, Tb, bb, rfl, hnil, hsome, hf, hrep, hb2⟩
  have hbw : Below w.heap.size w w2 := below_of hb0 hb2
  simp only [World.size_alloc] at hf hrep
  have fin : ∀ (b : Nat) (a3 : Option Addr) (cap3 : Nat) (w3 : World), w2.heap.size ≤ b → w3.cell? ⟨b, 0, none⟩ = some (.slice a3 es.length cap3) → (es.length = 0 ∨ a3 = a2) → Below w2.heap.size w2 w3 → TypPost (.mk 6 n es) w (.returned (.iface 63 (.pointer (some ⟨b, 0, none⟩)))) w3 := by
    intro b a3 cap3 w3 hb hc ha hb3
    have sub : Sub (memBut (w.heap.size + 1) none w2) (memBut w.heap.size none w3) := memBut_mono (by omega) fun j _ hj _ => ⟨by simp, hb3.block j hj⟩
    have hs := hbw.size
    refine ⟨63, b, rfl, .struct n es b a3 cap3 vb Tb bb hlen (memBut_at (show w.heap.size ≤ b by omega) (by simp) hc) ?_ fun i h => (hrep i h).sub sub, below_of hbw hb3⟩
    rcases ha with h0 | rfl
    · intro i hi; omega
    · exact hf.sub sub
  have F := hid fin
  have hfw : FieldCells w2.cell? es.length a2 vb Tb bb := hf.sub (memBut_sub _ _ _)
  have FW := hid hfw
  clear fin hfw hf hrep hbw hb2 hb0
  cases a2 with
  | none =>
    obtain ⟨rfl, h0⟩ := hnil rfl
    have h0' := hid h0
    clear hnil hsome
    rw [h0]
    rw [h0] at F
    clear h0
    go_wp2_with fail
    refine (newStruct_nil _).mono ?_
    rintro e w3 ⟨b, a3, cap3, rfl, hb, hc, _, hb3⟩
    have FF := hid (F.out b a3 cap3 w3 hb hc (by simp) hb3)
    clear hb hc hb3
    go_wp2_with fail
    go_ret
    exact FF.out
  | some x =>
    obtain ⟨g, o, sp⟩ := x
    obtain ⟨ho, hsp⟩ := hsome _ rfl
    simp only at ho hsp
    subst ho hsp
    go_wp2_with fail
    refine (newStruct_some es.length g cap2 vb Tb bb _ hlen FW.out).mono ?_
    rintro e w3 ⟨b, a3, cap3, rfl, hb, hc, ha, hb3⟩
    have FF := hid (F.out b a3 cap3 w3 hb hc ha hb3)
    clear hb hc hb3 ha
    go_wp2_with fail
    go_ret
    exact FF.out
theorem bcell {W w1 : World} (hb : Below W.heap.size W w1) : ∀ b o, b < W.heap.size → w1.cell? ⟨b, o, none⟩ = W.cell? ⟨b, o, none⟩ :=
  fun b o h => hb.cell (p := ⟨b, o, none⟩) h

set_option maxHeartbeats 400000 in
theorem typ_array (n : Int) (h0 : 0 ≤ n) (h1 : n ≤ 9223372036854775807) (t : Pl.Ty) (HT : TypOk t) (sv : Value) (w : World) (hl : Lie w [t] sv) :
    Calls Tryz.prog 30 #[.agg #[.int .i64 3, .int .i64 n, sv]] w (TypPost (.mk 3 n [t]) w) := by
  obtain ⟨b, off, cap, sc, sa, rfl, hc, hb, c0, c1, c2, h64k, h64n, hl1⟩ := hl.one 0 (by simp)
  simp only [Nat.zero_mul, Nat.add_zero, List.getElem_cons_zero, List.length_singleton] at c0 c1 c2 hc h64k h64n hl1
  rw [List.length_singleton]
  have HL := hid hl1
  clear hl1 hl
  go_enter Tryz.func30, Tryz.ntmps30
  go_wp2_with fail
  have hb0 : Below w.heap.size w ((w.alloc (Obj.cells #[Value.int IntKind.i64 3, Value.int IntKind.i64 n, Value.slice (some ⟨b, off, none⟩) 1 cap] 25)).drew) := ((Below.refl _ _).alloc (Nat.le_refl _) _).drew
  have hbs : b < w.heap.size + 1 := by omega
  go_region_held3 (fun w' => w'.cell? ⟨w.heap.size, 1, none⟩ = some (.int .i64 n) ∧ w'.cell? ⟨w.heap.size, 2, none⟩ = some (.slice (some ⟨b, off, none⟩) 1 cap) ∧ w'.cell? ⟨b, off, none⟩ = some (.int .i64 t.k) ∧ w'.cell? ⟨b, off + 1, none⟩ = some (.int .i64 t.n) ∧ w'.cell? ⟨b, off + 2, none⟩ = some (.slice sa t.es.length sc))
    (first | go_keep)
    (first
      | (go_at_call 30; refine (HT _ _ (HL.out.kept (.of_below hb0)) h64k h64n).mono ?_; rintro e w2 ⟨T, b2, rfl, hrep, hb2⟩
         have FIN := hid (And.intro hrep (below_of hb0 hb2))
         have hs2 : w.heap.size < w2.heap.size := by (have := hb2.size; simp at this; omega)
         have hc2 := bcell hb2
         clear hb2 hrep)
      | (go_at_call 48; refine (newArray_any _ _ _ _).mono ?_; rintro e w3 ⟨rfl, rfl⟩))
  clear hc2 c0 c1 c2
  have S2 := FIN.out.2.size
  have POST : Hid (TypPost (.mk 3 n [t]) w (.returned (.iface 60 (.pointer (some ⟨w2.heap.size, 0, none⟩)))) (w2.alloc (Obj.cells #[Value.int IntKind.i64 n, Value.iface T (.pointer (some ⟨b2, 0, none⟩))] 62))) := by
    have at3 : ∀ (o : Nat) (u : Value), (#[Value.int IntKind.i64 n, Value.iface T (.pointer (some ⟨b2, 0, none⟩))] : Array Value)[o]? = some u →
        memBut w.heap.size none (w2.alloc (Obj.cells #[Value.int IntKind.i64 n, Value.iface T (.pointer (some ⟨b2, 0, none⟩))] 62)) ⟨w2.heap.size, o, none⟩ = some u := by
      intro o u hu
      refine memBut_at (by show w.heap.size ≤ w2.heap.size; omega) (by simp) ?_
      rw [World.cell?_alloc_at (hn := rfl)]
      exact hu
    have sub : Sub (memBut (w.heap.size + 1) none w2) (memBut w.heap.size none (w2.alloc (Obj.cells #[Value.int IntKind.i64 n, Value.iface T (.pointer (some ⟨b2, 0, none⟩))] 62))) :=
      memBut_mono (by omega) fun j _ hj _ => ⟨by simp, Below.heap_alloc _ _ _ hj⟩
    exact ⟨60, w2.heap.size, rfl, .array n t _ T b2 h0 h1 (at3 0 _ rfl) (at3 1 _ rfl) ((by simpa using FIN.out.1 : Rep (memBut (w.heap.size + 1) none w2) t T b2).sub sub), FIN.out.2.alloc S2 _⟩
  clear FIN
  go_wp2
  go_ret
  exact POST.out

set_option maxHeartbeats 800000 in
theorem typ_map (n : Int) (t u : Pl.Ty) (HT : TypOk t) (HU : TypOk u) (sv : Value) (w : World) (hl : Lie w [t, u] sv) :
    Calls Tryz.prog 30 #[.agg #[.int .i64 4, .int .i64 n, sv]] w (TypPost (.mk 4 n [t, u]) w) := by
  obtain ⟨b, off, cap, sc, sa, rfl, hc, hb, c0, c1, c2, h64k, h64n, hl1⟩ := hl.one 0 (by simp)
  obtain ⟨b', off', cap', sc', sa', he, _, _, c3, c4, c5, g64k, g64n, gl1⟩ := hl.one 1 (by simp)
  simp only [Value.slice.injEq, Option.some.injEq, Addr.mk.injEq, and_true, true_and] at he
  obtain ⟨⟨rfl, rfl⟩, rfl⟩ := he
  simp only [Nat.zero_mul, Nat.one_mul, Nat.add_zero, List.getElem_cons_zero, List.getElem_cons_succ, List.length_cons, List.length_nil, Nat.zero_add, Nat.reduceAdd] at c0 c1 c2 c3 c4 c5 hc h64k h64n hl1 g64k g64n gl1
  simp only [List.length_cons, List.length_nil, Nat.zero_add, Nat.reduceAdd]
  have HL := hid hl1
  have GL := hid gl1
  clear hl1 hl gl1
  go_enter Tryz.func30, Tryz.ntmps30
  go_wp2_with fail
  have hb0 : Below w.heap.size w ((w.alloc (Obj.cells #[Value.int IntKind.i64 4, Value.int IntKind.i64 n, Value.slice (some ⟨b, off, none⟩) 2 cap] 25)).drew) := ((Below.refl _ _).alloc (Nat.le_refl _) _).drew
  have hbs : b < w.heap.size + 1 := by omega
  go_region_held3 (fun w' => w'.cell? ⟨w.heap.size, 2, none⟩ = some (.slice (some ⟨b, off, none⟩) 2 cap) ∧ w'.cell? ⟨b, off, none⟩ = some (.int .i64 t.k) ∧ w'.cell? ⟨b, off + 1, none⟩ = some (.int .i64 t.n) ∧ w'.cell? ⟨b, off + 2, none⟩ = some (.slice sa t.es.length sc) ∧
      w'.cell? ⟨b, off + 3, none⟩ = some (.int .i64 u.k) ∧ w'.cell? ⟨b, off + 3 + 1, none⟩ = some (.int .i64 u.n) ∧ w'.cell? ⟨b, off + 3 + 2, none⟩ = some (.slice sa' u.es.length sc'))
    (first | go_keep)
    (first
      | (go_at_call_of 30 t; refine (HT _ _ (HL.out.kept (.of_below hb0)) h64k h64n).mono ?_; rintro e w2 ⟨T, b2, rfl, hrep, hb2⟩
         have FIN := hid (below_of hb0 hb2)
         have hs2 : w.heap.size < w2.heap.size := by (have := hb2.size; simp at this; omega)
         have hc2 := bcell hb2
         clear hb2 hrep)
      | (go_at_call_of 30 u; refine (HU _ _ (GL.out.kept (.of_below FIN.out)) g64k g64n).mono ?_; rintro e w3 ⟨U, b3, rfl, hrep3, hb3⟩
         have FIN3 := hid (below_of FIN.out hb3)
         have hs3 : w2.heap.size ≤ w3.heap.size := hb3.size
         have hs4 : w.heap.size < w3.heap.size := by omega
         have hbs2 : b < w2.heap.size := by omega
         have hc3 := bcell hb3
         clear hb3 hrep3)
      | (go_at_call 49; refine (newMap_any _ _ _ _ _).mono ?_; rintro e w4 ⟨rfl, rfl⟩))
  clear hc2 hc3 c0 c1 c2 c3 c4 c5
  go_wp2
  go_ret
  exact ⟨89, w3.heap.size, rfl, .word 4 n [t, u] 89 _ (by omega), FIN3.out.alloc FIN3.out.size _⟩

theorem typ_ok : ∀ (d : Nat) (t : Pl.Ty), Pl.depth t ≤ d → Pl.valid t = true → TypOk t := by
  intro d
  induction d with
  | zero => intro t h; cases t; simp [Pl.depth] at h
  | succ d ih =>
    intro t h hv sv w hl h64k h64n
    cases t with
    | mk k n es =>
      simp only [Pl.depth] at h
      simp only [Pl.valid, Bool.and_eq_true, decide_eq_true_eq] at hv
      obtain ⟨⟨⟨⟨⟨hk0, hk6⟩, hneed⟩, hkb⟩, hka⟩, hvl⟩ := hv
      have hT : ∀ i (h : i < es.length), TypOk es[i] := fun i hi => ih _ (by have := Pl.depth_mem (List.getElem_mem hi); omega) ((Pl.validL_iff es).1 hvl _ (List.getElem_mem hi))
      simp only [Pl.Ty.k, Pl.Ty.n, Pl.Ty.es] at hl h64k h64n ⊢
      have one : k ≠ 0 → k ≠ 4 → k ≠ 6 → ∃ t, es = [t] := by
        intro a b c
        simp only [Pl.need, if_neg a, if_neg b, if_neg c] at hneed
        exact List.length_eq_one_iff.1 hneed
      rcases (show k = 0 ∨ k = 1 ∨ k = 2 ∨ k = 3 ∨ k = 4 ∨ k = 5 ∨ k = 6 by omega) with rfl | rfl | rfl | rfl | rfl | rfl | rfl
      · obtain ⟨a, cap, rfl⟩ := hl.slice
        exact typ_basic n es (hkb rfl).1 (hkb rfl).2 _ _ _ w
      · obtain ⟨t, rfl⟩ := one (by omega) (by omega) (by omega)
        exact typ_pointer n t (hT 0 (by simp)) sv w hl
      · obtain ⟨t, rfl⟩ := one (by omega) (by omega) (by omega)
        exact typ_slice n t (hT 0 (by simp)) sv w hl
      · obtain ⟨t, rfl⟩ := one (by omega) (by omega) (by omega)
        exact typ_array n (hka rfl) h64n.2 t (hT 0 (by simp)) sv w hl
      · have h2 : es.length = 2 := hneed
        obtain ⟨t, u, rfl⟩ : ∃ t u, es = [t, u] := by
          match es, h2 with
          | [a, b], _ => exact ⟨a, b, rfl⟩
        exact typ_map n t u (hT 0 (by simp)) (hT 1 (by simp)) sv w hl
      · obtain ⟨t, rfl⟩ := one (by omega) (by omega) (by omega)
        exact typ_chan n t (hT 0 (by simp)) sv w hl
      · exact typ_struct n es hT sv w hl
theorem typ_valid (t : Pl.Ty) (hv : Pl.valid t = true) : TypOk t := typ_ok _ t (Nat.le_refl _) hv
theorem fields_valid (es : List Pl.Ty) (hv : Pl.validL es = true) (v : Value) (w : World) (hl : Lie w es v) : Calls Tryz.prog 38 #[v] w (FldPost es w) :=
  fields_of es (fun i hi => typ_valid _ ((Pl.validL_iff es).1 hv _ (List.getElem_mem hi))) v w hl
end Go.Proofs.YtphfjojdiilneaaGreatDoor
