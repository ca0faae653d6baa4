/- The walk of the reference's Align: the alignment of a type. -/
import Derived.Test.YtphfjojdiilneaaGreatDoorAlo
import Derived.Test.YtphfjojdiilneaaGreatDoorSpc
set_option linter.unusedVariables false
set_option linter.unusedSimpArgs false
namespace Go.Proofs.YtphfjojdiilneaaGreatDoor
open Go.RowKit

/-- The reference's Align at one type. -/
def SalOk (t : Pl.Ty) : Prop := ∀ (sv : Value) (W M : Int) (w : World), Pl.okW W → Pl.okM M → Lie w t.es sv → Calls Tryz.prog 21 #[.agg #[.int .i64 W, .int .i64 M], .agg #[.int .i64 t.k, .int .i64 t.n, sv]] w (IntPost (Pl.al W M t) w)

set_option maxHeartbeats 1000000 in
theorem sal_word (k n W M : Int) (okW : Pl.okW W) (okM : Pl.okM M) (h0 : k ≠ 0) (h2 : k ≠ 2) (h3 : k ≠ 3) (h6 : k ≠ 6) (sa : Option Addr) (sl sc : Nat) (w : World) :
    Calls Tryz.prog 21 #[.agg #[.int .i64 W, .int .i64 M], .agg #[.int .i64 k, .int .i64 n, .slice sa sl sc]] w (IntPost (min W M) w) := by
  have hb : 4 ≤ W ∧ W ≤ 8 ∧ 1 ≤ M ∧ M ≤ 16 := by unfold Pl.okW at okW; unfold Pl.okM at okM; omega
  obtain ⟨hb1, hb2, hb3, hb4⟩ := hb
  have e0 : (k == 0) = false := by simpa using h0
  have e2 : (k == 2) = false := by simpa using h2
  have e3 : (k == 3) = false := by simpa using h3
  have e6 : (k == 6) = false := by simpa using h6
  clear h0 h2 h3 h6 okW okM
  go_enter Tryz.func21, Tryz.ntmps21
  go_wp2_with fail
  all_goals go_ret
  all_goals exact ⟨ret_int (by first | rfl | omega), ((Below.refl _ _).alloc (Nat.le_refl _) _).alloc (by simp) _⟩
set_option maxHeartbeats 1000000 in
theorem sal_slice (n W M : Int) (sa : Option Addr) (sl sc : Nat) (w : World) :
    Calls Tryz.prog 21 #[.agg #[.int .i64 W, .int .i64 M], .agg #[.int .i64 2, .int .i64 n, .slice sa sl sc]] w (IntPost W w) := by
  go_enter Tryz.func21, Tryz.ntmps21
  go_wp2_with fail
  go_ret
  exact ⟨rfl, ((Below.refl _ _).alloc (Nat.le_refl _) _).alloc (by simp) _⟩
set_option maxHeartbeats 2000000 in
theorem sal_basic_str (n W M : Int) (okW : Pl.okW W) (okM : Pl.okM M) (hn : n = 16) (sa : Option Addr) (sl sc : Nat) (w : World) :
    Calls Tryz.prog 21 #[.agg #[.int .i64 W, .int .i64 M], .agg #[.int .i64 0, .int .i64 n, .slice sa sl sc]] w (IntPost (W) w) := by
  subst hn
  have hb : 4 ≤ W ∧ W ≤ 8 ∧ 1 ≤ M ∧ M ≤ 16 := by unfold Pl.okW at okW; unfold Pl.okM at okM; omega
  obtain ⟨hb1, hb2, hb3, hb4⟩ := hb
  have HB0 : Hid (Below w.heap.size w ((w.alloc (Obj.cells #[Value.int IntKind.i64 W, Value.int IntKind.i64 M] 29)).alloc (Obj.cells #[Value.int IntKind.i64 0, Value.int IntKind.i64 16, Value.slice sa sl sc] 25))) := ((Below.refl _ _).alloc (Nat.le_refl _) _).alloc (by simp) _
  have bs := Pl.basicSize_ok okW 16
  obtain ⟨bs1, bs2⟩ := bs
  have BA : Hid (∀ (x : World), Calls Tryz.prog 32 #[.agg #[.int .i64 W, .int .i64 M], .int .i64 16] x (IntPost (Pl.basicSize W 16) x)) := fun x => basic_any W M _ okW x
  clear okW okM
  generalize Pl.basicSize W 16 = S at *
  go_enter Tryz.func21, Tryz.ntmps21
  go_wp2_with fail
  refine (BA.out _).mono ?_
  rintro e w3 ⟨rfl, hb4⟩
  have HB4 := hid (below_of HB0.out hb4)
  have r0 : w3.cell? ⟨w.heap.size, 0, none⟩ = some (.int .i64 W) := by rw [bcell hb4 _ _ (by simp; omega)]; simp
  have r1 : w3.cell? ⟨w.heap.size, 1, none⟩ = some (.int .i64 M) := by rw [bcell hb4 _ _ (by simp; omega)]; simp
  have t0 : w3.cell? ⟨w.heap.size + 1, 0, none⟩ = some (.int .i64 0) := by rw [bcell hb4 _ _ (by simp)]; simp [World.cell?_alloc_at]
  have t1 : w3.cell? ⟨w.heap.size + 1, 1, none⟩ = some (.int .i64 16) := by rw [bcell hb4 _ _ (by simp)]; simp [World.cell?_alloc_at]
  have t2 : w3.cell? ⟨w.heap.size + 1, 2, none⟩ = some (.slice sa sl sc) := by rw [bcell hb4 _ _ (by simp)]; simp [World.cell?_alloc_at]
  have r3 : w.heap.size + 1 < w3.heap.size := by have := hb4.size; simp at this; omega
  have r2 : w.heap.size < w3.heap.size := by omega
  clear hb4
  go_wp2_with fail
  all_goals go_ret
  all_goals exact ⟨ret_int (by first | rfl | omega), HB4.out⟩
set_option maxHeartbeats 2000000 in
theorem sal_basic_cx (n W M : Int) (okW : Pl.okW W) (okM : Pl.okM M) (hn : n = 14 ∨ n = 15) (sa : Option Addr) (sl sc : Nat) (w : World) :
    Calls Tryz.prog 21 #[.agg #[.int .i64 W, .int .i64 M], .agg #[.int .i64 0, .int .i64 n, .slice sa sl sc]] w (IntPost (min (Pl.basicSize W n / 2) M) w) := by
  have e16 : (n == 16) = false := by rw [beq_eq_false_iff_ne]; omega
  have hb : 4 ≤ W ∧ W ≤ 8 ∧ 1 ≤ M ∧ M ≤ 16 := by unfold Pl.okW at okW; unfold Pl.okM at okM; omega
  obtain ⟨hb1, hb2, hb3, hb4⟩ := hb
  have HB0 : Hid (Below w.heap.size w ((w.alloc (Obj.cells #[Value.int IntKind.i64 W, Value.int IntKind.i64 M] 29)).alloc (Obj.cells #[Value.int IntKind.i64 0, Value.int IntKind.i64 n, Value.slice sa sl sc] 25))) := ((Below.refl _ _).alloc (Nat.le_refl _) _).alloc (by simp) _
  have bs := Pl.basicSize_ok okW n
  obtain ⟨bs1, bs2⟩ := bs
  have BA : Hid (∀ (x : World), Calls Tryz.prog 32 #[.agg #[.int .i64 W, .int .i64 M], .int .i64 n] x (IntPost (Pl.basicSize W n) x)) := fun x => basic_any W M _ okW x
  clear okW okM
  generalize Pl.basicSize W n = S at *
  go_enter Tryz.func21, Tryz.ntmps21
  go_wp2_with fail
  refine (BA.out _).mono ?_
  rintro e w3 ⟨rfl, hb4⟩
  have HB4 := hid (below_of HB0.out hb4)
  have r0 : w3.cell? ⟨w.heap.size, 0, none⟩ = some (.int .i64 W) := by rw [bcell hb4 _ _ (by simp; omega)]; simp
  have r1 : w3.cell? ⟨w.heap.size, 1, none⟩ = some (.int .i64 M) := by rw [bcell hb4 _ _ (by simp; omega)]; simp
  have t0 : w3.cell? ⟨w.heap.size + 1, 0, none⟩ = some (.int .i64 0) := by rw [bcell hb4 _ _ (by simp)]; simp [World.cell?_alloc_at]
  have t1 : w3.cell? ⟨w.heap.size + 1, 1, none⟩ = some (.int .i64 n) := by rw [bcell hb4 _ _ (by simp)]; simp [World.cell?_alloc_at]
  have t2 : w3.cell? ⟨w.heap.size + 1, 2, none⟩ = some (.slice sa sl sc) := by rw [bcell hb4 _ _ (by simp)]; simp [World.cell?_alloc_at]
  have r3 : w.heap.size + 1 < w3.heap.size := by have := hb4.size; simp at this; omega
  have r2 : w.heap.size < w3.heap.size := by omega
  clear hb4
  go_wp2_with fail
  refine (isCx_14 _ hn _ _ _ _).mono ?_
  rintro e w4 ⟨rfl, hb5⟩
  have HB5 := hid (below_of HB4.out hb5)
  have q0 := (bcell hb5 w.heap.size 0 r2).trans r0
  have q1 := (bcell hb5 w.heap.size 1 r2).trans r1
  have q2 : w.heap.size + 1 < w4.heap.size := Nat.lt_of_lt_of_le r3 hb5.size
  clear hb5 r0 r1 r2 r3 t0 t1 t2 hn
  go_wp2_with fail
  all_goals go_ret
  all_goals exact ⟨ret_int (by first | rfl | omega), HB5.out⟩
set_option maxHeartbeats 2000000 in
theorem sal_basic_no (n W M : Int) (okW : Pl.okW W) (okM : Pl.okM M) (hn : n ≠ 14 ∧ n ≠ 15 ∧ n ≠ 16) (sa : Option Addr) (sl sc : Nat) (w : World) :
    Calls Tryz.prog 21 #[.agg #[.int .i64 W, .int .i64 M], .agg #[.int .i64 0, .int .i64 n, .slice sa sl sc]] w (IntPost (min (Pl.basicSize W n) M) w) := by
  have e16 : (n == 16) = false := by rw [beq_eq_false_iff_ne]; omega
  have hb : 4 ≤ W ∧ W ≤ 8 ∧ 1 ≤ M ∧ M ≤ 16 := by unfold Pl.okW at okW; unfold Pl.okM at okM; omega
  obtain ⟨hb1, hb2, hb3, hb4⟩ := hb
  have HB0 : Hid (Below w.heap.size w ((w.alloc (Obj.cells #[Value.int IntKind.i64 W, Value.int IntKind.i64 M] 29)).alloc (Obj.cells #[Value.int IntKind.i64 0, Value.int IntKind.i64 n, Value.slice sa sl sc] 25))) := ((Below.refl _ _).alloc (Nat.le_refl _) _).alloc (by simp) _
  have bs := Pl.basicSize_ok okW n
  obtain ⟨bs1, bs2⟩ := bs
  have BA : Hid (∀ (x : World), Calls Tryz.prog 32 #[.agg #[.int .i64 W, .int .i64 M], .int .i64 n] x (IntPost (Pl.basicSize W n) x)) := fun x => basic_any W M _ okW x
  clear okW okM
  generalize Pl.basicSize W n = S at *
  go_enter Tryz.func21, Tryz.ntmps21
  go_wp2_with fail
  refine (BA.out _).mono ?_
  rintro e w3 ⟨rfl, hb4⟩
  have HB4 := hid (below_of HB0.out hb4)
  have r0 : w3.cell? ⟨w.heap.size, 0, none⟩ = some (.int .i64 W) := by rw [bcell hb4 _ _ (by simp; omega)]; simp
  have r1 : w3.cell? ⟨w.heap.size, 1, none⟩ = some (.int .i64 M) := by rw [bcell hb4 _ _ (by simp; omega)]; simp
  have t0 : w3.cell? ⟨w.heap.size + 1, 0, none⟩ = some (.int .i64 0) := by rw [bcell hb4 _ _ (by simp)]; simp [World.cell?_alloc_at]
  have t1 : w3.cell? ⟨w.heap.size + 1, 1, none⟩ = some (.int .i64 n) := by rw [bcell hb4 _ _ (by simp)]; simp [World.cell?_alloc_at]
  have t2 : w3.cell? ⟨w.heap.size + 1, 2, none⟩ = some (.slice sa sl sc) := by rw [bcell hb4 _ _ (by simp)]; simp [World.cell?_alloc_at]
  have r3 : w.heap.size + 1 < w3.heap.size := by have := hb4.size; simp at this; omega
  have r2 : w.heap.size < w3.heap.size := by omega
  clear hb4
  go_wp2_with fail
  refine (isCx_0 _ hn.1 hn.2.1 _ _ _ _).mono ?_
  rintro e w4 ⟨rfl, hb5⟩
  have HB5 := hid (below_of HB4.out hb5)
  have q0 := (bcell hb5 w.heap.size 0 r2).trans r0
  have q1 := (bcell hb5 w.heap.size 1 r2).trans r1
  have q2 : w.heap.size + 1 < w4.heap.size := Nat.lt_of_lt_of_le r3 hb5.size
  clear hb5 r0 r1 r2 r3 t0 t1 t2 hn
  go_wp2_with fail
  all_goals go_ret
  all_goals exact ⟨ret_int (by first | rfl | omega), HB5.out⟩

theorem sal_basic (n W M : Int) (okW : Pl.okW W) (okM : Pl.okM M) (sa : Option Addr) (sl sc : Nat) (w : World) :
    Calls Tryz.prog 21 #[.agg #[.int .i64 W, .int .i64 M], .agg #[.int .i64 0, .int .i64 n, .slice sa sl sc]] w (IntPost (if n = 16 then W else min (if n = 14 ∨ n = 15 then Pl.basicSize W n / 2 else Pl.basicSize W n) M) w) := by
  by_cases h16 : n = 16
  · rw [if_pos h16]; exact sal_basic_str n W M okW okM h16 sa sl sc w
  · rw [if_neg h16]
    by_cases h : n = 14 ∨ n = 15
    · rw [if_pos h]; exact sal_basic_cx n W M okW okM h sa sl sc w
    · rw [if_neg h]; exact sal_basic_no n W M okW okM (by omega) sa sl sc w

/-- What holds in Align's loop behind k rounds. -/
def SalInv (w : World) (W M : Int) (es : List Pl.Ty) (k : Nat) (x : Int) (wr : World) : Prop :=
  x = Pl.maxs 1 ((Pl.alL W M es).take k) ∧ Pl.isAl x ∧ Below w.heap.size w wr ∧ w.heap.size < wr.heap.size ∧ wr.cell? ⟨w.heap.size, 0, none⟩ = some (.int .i64 W) ∧ wr.cell? ⟨w.heap.size, 1, none⟩ = some (.int .i64 M)
theorem SalInv.start (w : World) (W M : Int) (es : List Pl.Ty) (t : TypeId) (o : Obj) : SalInv w W M es 0 1 ((w.alloc (.cells #[.int .i64 W, .int .i64 M] t)).alloc o) :=
  ⟨rfl, .inl rfl, ((Below.refl _ _).alloc (Nat.le_refl _) _).alloc (by simp) _, by simp; omega, by rw [World.cell?_alloc_lt _ _ _ (by simp), World.cell?_alloc_at (hn := rfl)]; rfl, by rw [World.cell?_alloc_lt _ _ _ (by simp), World.cell?_alloc_at (hn := rfl)]; rfl⟩
theorem SalInv.step {w : World} {W M : Int} {es : List Pl.Ty} {k : Nat} {x : Int} {wr w2 : World} (okW : Pl.okW W) (okM : Pl.okM M) (hk : k < es.length) (h : SalInv w W M es k x wr) (hb : Below wr.heap.size wr w2) :
    SalInv w W M es (k + 1) (max x (Pl.al W M es[k])) w2 := by
  obtain ⟨rfl, h1, h2, h3, h4, h5⟩ := h
  have e : Pl.maxs 1 ((Pl.alL W M es).take (k + 1)) = max (Pl.maxs 1 ((Pl.alL W M es).take k)) (Pl.al W M es[k]) := by
    rw [Pl.alL_map, take_next _ k (by simpa using hk), maxs_snoc]
    simp
  have hal := Pl.al_isAl okW okM es[k]
  have := hb.size
  refine ⟨e.symm, ?_, below_of h2 hb, by omega, (bcell hb _ _ h3).trans h4, (bcell hb _ _ h3).trans h5⟩
  rcases Int.le_total (Pl.maxs 1 ((Pl.alL W M es).take k)) (Pl.al W M es[k]) with h | h
  · rw [Int.max_eq_right h]; exact hal
  · rw [Int.max_eq_left h]; exact h1

set_option maxHeartbeats 1000000 in
theorem sal_arr_nil (n W M : Int) (sa : Option Addr) (sc : Nat) (w : World) :
    Calls Tryz.prog 21 #[.agg #[.int .i64 W, .int .i64 M], .agg #[.int .i64 3, .int .i64 n, .slice sa 0 sc]] w (IntPost 1 w) := by
  go_enter Tryz.func21, Tryz.ntmps21
  go_wp2_with fail
  go_loop [5, 17] (fun x i => i = .int .i64 0 ∧ x = .int .i64 1) (fun _ _ => 0)
  case atStart => exact ⟨rfl, rfl⟩
  case round =>
    obtain ⟨rfl, rfl⟩ := hrel
    go_wp2_with fail
    go_ret
    exact ⟨rfl, ((Below.refl _ _).alloc (Nat.le_refl _) _).alloc (by simp) _⟩
set_option maxRecDepth 100000 in
set_option maxHeartbeats 2000000 in
theorem sal_arr_row (n W M : Int) (okW : Pl.okW W) (okM : Pl.okM M) (es : List Pl.Ty) (hT : ∀ i (h : i < es.length), SalOk es[i]) (b off cap : Nat) (sv : Nat → Value) (w : World) (hc : es.length ≤ cap) (hr : es.length * 40 ≤ reach)
    (hk : ∀ i (h : i < es.length), w.cell? ⟨b, off + i * 3, none⟩ = some (.int .i64 (es[i]).k) ∧ w.cell? ⟨b, off + i * 3 + 1, none⟩ = some (.int .i64 (es[i]).n) ∧ w.cell? ⟨b, off + i * 3 + 2, none⟩ = some (sv i))
    (hs : ∀ i (h : i < es.length), Lie w (es[i]).es (sv i)) :
    Calls Tryz.prog 21 #[.agg #[.int .i64 W, .int .i64 M], .agg #[.int .i64 3, .int .i64 n, .slice (some ⟨b, off, none⟩) es.length cap]] w (IntPost (Pl.maxs 1 (Pl.alL W M es)) w) := by
  unfold reach at hr
  have HK := hid hk
  have HS := hid hs
  have HT := hid hT
  have START := hid (fun o => SalInv.start w W M es 29 o)
  have STEP : Hid (∀ (k : Nat) (x : Int) (wr w2 : World) (hk : k < es.length), SalInv w W M es k x wr → Below wr.heap.size wr w2 → SalInv w W M es (k + 1) (max x (Pl.al W M es[k])) w2) :=
    fun k x wr w2 hk h hb => h.step okW okM hk hb
  have OKW := hid okW
  have OKM := hid okM
  clear hk hs hT okW okM
  go_enter Tryz.func21, Tryz.ntmps21
  go_wp2_with fail
  go_loopw [5, 17] (fun x i wr => ∃ (k : Nat) (y : Int), k ≤ es.length ∧ i = .int .i64 k ∧ x = .int .i64 y ∧ SalInv w W M es k y wr) (fun _ i _ => es.length - (intOf i).toNat)
  case atStart => exact ⟨0, 1, Nat.zero_le _, rfl, rfl, START.out _⟩
  case round =>
    obtain ⟨i, y, hi, rfl, rfl, hinv⟩ := hrel
    by_cases hlt : i < es.length
    · obtain ⟨c0, c1, c2⟩ := HK.out i hlt
      have lie := HS.out i hlt
      obtain ⟨sa, sc, hsv⟩ := lie.slice
      rw [hsv] at c2 lie
      have hbw := hinv.2.2.1
      have hbl : b < w.heap.size := World.block_lt_of_cell? _ _ c0
      have hbr : b < wr.heap.size := Nat.lt_of_lt_of_le hbl hbw.size
      have d0 := (bcell hbw _ _ hbl).trans c0
      have d1 := (bcell hbw _ _ hbl).trans c1
      have d2 := (bcell hbw _ _ hbl).trans c2
      have z0 := hinv.2.2.2.2.1
      have z1 := hinv.2.2.2.2.2
      have z2 := hinv.2.2.2.1
      have CALL : Hid (∀ wx, Below wr.heap.size wr wx → Calls Tryz.prog 21 #[.agg #[.int .i64 W, .int .i64 M], .agg #[.int .i64 (es[i]).k, .int .i64 (es[i]).n, .slice sa (es[i]).es.length sc]] wx (IntPost (Pl.al W M es[i]) wx)) := fun wx hb => HT.out i hlt _ W M wx OKW.out OKM.out (lie.kept (.of_below (below_of hbw hb)))
      have ST := hid (fun w2 => STEP.out i y wr w2 hlt hinv)
      clear hsv lie c0 c1 c2 hinv hbw
      have hal := (Pl.al_isAl OKW.out OKM.out es[i]).le
      generalize Pl.al W M es[i] = A at *
      obtain ⟨ha1, ha2⟩ := hal
      have hb1 : Hid (∀ o, Below wr.heap.size wr (wr.alloc o)) := fun o => (Below.refl _ _).alloc (Nat.le_refl _) _
      go_wp2_with fail
      refine (CALL.out _ (hb1.out _)).mono ?_
      rintro e w2 ⟨rfl, hb2⟩
      have INV := hid (ST.out w2 (below_of (hb1.out _) hb2))
      clear hb2 d0 d1 d2 z0 z1 z2
      go_wp2_with fail
      all_goals
        go_roundw
        case rel => exact ⟨i + 1, max y A, by omega, by go_num, by first | rfl | (congr 1; omega), INV.out⟩
        case measure => simp [intOf]; omega
    · obtain rfl : i = es.length := by omega
      obtain ⟨hy, hal, hbw, hsz, r0, r1⟩ := hinv
      have HY : Hid (y = Pl.maxs 1 (Pl.alL W M es)) := by rw [hy, List.take_of_length_le (by rw [Pl.alL_map]; simp)]; rfl
      have HB := hid hbw
      clear hy hal hbw
      go_wp2_with fail
      go_ret
      exact ⟨by rw [← HY.out]; rfl, HB.out⟩
set_option maxHeartbeats 1000000 in
theorem sal_str_nil (n W M : Int) (sa : Option Addr) (sc : Nat) (w : World) :
    Calls Tryz.prog 21 #[.agg #[.int .i64 W, .int .i64 M], .agg #[.int .i64 6, .int .i64 n, .slice sa 0 sc]] w (IntPost 1 w) := by
  go_enter Tryz.func21, Tryz.ntmps21
  go_wp2_with fail
  go_loop [5, 17] (fun x i => i = .int .i64 0 ∧ x = .int .i64 1) (fun _ _ => 0)
  case atStart => exact ⟨rfl, rfl⟩
  case round =>
    obtain ⟨rfl, rfl⟩ := hrel
    go_wp2_with fail
    go_ret
    exact ⟨rfl, ((Below.refl _ _).alloc (Nat.le_refl _) _).alloc (by simp) _⟩
set_option maxRecDepth 100000 in
set_option maxHeartbeats 2000000 in
theorem sal_str_row (n W M : Int) (okW : Pl.okW W) (okM : Pl.okM M) (es : List Pl.Ty) (hT : ∀ i (h : i < es.length), SalOk es[i]) (b off cap : Nat) (sv : Nat → Value) (w : World) (hc : es.length ≤ cap) (hr : es.length * 40 ≤ reach)
    (hk : ∀ i (h : i < es.length), w.cell? ⟨b, off + i * 3, none⟩ = some (.int .i64 (es[i]).k) ∧ w.cell? ⟨b, off + i * 3 + 1, none⟩ = some (.int .i64 (es[i]).n) ∧ w.cell? ⟨b, off + i * 3 + 2, none⟩ = some (sv i))
    (hs : ∀ i (h : i < es.length), Lie w (es[i]).es (sv i)) :
    Calls Tryz.prog 21 #[.agg #[.int .i64 W, .int .i64 M], .agg #[.int .i64 6, .int .i64 n, .slice (some ⟨b, off, none⟩) es.length cap]] w (IntPost (Pl.maxs 1 (Pl.alL W M es)) w) := by
  unfold reach at hr
  have HK := hid hk
  have HS := hid hs
  have HT := hid hT
  have START := hid (fun o => SalInv.start w W M es 29 o)
  have STEP : Hid (∀ (k : Nat) (x : Int) (wr w2 : World) (hk : k < es.length), SalInv w W M es k x wr → Below wr.heap.size wr w2 → SalInv w W M es (k + 1) (max x (Pl.al W M es[k])) w2) :=
    fun k x wr w2 hk h hb => h.step okW okM hk hb
  have OKW := hid okW
  have OKM := hid okM
  clear hk hs hT okW okM
  go_enter Tryz.func21, Tryz.ntmps21
  go_wp2_with fail
  go_loopw [5, 17] (fun x i wr => ∃ (k : Nat) (y : Int), k ≤ es.length ∧ i = .int .i64 k ∧ x = .int .i64 y ∧ SalInv w W M es k y wr) (fun _ i _ => es.length - (intOf i).toNat)
  case atStart => exact ⟨0, 1, Nat.zero_le _, rfl, rfl, START.out _⟩
  case round =>
    obtain ⟨i, y, hi, rfl, rfl, hinv⟩ := hrel
    by_cases hlt : i < es.length
    · obtain ⟨c0, c1, c2⟩ := HK.out i hlt
      have lie := HS.out i hlt
      obtain ⟨sa, sc, hsv⟩ := lie.slice
      rw [hsv] at c2 lie
      have hbw := hinv.2.2.1
      have hbl : b < w.heap.size := World.block_lt_of_cell? _ _ c0
      have hbr : b < wr.heap.size := Nat.lt_of_lt_of_le hbl hbw.size
      have d0 := (bcell hbw _ _ hbl).trans c0
      have d1 := (bcell hbw _ _ hbl).trans c1
      have d2 := (bcell hbw _ _ hbl).trans c2
      have z0 := hinv.2.2.2.2.1
      have z1 := hinv.2.2.2.2.2
      have z2 := hinv.2.2.2.1
      have CALL : Hid (∀ wx, Below wr.heap.size wr wx → Calls Tryz.prog 21 #[.agg #[.int .i64 W, .int .i64 M], .agg #[.int .i64 (es[i]).k, .int .i64 (es[i]).n, .slice sa (es[i]).es.length sc]] wx (IntPost (Pl.al W M es[i]) wx)) := fun wx hb => HT.out i hlt _ W M wx OKW.out OKM.out (lie.kept (.of_below (below_of hbw hb)))
      have ST := hid (fun w2 => STEP.out i y wr w2 hlt hinv)
      clear hsv lie c0 c1 c2 hinv hbw
      have hal := (Pl.al_isAl OKW.out OKM.out es[i]).le
      generalize Pl.al W M es[i] = A at *
      obtain ⟨ha1, ha2⟩ := hal
      have hb1 : Hid (∀ o, Below wr.heap.size wr (wr.alloc o)) := fun o => (Below.refl _ _).alloc (Nat.le_refl _) _
      go_wp2_with fail
      refine (CALL.out _ (hb1.out _)).mono ?_
      rintro e w2 ⟨rfl, hb2⟩
      have INV := hid (ST.out w2 (below_of (hb1.out _) hb2))
      clear hb2 d0 d1 d2 z0 z1 z2
      go_wp2_with fail
      all_goals
        go_roundw
        case rel => exact ⟨i + 1, max y A, by omega, by go_num, by first | rfl | (congr 1; omega), INV.out⟩
        case measure => simp [intOf]; omega
    · obtain rfl : i = es.length := by omega
      obtain ⟨hy, hal, hbw, hsz, r0, r1⟩ := hinv
      have HY : Hid (y = Pl.maxs 1 (Pl.alL W M es)) := by rw [hy, List.take_of_length_le (by rw [Pl.alL_map]; simp)]; rfl
      have HB := hid hbw
      clear hy hal hbw
      go_wp2_with fail
      go_ret
      exact ⟨by rw [← HY.out]; rfl, HB.out⟩

theorem sal_ok_of : ∀ (d : Nat) (t : Pl.Ty), Pl.depth t ≤ d → SalOk t := by
  intro d
  induction d with
  | zero => intro t h; cases t; simp [Pl.depth] at h
  | succ d ih =>
    intro t hd sv W M w okW okM hl
    cases t with
    | mk k n es =>
      simp only [Pl.depth] at hd
      simp only [Pl.Ty.es, Pl.Ty.k, Pl.Ty.n] at hl ⊢
      have hT : ∀ i (h : i < es.length), SalOk es[i] := fun i hi => ih _ (by have := Pl.depth_mem (List.getElem_mem hi); omega)
      by_cases h3 : k = 3
      · subst h3
        have e : Pl.al W M (.mk 3 n es) = Pl.maxs 1 (Pl.alL W M es) := by simp [Pl.al]
        rw [e]
        cases hl with
        | nil a cap => exact sal_arr_nil n W M a cap w
        | row b off cap es sv hc hr hk h64 hs => exact sal_arr_row n W M okW okM es hT b off cap sv w hc hr hk hs
      by_cases h6 : k = 6
      · subst h6
        have e : Pl.al W M (.mk 6 n es) = Pl.maxs 1 (Pl.alL W M es) := by simp [Pl.al]
        rw [e]
        cases hl with
        | nil a cap => exact sal_str_nil n W M a cap w
        | row b off cap es sv hc hr hk h64 hs => exact sal_str_row n W M okW okM es hT b off cap sv w hc hr hk hs
      obtain ⟨a, cap, rfl⟩ := hl.slice
      by_cases h0 : k = 0
      · subst h0
        have := sal_basic n W M okW okM a es.length cap w
        simpa [Pl.al] using this
      by_cases h2 : k = 2
      · subst h2
        have := sal_slice n W M a es.length cap w
        simpa [Pl.al] using this
      have e : Pl.al W M (.mk k n es) = min W M := by
        simp only [Pl.al]
        rw [if_neg (by omega), if_neg h0, if_neg h2]
      rw [e]
      exact sal_word k n W M okW okM h0 h2 h3 h6 a es.length cap w
theorem sal_all (t : Pl.Ty) : SalOk t := sal_ok_of _ t (Nat.le_refl _)
end Go.Proofs.YtphfjojdiilneaaGreatDoor
