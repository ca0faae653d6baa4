/- The walk of the reference's Plain: whether no type holds an interface, a string, a slice or a complex number. -/
import Derived.Test.YtphfjojdiilneaaGreatDoorVal
set_option linter.unusedVariables false
set_option linter.unusedSimpArgs false
namespace Go.Proofs.YtphfjojdiilneaaGreatDoor
open Go.RowKit

def PlnOk (es : List Pl.Ty) : Prop := ∀ (v : Value) (w : World), Lie w es v → Calls Tryz.prog 20 #[v] w (BoolPost (Pl.plainL es) w)

/-- Plain of one type, by Plain of its elements. -/
def lp (k n : Int) (c : Bool) : Bool := if k = 2 then false else if k = 0 then !(decide (n = 0 ∨ n = 16 ∨ n = 14 ∨ n = 15)) else if k = 3 ∨ k = 6 then c else true
theorem plain_lp (t : Pl.Ty) : Pl.plain t = lp t.k t.n (Pl.plainL t.es) := by
  cases t; rfl
theorem plainL_iff (l : List Pl.Ty) : Pl.plainL l = true ↔ ∀ t ∈ l, Pl.plain t = true := by
  induction l with
  | nil => simp [Pl.plainL]
  | cons x r ih => simp [Pl.plainL, ih]
theorem plainL_take_succ (l : List Pl.Ty) (i : Nat) (h : i < l.length) (h1 : Pl.plainL (l.take i) = true) (h2 : Pl.plain l[i] = true) : Pl.plainL (l.take (i + 1)) = true := by
  rw [plainL_iff] at *
  intro t ht
  rw [List.take_succ_eq_append_getElem h] at ht
  rcases List.mem_append.1 ht with ht | ht
  · exact h1 t ht
  · rw [List.mem_singleton.1 ht]; exact h2
theorem plainL_false (l : List Pl.Ty) (i : Nat) (h : i < l.length) (h2 : Pl.plain l[i] = false) : Pl.plainL l = false := by
  rw [Bool.eq_false_iff]
  intro hv
  rw [(plainL_iff l).1 hv _ (List.getElem_mem h)] at h2
  cases h2

set_option maxHeartbeats 400000 in
theorem plain_nil (a : Option Addr) (cap : Nat) (w : World) : Calls Tryz.prog 20 #[.slice a 0 cap] w (BoolPost true w) := by
  go_enter Tryz.func20, Tryz.ntmps20
  go_wp2_with fail
  go_loop [7] (fun i => i = .int .i64 0) (fun _ => 0)
  case atStart => rfl
  case round =>
    subst hrel
    go_wp2_with fail
    go_ret
    exact ⟨rfl, Below.refl _ _⟩

set_option maxRecDepth 100000 in
set_option maxHeartbeats 4000000 in
theorem plain_row (es : List Pl.Ty) (hT : ∀ i (h : i < es.length), PlnOk (es[i]).es) (b off cap : Nat) (sv : Nat → Value) (w : World) (hc : es.length ≤ cap) (hr : cap * 40 ≤ reach)
    (hk : ∀ i (h : i < es.length), w.cell? ⟨b, off + i * 3, none⟩ = some (.int .i64 (es[i]).k) ∧ w.cell? ⟨b, off + i * 3 + 1, none⟩ = some (.int .i64 (es[i]).n) ∧ w.cell? ⟨b, off + i * 3 + 2, none⟩ = some (sv i))
    (h64 : ∀ i (h : i < es.length), Pl.in64 (es[i]).k ∧ Pl.in64 (es[i]).n) (hs : ∀ i (h : i < es.length), Lie w (es[i]).es (sv i)) :
    Calls Tryz.prog 20 #[.slice (some ⟨b, off, none⟩) es.length cap] w (BoolPost (Pl.plainL es) w) := by
  unfold reach at hr
  have HK := hid hk
  have HS := hid hs
  have HT := hid hT
  clear hk h64 hs hT
  go_enter Tryz.func20, Tryz.ntmps20
  go_wp2_with fail
  go_loopw [7] (fun i wr => ∃ k : Nat, k ≤ es.length ∧ i = .int .i64 k ∧ Pl.plainL (es.take k) = true ∧ Below w.heap.size w wr) (fun i _ => es.length - (intOf i).toNat)
  case atStart => exact ⟨0, Nat.zero_le _, rfl, rfl, Below.refl _ _⟩
  case round =>
    obtain ⟨i, hi, rfl, hval, hbw⟩ := hrel
    by_cases hlt : i < es.length
    · obtain ⟨c0, c1, c2⟩ := HK.out i hlt
      have lie := HS.out i hlt
      obtain ⟨sa, sc, hsv⟩ := lie.slice
      rw [hsv] at c2 lie
      have hbl : b < w.heap.size := World.block_lt_of_cell? _ _ c0
      have hbr : b < wr.heap.size := Nat.lt_of_lt_of_le hbl hbw.size
      have d0 := (bcell hbw _ _ hbl).trans c0
      have d1 := (bcell hbw _ _ hbl).trans c1
      have d2 := (bcell hbw _ _ hbl).trans c2
      have CALL : Hid (∀ wx, Below wr.heap.size wr wx → Calls Tryz.prog 20 #[.slice sa (es[i]).es.length sc] wx (BoolPost (Pl.plainL (es[i]).es) wx)) := fun wx hb => HT.out i hlt _ wx (lie.kept (.of_below (below_of hbw hb)))
      have FALSE : Hid (lp (es[i]).k (es[i]).n (Pl.plainL (es[i]).es) = false → Pl.plainL es = false) := by
        intro h
        refine plainL_false es i hlt ?_
        rw [plain_lp, h]
      have NEXT : Hid (lp (es[i]).k (es[i]).n (Pl.plainL (es[i]).es) = true → Pl.plainL (es.take (i + 1)) = true) := by
        intro h1
        refine plainL_take_succ es i hlt hval ?_
        rw [plain_lp, h1]
      have HB := hid hbw
      have hwr : w.heap.size ≤ wr.heap.size := hbw.size
      clear hsv lie c0 c1 c2 hval hbw
      generalize (es[i]).k = k at *
      generalize (es[i]).n = n at *
      generalize (es[i]).es.length = len at *
      generalize Pl.plainL (es[i]).es = c at *
      have hb1 : Hid (∀ o, Below wr.heap.size wr (wr.alloc o)) := fun o => (Below.refl _ _).alloc (Nat.le_refl _) _
      have HB1 := hid (below_of HB.out (hb1.out (.cells #[.int .i64 k, .int .i64 n, .slice sa len sc] 25)))
      rcases (show k = 2 ∨ (k = 0 ∧ n = 0) ∨ (k = 0 ∧ n = 16) ∨ (k = 0 ∧ (n = 14 ∨ n = 15)) ∨ (k = 0 ∧ n ≠ 0 ∧ n ≠ 16 ∧ n ≠ 14 ∧ n ≠ 15) ∨ k = 3 ∨ k = 6 ∨ (k ≠ 2 ∧ k ≠ 0 ∧ k ≠ 3 ∧ k ≠ 6) by omega) with rfl | ⟨rfl, rfl⟩ | ⟨rfl, rfl⟩ | ⟨rfl, h14⟩ | ⟨rfl, hn0, hn16, hn14, hn15⟩ | rfl | rfl | ⟨hk2, hk0, hk3, hk6⟩
      · have HF := hid (FALSE.out rfl)
        go_wp2_with fail
        go_ret
        exact ⟨by rw [HF.out]; rfl, HB1.out⟩
      · have HF := hid (FALSE.out rfl)
        go_wp2_with fail
        go_ret
        exact ⟨by rw [HF.out]; rfl, HB1.out⟩
      · have HF := hid (FALSE.out rfl)
        go_wp2_with fail
        go_ret
        exact ⟨by rw [HF.out]; rfl, HB1.out⟩
      · have HF := hid (FALSE.out (by simp only [lp]; rcases h14 with rfl | rfl <;> rfl))
        have hq : (n == 0) = false := by simp; omega
        have hq2 : (n == 16) = false := by simp; omega
        have ISC : Hid (∀ x : World, Calls Tryz.prog 31 #[.agg #[.int .i64 0, .int .i64 n, .slice sa len sc]] x (BoolPost true x)) := fun x => isCx_14 n h14 sa len sc x
        clear h14
        go_wp2_with fail
        refine (ISC.out _).mono ?_
        rintro e w2 ⟨rfl, hb2⟩
        have HB2 := hid (below_of HB1.out hb2)
        clear hb2 d0 d1 d2
        go_wp2_with fail
        go_ret
        exact ⟨by rw [HF.out]; rfl, HB2.out⟩
      · have HN := hid (NEXT.out (by simp only [lp]; simp; omega))
        have hq : (n == 0) = false := by simp; omega
        have hq2 : (n == 16) = false := by simp; omega
        have ISC : Hid (∀ x : World, Calls Tryz.prog 31 #[.agg #[.int .i64 0, .int .i64 n, .slice sa len sc]] x (BoolPost false x)) := fun x => isCx_0 n hn14 hn15 sa len sc x
        clear hn0 hn16 hn14 hn15
        go_wp2_with fail
        refine (ISC.out _).mono ?_
        rintro e w2 ⟨rfl, hb2⟩
        have HB2 := hid (below_of HB1.out hb2)
        clear hb2 d0 d1 d2
        go_wp2_with fail
        go_roundw
        case rel => exact ⟨i + 1, by omega, by go_num, HN.out, HB2.out⟩
        case measure => simp [intOf]; omega
      · go_wp2_with fail
        refine (CALL.out _ (hb1.out _)).mono ?_
        rintro e w2 ⟨rfl, hb2⟩
        have HB2 := hid (below_of HB.out (below_of (hb1.out _) hb2))
        clear hb2 d0 d1 d2
        cases c with
        | false =>
          have HF := hid (FALSE.out rfl)
          go_wp2_with fail
          go_ret
          exact ⟨by rw [HF.out]; rfl, HB2.out⟩
        | true =>
          have HN := hid (NEXT.out rfl)
          go_wp2_with fail
          go_roundw
          case rel => exact ⟨i + 1, by omega, by go_num, HN.out, HB2.out⟩
          case measure => simp [intOf]; omega
      · go_wp2_with fail
        refine (CALL.out _ (hb1.out _)).mono ?_
        rintro e w2 ⟨rfl, hb2⟩
        have HB2 := hid (below_of HB.out (below_of (hb1.out _) hb2))
        clear hb2 d0 d1 d2
        cases c with
        | false =>
          have HF := hid (FALSE.out rfl)
          go_wp2_with fail
          go_ret
          exact ⟨by rw [HF.out]; rfl, HB2.out⟩
        | true =>
          have HN := hid (NEXT.out rfl)
          go_wp2_with fail
          go_roundw
          case rel => exact ⟨i + 1, by omega, by go_num, HN.out, HB2.out⟩
          case measure => simp [intOf]; omega
      · have HN := hid (NEXT.out (by unfold lp; rw [if_neg hk2, if_neg hk0, if_neg (by omega)]))
        have hq2 : (k == 2) = false := by simp; omega
        have hq0 : (k == 0) = false := by simp; omega
        have hq3 : (k == 3) = false := by simp; omega
        have hq6 : (k == 6) = false := by simp; omega
        clear hk2 hk0 hk3 hk6
        go_wp2_with fail
        go_roundw
        case rel => exact ⟨i + 1, by omega, by go_num, HN.out, HB1.out⟩
        case measure => simp [intOf]; omega
    · obtain rfl : i = es.length := by omega
      have HV : Hid (Pl.plainL es = true) := by rw [List.take_length] at hval; exact hval
      have HB := hid hbw
      clear hval hbw
      go_wp2_with fail
      go_ret
      exact ⟨by rw [HV.out]; rfl, HB.out⟩

theorem pln_ok_of : ∀ (d : Nat) (es : List Pl.Ty), Pl.depthL es ≤ d → PlnOk es := by
  intro d
  induction d with
  | zero =>
    intro es h v w hl
    cases es with
    | nil =>
      cases hl with
      | nil a cap => exact plain_nil a cap w
      | row b off cap es sv hc hr hk h64 hs => exact plain_row [] (fun i hi => by simp at hi) b off cap sv w hc hr hk h64 hs
    | cons t r => cases t; simp [Pl.depthL, Pl.depth] at h
  | succ d ih =>
    intro es h v w hl
    cases hl with
    | nil a cap => exact plain_nil a cap w
    | row b off cap es sv hc hr hk h64 hs =>
      refine plain_row es (fun i hi => ih _ ?_) b off cap sv w hc hr hk h64 hs
      have h1 := Pl.depth_mem (List.getElem_mem hi)
      have h2 : Pl.depthL (es[i]).es < Pl.depth es[i] := by
        generalize es[i] = t
        cases t; simp only [Pl.Ty.es, Pl.depth]; omega
      omega
theorem pln_all (es : List Pl.Ty) : PlnOk es := pln_ok_of _ es (Nat.le_refl _)

/-- Plain of one type, laid in a slice of its own. -/
theorem pln_one (t : Pl.Ty) (c : Bool) (hv : Pl.plain t = c) (h64k : Pl.in64 t.k) (h64n : Pl.in64 t.n) (b : Nat) (sv : Value) (w : World) (hl : Lie w t.es sv) (c0 : w.cell? ⟨b, 0, none⟩ = some (.int .i64 t.k)) (c1 : w.cell? ⟨b, 1, none⟩ = some (.int .i64 t.n)) (c2 : w.cell? ⟨b, 2, none⟩ = some sv) :
    Calls Tryz.prog 20 #[.slice (some ⟨b, 0, none⟩) 1 1] w (BoolPost c w) := by
  have e : Pl.plainL [t] = c := by simp [Pl.plainL, hv]
  rw [← e]
  refine pln_all [t] _ w (.row b 0 1 [t] (fun _ => sv) (Nat.le_refl _) (by unfold reach; omega) ?_ ?_ ?_)
  · intro i hi
    obtain rfl : i = 0 := by simp at hi; omega
    exact ⟨by simpa using c0, by simpa using c1, by simpa using c2⟩
  · intro i hi
    obtain rfl : i = 0 := by simp at hi; omega
    exact ⟨h64k, h64n⟩
  · intro i hi
    obtain rfl : i = 0 := by simp at hi; omega
    exact hl
end Go.Proofs.YtphfjojdiilneaaGreatDoor
