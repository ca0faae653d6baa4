/- The walk of the reference's Valid: whether types are valid. -/
import Derived.Test.YtphfjojdiilneaaGreatDoorMk
import Derived.Test.YtphfjojdiilneaaGreatDoorSpc
set_option linter.unusedVariables false
set_option linter.unusedSimpArgs false
namespace Go.Proofs.YtphfjojdiilneaaGreatDoor
open Go.RowKit

def ValOk (es : List Pl.Ty) : Prop := ∀ (v : Value) (w : World), Lie w es v → Calls Tryz.prog 16 #[v] w (BoolPost (Pl.validL es) w)

/-- What Valid asks of one type, but for its elements. -/
def lv (k n : Int) (len : Nat) : Bool := decide (0 ≤ k) && decide (k ≤ 6) && decide (len = Pl.need k len) && (decide (k = 0 → 0 ≤ n ∧ n < 18)) && (decide (k = 3 → 0 ≤ n))
theorem valid_lv (t : Pl.Ty) : Pl.valid t = (lv t.k t.n t.es.length && Pl.validL t.es) := by
  cases t; rfl
theorem lv_true {k n : Int} {len : Nat} (h : lv k n len = true) : (k = 0 ∧ len = 0 ∧ 0 ≤ n ∧ n < 18) ∨ (k = 1 ∧ len = 1) ∨ (k = 2 ∧ len = 1) ∨ (k = 3 ∧ len = 1 ∧ 0 ≤ n) ∨ (k = 4 ∧ len = 2) ∨ (k = 5 ∧ len = 1) ∨ k = 6 := by
  simp only [lv, Bool.and_eq_true, decide_eq_true_eq, Pl.need] at h
  obtain ⟨⟨⟨⟨h0, h6⟩, hn⟩, hb⟩, ha⟩ := h
  rcases (show k = 0 ∨ k = 1 ∨ k = 2 ∨ k = 3 ∨ k = 4 ∨ k = 5 ∨ k = 6 by omega) with rfl | rfl | rfl | rfl | rfl | rfl | rfl <;> simp at hn hb ha ⊢ <;> omega
theorem lv_false {k n : Int} {len : Nat} (h : lv k n len = false) : k < 0 ∨ 6 < k ∨ (k = 0 ∧ 0 < len) ∨ (k = 4 ∧ len < 2) ∨ (k = 4 ∧ 2 < len) ∨ (k = 1 ∧ len = 0) ∨ (k = 1 ∧ 1 < len) ∨ (k = 2 ∧ len = 0) ∨ (k = 2 ∧ 1 < len) ∨ (k = 3 ∧ len = 0) ∨ (k = 3 ∧ 1 < len) ∨ (k = 5 ∧ len = 0) ∨ (k = 5 ∧ 1 < len) ∨
    (k = 0 ∧ len = 0 ∧ n < 0) ∨ (k = 0 ∧ len = 0 ∧ 18 ≤ n) ∨ (k = 3 ∧ len = 1 ∧ n < 0) := by
  by_cases hk0 : k < 0
  · exact .inl hk0
  by_cases hk6 : 6 < k
  · exact .inr (.inl hk6)
  rcases (show k = 0 ∨ k = 1 ∨ k = 2 ∨ k = 3 ∨ k = 4 ∨ k = 5 ∨ k = 6 by omega) with rfl | rfl | rfl | rfl | rfl | rfl | rfl <;> simp [lv, Pl.need] at h ⊢ <;> omega

theorem validL_take_succ (l : List Pl.Ty) (i : Nat) (h : i < l.length) (h1 : Pl.validL (l.take i) = true) (h2 : Pl.valid l[i] = true) : Pl.validL (l.take (i + 1)) = true := by
  rw [Pl.validL_iff] at *
  intro t ht
  rw [List.take_succ_eq_append_getElem h] at ht
  rcases List.mem_append.1 ht with ht | ht
  · exact h1 t ht
  · rw [List.mem_singleton.1 ht]; exact h2
theorem validL_false (l : List Pl.Ty) (i : Nat) (h : i < l.length) (h2 : Pl.valid l[i] = false) : Pl.validL l = false := by
  rw [Bool.eq_false_iff]
  intro hv
  rw [(Pl.validL_iff l).1 hv _ (List.getElem_mem h)] at h2
  cases h2

set_option maxHeartbeats 400000 in
theorem valid_nil (a : Option Addr) (cap : Nat) (w : World) : Calls Tryz.prog 16 #[.slice a 0 cap] w (BoolPost true w) := by
  go_enter Tryz.func16, Tryz.ntmps16
  go_wp2_with fail
  go_loop [8] (fun i => i = .int .i64 0) (fun _ => 0)
  case atStart => rfl
  case round =>
    subst hrel
    go_wp2_with fail
    go_ret
    exact ⟨rfl, Below.refl _ _⟩

set_option maxRecDepth 100000 in
set_option maxHeartbeats 4000000 in
theorem valid_row (es : List Pl.Ty) (hT : ∀ i (h : i < es.length), ValOk (es[i]).es) (b off cap : Nat) (sv : Nat → Value) (w : World) (hc : es.length ≤ cap) (hr : es.length * 40 ≤ reach)
    (hk : ∀ i (h : i < es.length), w.cell? ⟨b, off + i * 3, none⟩ = some (.int .i64 (es[i]).k) ∧ w.cell? ⟨b, off + i * 3 + 1, none⟩ = some (.int .i64 (es[i]).n) ∧ w.cell? ⟨b, off + i * 3 + 2, none⟩ = some (sv i))
    (h64 : ∀ i (h : i < es.length), Pl.in64 (es[i]).k ∧ Pl.in64 (es[i]).n) (hs : ∀ i (h : i < es.length), Lie w (es[i]).es (sv i)) :
    Calls Tryz.prog 16 #[.slice (some ⟨b, off, none⟩) es.length cap] w (BoolPost (Pl.validL es) w) := by
  unfold reach at hr
  have HK := hid hk
  have HS := hid hs
  have HT := hid hT
  clear hk h64 hs hT
  go_enter Tryz.func16, Tryz.ntmps16
  go_wp2_with fail
  go_loopw [8] (fun i wr => ∃ k : Nat, k ≤ es.length ∧ i = .int .i64 k ∧ Pl.validL (es.take k) = true ∧ Below w.heap.size w wr) (fun i _ => es.length - (intOf i).toNat)
  case atStart => exact ⟨0, Nat.zero_le _, rfl, rfl, Below.refl _ _⟩
  case round =>
    obtain ⟨i, hi, rfl, hval, hbw⟩ := hrel
    by_cases hlt : i < es.length
    · obtain ⟨c0, c1, c2⟩ := HK.out i hlt
      have lie := HS.out i hlt
      obtain ⟨sa, sc, hsv⟩ := lie.slice
      rw [hsv] at c2 lie
      have hbl : b < w.heap.size := World.block_lt_of_cell? _ _ c0
      have hbr : b < wr.heap.size := Nat.lt_of_lt_of_le hbl hbw.size
      have d0 := (bcell hbw _ _ hbl).trans c0
      have d1 := (bcell hbw _ _ hbl).trans c1
      have d2 := (bcell hbw _ _ hbl).trans c2
      have CALL : Hid (∀ wx, Below wr.heap.size wr wx → Calls Tryz.prog 16 #[.slice sa (es[i]).es.length sc] wx (BoolPost (Pl.validL (es[i]).es) wx)) := fun wx hb => HT.out i hlt _ wx (lie.kept (.of_below (below_of hbw hb)))
      have FALSE : Hid (lv (es[i]).k (es[i]).n (es[i]).es.length = false ∨ Pl.validL (es[i]).es = false → Pl.validL es = false) := by
        intro h
        refine validL_false es i hlt ?_
        rw [valid_lv]
        rcases h with h | h <;> simp [h]
      have NEXT : Hid (lv (es[i]).k (es[i]).n (es[i]).es.length = true → Pl.validL (es[i]).es = true → Pl.validL (es.take (i + 1)) = true) := by
        intro h1 h2
        refine validL_take_succ es i hlt hval ?_
        rw [valid_lv, h1, h2]; rfl
      have HB := hid hbw
      have hwr : w.heap.size ≤ wr.heap.size := hbw.size
      clear hsv lie c0 c1 c2 hval hbw
      generalize (es[i]).k = k at *
      generalize (es[i]).n = n at *
      generalize (es[i]).es.length = len at *
      generalize Pl.validL (es[i]).es = c at *
      have hb1 : Hid (∀ o, Below wr.heap.size wr (wr.alloc o)) := fun o => (Below.refl _ _).alloc (Nat.le_refl _) _
      by_cases hlv : lv k n len = true
      · have LV := hid hlv
        rcases lv_true hlv with ⟨rfl, rfl, hn0, hn1⟩ | ⟨rfl, rfl⟩ | ⟨rfl, rfl⟩ | ⟨rfl, rfl, hn0⟩ | ⟨rfl, rfl⟩ | ⟨rfl, rfl⟩ | rfl
        · clear hlv
          go_wp2_with fail
          refine (CALL.out _ (hb1.out _)).mono ?_
          rintro e w2 ⟨rfl, hb2⟩
          have HB2 := hid (below_of HB.out (below_of (hb1.out _) hb2))
          clear hb2 d0 d1 d2
          cases c with
          | false =>
            have HF := hid (FALSE.out (.inr rfl))
            go_wp2_with fail
            go_ret
            exact ⟨by rw [HF.out]; rfl, HB2.out⟩
          | true =>
            have HN := hid (NEXT.out LV.out rfl)
            go_wp2_with fail
            go_roundw
            case rel => exact ⟨i + 1, by omega, by go_num, HN.out, HB2.out⟩
            case measure => simp [intOf]; omega
        · clear hlv
          go_wp2_with fail
          refine (CALL.out _ (hb1.out _)).mono ?_
          rintro e w2 ⟨rfl, hb2⟩
          have HB2 := hid (below_of HB.out (below_of (hb1.out _) hb2))
          clear hb2 d0 d1 d2
          cases c with
          | false =>
            have HF := hid (FALSE.out (.inr rfl))
            go_wp2_with fail
            go_ret
            exact ⟨by rw [HF.out]; rfl, HB2.out⟩
          | true =>
            have HN := hid (NEXT.out LV.out rfl)
            go_wp2_with fail
            go_roundw
            case rel => exact ⟨i + 1, by omega, by go_num, HN.out, HB2.out⟩
            case measure => simp [intOf]; omega
        · clear hlv
          go_wp2_with fail
          refine (CALL.out _ (hb1.out _)).mono ?_
          rintro e w2 ⟨rfl, hb2⟩
          have HB2 := hid (below_of HB.out (below_of (hb1.out _) hb2))
          clear hb2 d0 d1 d2
          cases c with
          | false =>
            have HF := hid (FALSE.out (.inr rfl))
            go_wp2_with fail
            go_ret
            exact ⟨by rw [HF.out]; rfl, HB2.out⟩
          | true =>
            have HN := hid (NEXT.out LV.out rfl)
            go_wp2_with fail
            go_roundw
            case rel => exact ⟨i + 1, by omega, by go_num, HN.out, HB2.out⟩
            case measure => simp [intOf]; omega
        · clear hlv
          go_wp2_with fail
          refine (CALL.out _ (hb1.out _)).mono ?_
          rintro e w2 ⟨rfl, hb2⟩
          have HB2 := hid (below_of HB.out (below_of (hb1.out _) hb2))
          clear hb2 d0 d1 d2
          cases c with
          | false =>
            have HF := hid (FALSE.out (.inr rfl))
            go_wp2_with fail
            go_ret
            exact ⟨by rw [HF.out]; rfl, HB2.out⟩
          | true =>
            have HN := hid (NEXT.out LV.out rfl)
            go_wp2_with fail
            go_roundw
            case rel => exact ⟨i + 1, by omega, by go_num, HN.out, HB2.out⟩
            case measure => simp [intOf]; omega
        · clear hlv
          go_wp2_with fail
          refine (CALL.out _ (hb1.out _)).mono ?_
          rintro e w2 ⟨rfl, hb2⟩
          have HB2 := hid (below_of HB.out (below_of (hb1.out _) hb2))
          clear hb2 d0 d1 d2
          cases c with
          | false =>
            have HF := hid (FALSE.out (.inr rfl))
            go_wp2_with fail
            go_ret
            exact ⟨by rw [HF.out]; rfl, HB2.out⟩
          | true =>
            have HN := hid (NEXT.out LV.out rfl)
            go_wp2_with fail
            go_roundw
            case rel => exact ⟨i + 1, by omega, by go_num, HN.out, HB2.out⟩
            case measure => simp [intOf]; omega
        · clear hlv
          go_wp2_with fail
          refine (CALL.out _ (hb1.out _)).mono ?_
          rintro e w2 ⟨rfl, hb2⟩
          have HB2 := hid (below_of HB.out (below_of (hb1.out _) hb2))
          clear hb2 d0 d1 d2
          cases c with
          | false =>
            have HF := hid (FALSE.out (.inr rfl))
            go_wp2_with fail
            go_ret
            exact ⟨by rw [HF.out]; rfl, HB2.out⟩
          | true =>
            have HN := hid (NEXT.out LV.out rfl)
            go_wp2_with fail
            go_roundw
            case rel => exact ⟨i + 1, by omega, by go_num, HN.out, HB2.out⟩
            case measure => simp [intOf]; omega
        · clear hlv
          go_wp2_with fail
          refine (CALL.out _ (hb1.out _)).mono ?_
          rintro e w2 ⟨rfl, hb2⟩
          have HB2 := hid (below_of HB.out (below_of (hb1.out _) hb2))
          clear hb2 d0 d1 d2
          cases c with
          | false =>
            have HF := hid (FALSE.out (.inr rfl))
            go_wp2_with fail
            go_ret
            exact ⟨by rw [HF.out]; rfl, HB2.out⟩
          | true =>
            have HN := hid (NEXT.out LV.out rfl)
            go_wp2_with fail
            go_roundw
            case rel => exact ⟨i + 1, by omega, by go_num, HN.out, HB2.out⟩
            case measure => simp [intOf]; omega
      · have HF := hid (FALSE.out (.inl (by simpa using hlv)))
        have HB1 := hid (below_of HB.out (hb1.out (.cells #[.int .i64 k, .int .i64 n, .slice sa len sc] 25)))
        rcases lv_false (by simpa using hlv) with h1 | h1 | ⟨rfl, h2⟩ | ⟨rfl, h2⟩ | ⟨rfl, h2⟩ | ⟨rfl, rfl⟩ | ⟨rfl, h2⟩ | ⟨rfl, rfl⟩ | ⟨rfl, h2⟩ | ⟨rfl, rfl⟩ | ⟨rfl, h2⟩ | ⟨rfl, rfl⟩ | ⟨rfl, h2⟩ | ⟨rfl, rfl, h3⟩ | ⟨rfl, rfl, h3⟩ | ⟨rfl, rfl, h3⟩
        all_goals
          clear hlv
          go_wp2_with fail
          go_ret
          exact ⟨by rw [HF.out]; rfl, HB1.out⟩
    · obtain rfl : i = es.length := by omega
      have HV : Hid (Pl.validL es = true) := by rw [List.take_length] at hval; exact hval
      have HB := hid hbw
      clear hval hbw
      go_wp2_with fail
      go_ret
      exact ⟨by rw [HV.out]; rfl, HB.out⟩

theorem val_ok_of : ∀ (d : Nat) (es : List Pl.Ty), Pl.depthL es ≤ d → ValOk es := by
  intro d
  induction d with
  | zero =>
    intro es h v w hl
    cases es with
    | nil =>
      cases hl with
      | nil a cap => exact valid_nil a cap w
      | row b off cap es sv hc hr hk h64 hs => exact valid_row [] (fun i hi => by simp at hi) b off cap sv w hc hr hk h64 hs
    | cons t r => cases t; simp [Pl.depthL, Pl.depth] at h
  | succ d ih =>
    intro es h v w hl
    cases hl with
    | nil a cap => exact valid_nil a cap w
    | row b off cap es sv hc hr hk h64 hs =>
      refine valid_row es (fun i hi => ih _ ?_) b off cap sv w hc hr hk h64 hs
      have h1 := Pl.depth_mem (List.getElem_mem hi)
      have h2 : Pl.depthL (es[i]).es < Pl.depth es[i] := by
        generalize es[i] = t
        cases t; simp only [Pl.Ty.es, Pl.depth]; omega
      omega
theorem val_all (es : List Pl.Ty) : ValOk es := val_ok_of _ es (Nat.le_refl _)
end Go.Proofs.YtphfjojdiilneaaGreatDoor
