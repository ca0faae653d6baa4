/- The walk of FnOffsetsof. -/
import Derived.Test.YtphfjojdiilneaaGreatDoorWrk
import Derived.Test.YtphfjojdiilneaaGreatDoorSsz
import Derived.Test.YtphfjojdiilneaaGreatDoorPln
set_option linter.unusedVariables false
set_option linter.unusedSimpArgs false
namespace Go.Proofs.YtphfjojdiilneaaGreatDoor
open Go.RowKit

set_option maxHeartbeats 400000 in
theorem law12_unfit (c : Bool) (a : Int) (sa : Option Addr) (sl sc : Nat) (w : World) (hsl : sl ≤ 9223372036854775807) (hfit : ¬ (sl : Int) ≤ 2147483647) :
    Calls Tryz.prog 12 #[.slice sa sl sc, .bool c, .int .i64 a] w (LawPost w) := by
  go_enter Tryz.func12, Tryz.ntmps12
  go_wp2_with fail
  go_ret
  exact ⟨rfl, Below.refl _ _⟩

set_option maxRecDepth 100000 in
set_option maxHeartbeats 2000000 in
theorem law12_fit (es : List Pl.Ty) (c : Bool) (a : Int) (ha : Pl.in64 a) (sv : Value) (w : World) (ht : Tab w) (hl : Lie w es sv) (hfit : (es.length : Int) ≤ 2147483647) :
    Calls Tryz.prog 12 #[sv, .bool c, .int .i64 a] w (LawPost w) := by
  obtain ⟨sa, sc, rfl⟩ := hl.slice
  have TAB := hid ht
  have HL := hid hl
  have VAL : Hid (∀ x : World, Lie x es (.slice sa es.length sc) → Calls Tryz.prog 16 #[.slice sa es.length sc] x (BoolPost (Pl.validL es) x)) := fun x h => val_all es _ x h
  have PLN : Hid (∀ x : World, Lie x es (.slice sa es.length sc) → Calls Tryz.prog 20 #[.slice sa es.length sc] x (BoolPost (Pl.plainL es) x)) := fun x h => pln_all es _ x h
  have IOF : Hid (Pl.validL es = true → ∀ (W M : Int) (x : World), Pl.okW W → Pl.okM M → Tab x → Lie x es (.slice sa es.length sc) → Calls Tryz.prog 27 #[.int .i64 W, .int .i64 M, .slice sa es.length sc] x (OfsPost (Pl.offs 0 (Pl.prs W M es)) x)) :=
    fun hv W M x h1 h2 h3 h4 => iofof es hv W M h1 h2 _ x h3 h4
  have SOF : Hid (Pl.validL es = true → ∀ (W M : Int) (x : World), Pl.okW W → Pl.okM M → Lie x es (.slice sa es.length sc) → Calls Tryz.prog 28 #[.agg #[.int .i64 W, .int .i64 M], .slice sa es.length sc] x (SofPost (Pl.offs 0 (Pl.prs W M es)) x)) :=
    fun hv W M x h1 h2 h3 => sof_all es hv W M h1 h2 _ x h3
  have LEN : Hid (∀ W M : Int, (Pl.offs 0 (Pl.prs W M es)).length = es.length) := fun W M => by rw [Pl.offs_length, Pl.prs_length]
  clear hl ht
  generalize hsl : es.length = sl at *
  go_enter Tryz.func12, Tryz.ntmps12
  go_wp2_with fail
  refine (sizes_any c a ha _).mono ?_
  rintro e w2 ⟨W, M, rfl, okW, okM, hb2⟩
  have HB2 := hid hb2
  have OKW := hid okW
  have OKM := hid okM
  clear hb2 okW okM
  go_wp2_with fail
  have HBR := hid (HB2.out.alloc HB2.out.size (.cells #[.int .i64 W, .int .i64 M] 29))
  have d3 : (w2.alloc (.cells #[.int .i64 W, .int .i64 M] 29)).cell? ⟨w2.heap.size, 0, none⟩ = some (.int .i64 W) := by simp
  have d4 : (w2.alloc (.cells #[.int .i64 W, .int .i64 M] 29)).cell? ⟨w2.heap.size, 1, none⟩ = some (.int .i64 M) := by simp
  have z1 : w2.heap.size < (w2.alloc (.cells #[.int .i64 W, .int .i64 M] 29)).heap.size := by simp
  clear HB2
  generalize (w2.alloc (.cells #[.int .i64 W, .int .i64 M] 29)) = wr at *
  generalize w2.heap.size = Q at *
  refine (VAL.out _ (HL.out.kept (.of_below HBR.out))).mono ?_
  rintro e w3 ⟨rfl, hb3⟩
  have HB3 := hid (below_of HBR.out hb3)
  have e3 := (bcell hb3 Q 0 z1).trans d3
  have e4 := (bcell hb3 Q 1 z1).trans d4
  have y1 : Q < w3.heap.size := Nat.lt_of_lt_of_le z1 hb3.size
  clear hb3 d3 d4 z1
  cases hv : Pl.validL es with
  | false =>
    clear hv
    go_wp2_with fail
    go_ret
    exact ⟨rfl, HB3.out⟩
  | true =>
    have HV := hid hv
    clear hv
    go_wp2_with fail
    refine (PLN.out _ (HL.out.kept (.of_below HB3.out))).mono ?_
    rintro e w4 ⟨rfl, hb4⟩
    have HB4 := hid (below_of HB3.out hb4)
    have f3 := (bcell hb4 Q 0 y1).trans e3
    have f4 := (bcell hb4 Q 1 y1).trans e4
    have x1 : Q < w4.heap.size := Nat.lt_of_lt_of_le y1 hb4.size
    clear hb4 e3 e4
    cases hp : Pl.plainL es with
    | false =>
      clear hp
      go_wp2_with fail
      go_ret
      exact ⟨rfl, HB4.out⟩
    | true =>
      clear hp
      have IO := hid (IOF.out HV.out W M)
      have SO := hid (SOF.out HV.out W M)
      have LE := hid (LEN.out W M)
      clear IOF SOF LEN VAL PLN
      generalize Pl.offs 0 (Pl.prs W M es) = L at *
      go_wp2_with fail
      have HB5 := hid HB4.out.drew
      go_region_held3 (fun x => x.cell? ⟨Q, 0, none⟩ = some (.int .i64 W) ∧ x.cell? ⟨Q, 1, none⟩ = some (.int .i64 M))
        (first | go_keep)
        (first
          | (go_at_call 27; refine (IO.out _ OKW.out OKM.out (TAB.out.kept (.of_below HB5.out)) (HL.out.kept (.of_below HB5.out))).mono ?_; rintro e w6 ⟨ob, r, rfl, hrow, hall, _, hb6⟩
             have HB6 := hid (below_of HB5.out hb6)
             have x2 : Q < w6.heap.size := by (have := hb6.size; simp at this; omega)
             have ROW := hid hrow
             have HALL := hid hall
             have hc6 : ∀ b o, b < w4.heap.size → w6.cell? ⟨b, o, none⟩ = w4.cell? ⟨b, o, none⟩ := fun b o h => bcell hb6 b o h
             clear hb6 hrow hall)
          | (go_at_call 28; refine (SO.out _ OKW.out OKM.out (HL.out.kept (.of_below HB6.out))).mono ?_; rintro e w7 ⟨a', cap', rfl, hcells, hb7⟩
             have HB7 := hid (below_of HB6.out hb7)
             have x3 : Q < w7.heap.size := by (have := hb7.size; omega)
             have CELLS := hid hcells
             have H7 := hid hb7
             have hc7 := bcell hb7
             clear hb7 hcells))
      have g3 := (hc7 Q 0 x2).trans ((hc6 Q 0 x1).trans f3)
      have g4 := (hc7 Q 1 x2).trans ((hc6 Q 1 x1).trans f4)
      have ROW7 : Hid (∀ i (h : i < L.length), w7.cell? ⟨ob, i, none⟩ = some (.int .i64 (r i))) := fun i h => by
        have h6 := ROW.out.cell h
        exact (bcell H7.out ob i ROW.out.lt).trans h6
      clear hc6 hc7 f3 f4
      rw [LE.out]
      go_wp2_with fail
      go_loopw [42] (fun i wr => ∃ k : Nat, k ≤ sl ∧ i = .int .i64 k ∧ wr = w7) (fun i _ => sl - (intOf i).toNat)
      case atStart => exact ⟨0, Nat.zero_le _, rfl, rfl⟩
      case round =>
        obtain ⟨k, hk, rfl, rfl⟩ := hrel
        by_cases hlt : k < sl
        · have hkL : k < L.length := by rw [LE.out]; exact hlt
          obtain ⟨g, rfl, _, c1⟩ := CELLS.out k hkL
          have c0 := ROW7.out k hkL
          have AL := hid (HALL.out k hkL).1
          generalize L[k] = y at *
          generalize r k = x at *
          go_wp2_with (go_at_call 25; refine (alike_any _ _ _ AL.out).mono ?_; rintro e w8 ⟨rfl, rfl⟩)
          go_roundw
          case rel => exact ⟨k + 1, by omega, by go_num, trivial⟩
          case measure => simp [intOf]; omega
        · obtain rfl : k = sl := by omega
          go_wp2_with fail
          refine (works_any W M OKW.out OKM.out _ (TAB.out.kept (.of_below HB7.out))).mono ?_
          rintro e w9 ⟨rfl, hb9⟩
          have HB9 := hid (below_of HB7.out hb9)
          clear hb9
          go_wp2_with fail
          go_ret
          exact ⟨rfl, HB9.out⟩

theorem law12 (es : List Pl.Ty) (c : Bool) (a : Int) (ha : Pl.in64 a) (sv : Value) (w : World) (ht : Tab w) (hl : Lie w es sv) :
    Calls Tryz.prog 12 #[sv, .bool c, .int .i64 a] w (LawPost w) := by
  by_cases hfit : (es.length : Int) ≤ 2147483647
  · exact law12_fit es c a ha sv w ht hl hfit
  · have hlen := hl.len
    obtain ⟨sa, sc, rfl⟩ := hl.slice
    exact law12_unfit c a sa _ sc w (by unfold reach at hlen; omega) hfit
end Go.Proofs.YtphfjojdiilneaaGreatDoor
