/- The walk of the thin package's Alignof, and of the first statements on alignments. -/
import Derived.Test.YtphfjojdiilneaaGreatDoorSal
import Derived.Test.YtphfjojdiilneaaGreatDoorVal
import Derived.Deep.RegionHeld3
set_option linter.unusedVariables false
set_option linter.unusedSimpArgs false
namespace Go.Proofs.YtphfjojdiilneaaGreatDoor
open Go.RowKit

set_option maxHeartbeats 400000 in
theorem ialof (t : Pl.Ty) (hv : Pl.valid t = true) (W M : Int) (okW : Pl.okW W) (okM : Pl.okM M) (sv : Value) (w : World) (ht : Tab w) (hl : Lie w t.es sv) (h64k : Pl.in64 t.k) (h64n : Pl.in64 t.n) :
    Calls Tryz.prog 18 #[.int .i64 W, .int .i64 M, .agg #[.int .i64 t.k, .int .i64 t.n, sv]] w (IntPost (Pl.al W M t) w) := by
  obtain ⟨sa, sc, rfl⟩ := hl.slice
  have TYP := hid (typ_valid t hv)
  have TAB := hid ht
  have HL := hid hl
  have OKW := hid okW
  have OKM := hid okM
  have ALL := hid (al_all t)
  clear hl ht hv okW okM
  generalize t.es.length = sl at *
  go_enter Tryz.func18, Tryz.ntmps18
  go_wp2_with fail
  have hb0 : Below w.heap.size w ((w.alloc (Obj.cells #[Value.int IntKind.i64 t.k, Value.int IntKind.i64 t.n, Value.slice sa sl sc] 25)).alloc (Obj.cells #[Value.int IntKind.i64 W, Value.int IntKind.i64 M] 48)) := ((Below.refl _ _).alloc (Nat.le_refl _) _).alloc (by simp) _
  refine (TYP.out _ _ (HL.out.kept (.of_below hb0)) h64k h64n).mono ?_
  rintro e w2 ⟨T, b, rfl, hrep, hb2⟩
  have HB := hid (below_of hb0 hb2)
  have env : Env w2 (w.heap.size + 1) W M := by
    refine ⟨?_, ?_, TAB.out.kept (.of_below HB.out), OKW.out, OKM.out⟩
    · rw [bcell hb2 _ _ (by simp)]; simp [World.cell?_alloc_at]
    · rw [bcell hb2 _ _ (by simp)]; simp [World.cell?_alloc_at]
  have CALL := hid (ALL.out T b (w.heap.size + 1) W M w2 (hrep.sub (memBut_sub _ _ _)) env)
  clear env hb0 hb2 hrep
  go_wp2_with fail
  refine CALL.out.mono ?_
  rintro e w3 ⟨rfl, hb3⟩
  have HB3 := hid (below_of HB.out hb3)
  clear hb3
  go_wp2_with fail
  go_ret
  exact ⟨rfl, HB3.out⟩

/-- Valid of one type, laid in a slice of its own. -/
theorem val_one (t : Pl.Ty) (c : Bool) (hv : Pl.valid t = c) (h64k : Pl.in64 t.k) (h64n : Pl.in64 t.n) (b : Nat) (sv : Value) (w : World) (hl : Lie w t.es sv) (c0 : w.cell? ⟨b, 0, none⟩ = some (.int .i64 t.k)) (c1 : w.cell? ⟨b, 1, none⟩ = some (.int .i64 t.n)) (c2 : w.cell? ⟨b, 2, none⟩ = some sv) :
    Calls Tryz.prog 16 #[.slice (some ⟨b, 0, none⟩) 1 1] w (BoolPost c w) := by
  have e : Pl.validL [t] = c := by simp [Pl.validL, hv]
  rw [← e]
  refine val_all [t] _ w (.row b 0 1 [t] (fun _ => sv) (Nat.le_refl _) (by simp [reach]) ?_ ?_ ?_)
  · intro i hi
    obtain rfl : i = 0 := by simp at hi; omega
    exact ⟨by simpa using c0, by simpa using c1, by simpa using c2⟩
  · intro i hi
    obtain rfl : i = 0 := by simp at hi; omega
    exact ⟨h64k, h64n⟩
  · intro i hi
    obtain rfl : i = 0 := by simp at hi; omega
    exact hl

/-- A law hands back true, and makes nothing but new memory. -/
abbrev LawPost (w : World) (e : Ending) (w' : World) : Prop := BoolPost true w e w'

theorem op_at {l : List Oper} {i : Nat} {o : Oper} {r : List Oper} (h : l.drop i = o :: r) : l.toArray[i]? = some o := by
  have := congrArg List.head? h
  simpa [List.head?_drop] using this

end Go.Proofs.YtphfjojdiilneaaGreatDoor
