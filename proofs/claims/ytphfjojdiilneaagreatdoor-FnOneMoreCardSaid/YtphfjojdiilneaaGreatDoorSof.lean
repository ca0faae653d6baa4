/- The walk of the reference's Offsets, by Size's contract at each element. -/
import Derived.Test.YtphfjojdiilneaaGreatDoorSal
import Derived.Test.YtphfjojdiilneaaGreatDoorVal
import Derived.Test.YtphfjojdiilneaaGreatDoorSzo
set_option linter.unusedVariables false
set_option linter.unusedSimpArgs false
namespace Go.Proofs.YtphfjojdiilneaaGreatDoor
open Go.RowKit

/-- The reference's Size at one type. -/
def SszOk (t : Pl.Ty) : Prop := Pl.valid t = true → Pl.in64 t.n → ∀ (sv : Value) (W M : Int) (w : World), Pl.okW W → Pl.okM M → Lie w t.es sv → Calls Tryz.prog 22 #[.agg #[.int .i64 W, .int .i64 M], .agg #[.int .i64 t.k, .int .i64 t.n, sv]] w (IntPost (Pl.sz W M t) w)

/-- A slice of its own, of the numbers xs. -/
def SofPost (xs : List Int) (w : World) (e : Ending) (w' : World) : Prop :=
  ∃ (a : Option Addr) (cap : Nat), e = .returned (.slice a xs.length cap) ∧ (∀ i (h : i < xs.length), ∃ g, a = some ⟨g, 0, none⟩ ∧ w.heap.size ≤ g ∧ w'.cell? ⟨g, i, none⟩ = some (.int .i64 xs[i])) ∧ Below w.heap.size w w'

theorem own_below {B T s k : Nat} {v : Value} {xs : List Value} {wr w' : World} (hown : wr.ownsRow B T s v k xs) (hb : Below wr.heap.size wr w') : w'.ownsRow B T s v k xs :=
  hown.kept (row := none) ⟨hb.os, hb.tape, hb.output, hb.size, fun j hj _ => hb.block j hj⟩ (by cases hv : v.ownBlock <;> simp)

/-- Behind k rounds. -/
def SofInv (w : World) (l : List (Int × Int)) (k : Nat) (v : Value) (x : Int) (wr : World) : Prop :=
  wr.ownsRow w.heap.size 2 1 v k (((Pl.offs 0 l).take k).map fun n => .int .i64 n) ∧ x = Pl.fin 0 (l.take k) ∧ Below w.heap.size w wr
theorem SofInv.start (w : World) (l : List (Int × Int)) : SofInv w l 0 (.slice none 0 0) 0 w := ⟨World.ownsRow_nil _ _ _ _, rfl, Below.refl _ _⟩
theorem SofInv.step {w : World} {l : List (Int × Int)} {k : Nat} {v : Value} {x : Int} {wr : World} (hk : k < l.length) (h : SofInv w l k v x wr) {w1 w5 w6 : World} (hb1 : Below wr.heap.size wr w1) {v' : Value}
    (hown : w5.ownsRow w.heap.size 2 1 v' (k + 1) ((((Pl.offs 0 l).take k).map fun n => Value.int .i64 n) ++ [.int .i64 (Pl.up x (l[k]).1)])) (hg : w1.grownBy w5 v.ownBlock) (hb6 : Below w5.heap.size w5 w6) :
    SofInv w l (k + 1) v' (Pl.sum (Pl.up x (l[k]).1) (l[k]).2) w6 := by
  obtain ⟨h1, rfl, h3⟩ := h
  have hol := Pl.offs_length 0 l
  refine ⟨?_, (Pl.fin_take_succ 0 l k hk).symm, below_of ((below_of h3 hb1).grown hg ?_ fun j hj => (h1.lt j hj).1) hb6⟩
  · rw [List.take_succ_eq_append_getElem (by omega), List.map_append, Pl.offs_at 0 l k hk]
    exact own_below hown hb6
  · exact Nat.le_trans h3.size hb1.size
theorem SofInv.done {w : World} {l : List (Int × Int)} {v : Value} {x : Int} {wr : World} (h : SofInv w l l.length v x wr) : SofPost (Pl.offs 0 l) w (.returned v) wr := by
  obtain ⟨hown, rfl, hbw⟩ := h
  have hol := Pl.offs_length 0 l
  rw [List.take_of_length_le (by omega)] at hown
  rcases hown.2 with ⟨rfl, h0⟩ | ⟨g, cap, cur, rfl, hg, hh, hc, _, hs, ht⟩
  · exact ⟨none, 0, by rw [hol, h0], fun i hi => by omega, hbw⟩
  · refine ⟨some ⟨g, 0, none⟩, cap, by rw [hol], fun i hi => ⟨g, rfl, hg, ?_⟩, hbw⟩
    have hx : ((Pl.offs 0 l).map fun n => Value.int .i64 n)[i]? = some (.int .i64 (Pl.offs 0 l)[i]) := by
      rw [List.getElem?_map, List.getElem?_eq_getElem hi]; rfl
    have := hown.cells (g := g) rfl i _ hx
    rwa [Addr.add_lit, Nat.zero_add] at this

set_option maxHeartbeats 400000 in
theorem sof_nil (W M : Int) (a : Option Addr) (cap : Nat) (w : World) : Calls Tryz.prog 28 #[.agg #[.int .i64 W, .int .i64 M], .slice a 0 cap] w (SofPost [] w) := by
  go_enter Tryz.func28, Tryz.ntmps28
  go_wp2_with fail
  go_loop [5, 6, 11] (fun v x i => i = .int .i64 0 ∧ x = .int .i64 0 ∧ v = .slice none 0 0) (fun _ _ _ => 0)
  case atStart => exact ⟨rfl, rfl, rfl⟩
  case round =>
    obtain ⟨rfl, rfl, rfl⟩ := hrel
    go_wp2_with fail
    go_ret
    exact ⟨none, 0, rfl, fun i h => by simp at h, (Below.refl _ _).alloc (Nat.le_refl _) _⟩

set_option maxRecDepth 100000 in
set_option maxHeartbeats 4000000 in
theorem sof_row (es : List Pl.Ty) (hT : ∀ i (h : i < es.length), SszOk es[i]) (hv : Pl.validL es = true) (W M : Int) (okW : Pl.okW W) (okM : Pl.okM M) (b off cap : Nat) (sv : Nat → Value) (w : World) (hc : es.length ≤ cap) (hr : es.length * 40 ≤ reach)
    (hk : ∀ i (h : i < es.length), w.cell? ⟨b, off + i * 3, none⟩ = some (.int .i64 (es[i]).k) ∧ w.cell? ⟨b, off + i * 3 + 1, none⟩ = some (.int .i64 (es[i]).n) ∧ w.cell? ⟨b, off + i * 3 + 2, none⟩ = some (sv i))
    (h64 : ∀ i (h : i < es.length), Pl.in64 (es[i]).k ∧ Pl.in64 (es[i]).n) (hs : ∀ i (h : i < es.length), Lie w (es[i]).es (sv i)) :
    Calls Tryz.prog 28 #[.agg #[.int .i64 W, .int .i64 M], .slice (some ⟨b, off, none⟩) es.length cap] w (SofPost (Pl.offs 0 (Pl.prs W M es)) w) := by
  unfold reach at hr
  have hpl : (Pl.prs W M es).length = es.length := Pl.prs_length W M es
  have PAIR : Hid (∀ i (h : i < es.length), ∃ h' : i < (Pl.prs W M es).length, (Pl.prs W M es)[i] = (Pl.al W M es[i], Pl.sz W M es[i])) := fun i h => ⟨by omega, Pl.prs_at W M es i h (by omega)⟩
  have ISAL : Hid (∀ t, Pl.isAl (Pl.al W M t)) := fun t => Pl.al_isAl okW okM t
  have ISSZ : Hid (∀ t, Pl.isSize (Pl.sz W M t)) := fun t => Pl.sz_isSize M okW t
  have CALL : Hid (∀ i (h : i < es.length), ∀ wx, Below w.heap.size w wx → Calls Tryz.prog 22 #[.agg #[.int .i64 W, .int .i64 M], .agg #[.int .i64 (es[i]).k, .int .i64 (es[i]).n, sv i]] wx (IntPost (Pl.sz W M es[i]) wx)) :=
    fun i h wx hb => hT i h ((Pl.validL_iff es).1 hv _ (List.getElem_mem h)) (h64 i h).2 (sv i) W M wx okW okM ((hs i h).kept (.of_below hb))
  have ALI : Hid (∀ i (h : i < es.length), ∀ wx, Below w.heap.size w wx → Calls Tryz.prog 21 #[.agg #[.int .i64 W, .int .i64 M], .agg #[.int .i64 (es[i]).k, .int .i64 (es[i]).n, sv i]] wx (IntPost (Pl.al W M es[i]) wx)) :=
    fun i h wx hb => sal_all es[i] (sv i) W M wx okW okM ((hs i h).kept (.of_below hb))
  have SLI : Hid (∀ i (h : i < es.length), ∃ a c, sv i = .slice a (es[i]).es.length c) := fun i h => (hs i h).slice
  have FIN64 : Hid (∀ k, Pl.isSize (Pl.fin 0 ((Pl.prs W M es).take k))) := by
    intro k
    refine Pl.fin_size ⟨by omega, by omega⟩ fun q hq => ?_
    have hq := List.mem_of_mem_take hq
    rw [Pl.prs_map] at hq
    obtain ⟨t, _, rfl⟩ := List.mem_map.1 hq
    exact (Pl.sz_isSize M okW t).2
  have DONE : Hid (∀ (v : Value) (x : Int) (w0 wr : World), w0 = w.alloc (.cells #[.int .i64 W, .int .i64 M] 29) → SofInv w0 (Pl.prs W M es) es.length v x wr → SofPost (Pl.offs 0 (Pl.prs W M es)) w (.returned v) wr) := by
    rintro v x w0 wr rfl h
    rw [← hpl] at h
    obtain ⟨a, c, h1, h2, h3⟩ := h.done
    refine ⟨a, c, h1, fun i hi => ?_, ?_⟩
    · obtain ⟨g, hg1, hg2, hg3⟩ := h2 i hi
      exact ⟨g, hg1, by simp at hg2; omega, hg3⟩
    · exact ((Below.refl _ _).alloc (Nat.le_refl _) _).trans (h3.mono (by simp))
  have HK := hid hk
  obtain ⟨i0, hi, hz0, hz1, hz2⟩ := info_parts info2
  clear hk h64 hs hT hv okW okM hpl
  generalize Pl.prs W M es = l at *
  go_enter Tryz.func28, Tryz.ntmps28
  go_wp2_with fail
  have W0 : Hid (w.alloc (.cells #[.int .i64 W, .int .i64 M] 29) = w.alloc (.cells #[.int .i64 W, .int .i64 M] 29)) := rfl
  have HB0 : Hid (Below w.heap.size w (w.alloc (.cells #[.int .i64 W, .int .i64 M] 29))) := (Below.refl _ _).alloc (Nat.le_refl _) _
  have q0 : (w.alloc (.cells #[.int .i64 W, .int .i64 M] 29)).cell? ⟨w.heap.size, 0, none⟩ = some (.int .i64 W) := by simp
  have q1 : (w.alloc (.cells #[.int .i64 W, .int .i64 M] 29)).cell? ⟨w.heap.size, 1, none⟩ = some (.int .i64 M) := by simp
  have q2 : (w.alloc (.cells #[.int .i64 W, .int .i64 M] 29)).heap.size = w.heap.size + 1 := by simp
  have Q0 := hid q0
  have Q1 := hid q1
  have Q2 := hid q2
  have DN := hid (fun v x wr => DONE.out v x (w.alloc (.cells #[.int .i64 W, .int .i64 M] 29)) wr rfl)
  clear q0 q1 q2 W0
  generalize w.alloc (.cells #[.int .i64 W, .int .i64 M] 29) = w0 at *
  go_loopw [5, 6, 11] (fun v x i wr => ∃ (k : Nat) (y : Int) (u : Value), k ≤ es.length ∧ i = .int .i64 k ∧ x = .int .i64 y ∧ u = v ∧ SofInv w0 l k u y wr) (fun _ _ i _ => es.length - (intOf i).toNat)
  case atStart => exact ⟨0, 0, _, Nat.zero_le _, rfl, rfl, rfl, SofInv.start w0 l⟩
  case round =>
    obtain ⟨k, y, v, hk, rfl, rfl, rfl, hinv⟩ := hrel
    by_cases hlt : k < es.length
    · obtain ⟨c0, c1, c2⟩ := HK.out k hlt
      obtain ⟨hkl, hpair⟩ := PAIR.out k hlt
      obtain ⟨sa, sc, hsv⟩ := SLI.out k hlt
      have CALLK := hid (CALL.out k hlt)
      have ALIK := hid (ALI.out k hlt)
      rw [hsv] at c2 CALLK ALIK
      have HINV := hid hinv
      obtain ⟨hown, hyf, hb0w⟩ := hinv
      have hbw : Below w.heap.size w wr := HB0.out.trans (hb0w.mono (by rw [Q2.out]; omega))
      have HBW := hid hbw
      have hbl : b < w.heap.size := World.block_lt_of_cell? _ _ c0
      have hbr : b < wr.heap.size := Nat.lt_of_lt_of_le hbl hbw.size
      have d0 := (bcell hbw _ _ hbl).trans c0
      have d1 := (bcell hbw _ _ hbl).trans c1
      have d2 := (bcell hbw _ _ hbl).trans c2
      have hq2 := Q2.out
      have p0 := (bcell hb0w w.heap.size 0 (by omega)).trans Q0.out
      have p1 := (bcell hb0w w.heap.size 1 (by omega)).trans Q1.out
      have pz : w.heap.size < wr.heap.size := by have := hb0w.size; omega
      have hy64 : Pl.isSize y := by rw [hyf]; exact FIN64.out k
      have hA := ISAL.out es[k]
      have hS := ISSZ.out es[k]
      have STEP : Hid (∀ (w1 w5 w6 : World) (v' : Value), Below wr.heap.size wr w1 → w5.ownsRow w0.heap.size 2 1 v' (k + 1) ((((Pl.offs 0 l).take k).map fun n => Value.int .i64 n) ++ [.int .i64 (Pl.up y (Pl.al W M es[k]))]) → w1.grownBy w5 v.ownBlock → Below w5.heap.size w5 w6 →
          SofInv w0 l (k + 1) v' (Pl.sum (Pl.up y (Pl.al W M es[k])) (Pl.sz W M es[k])) w6) := by
        intro w1 w5 w6 v' h1 h2 h3 h4
        have := HINV.out.step hkl (w1 := w1) (w5 := w5) (w6 := w6) (v' := v') h1 (by rw [hpair]; exact h2) h3 h4
        rw [hpair] at this
        exact this
      have OWN := hid hown
      have OWL := hid (fun j hj => (hown.lt j hj).1)
      have HB0W := hid hb0w
      have HA := hid hA
      have HS := hid hS
      have HY := hid hy64
      clear hown hyf hb0w hbw hA hS hy64 hpair hsv c0 c1 c2 hq2
      generalize Pl.al W M es[k] = A at *
      generalize Pl.sz W M es[k] = S at *
      go_wp2_with fail
      have hb1 : Below wr.heap.size wr (wr.alloc (Obj.cells #[Value.int IntKind.i64 es[k].k, Value.int IntKind.i64 es[k].n, Value.slice sa es[k].es.length sc] 25)) := (Below.refl _ _).alloc (Nat.le_refl _) _
      refine (ALIK.out _ (below_of HBW.out hb1)).mono ?_
      rintro e w2 ⟨rfl, hb2⟩
      have HB2 := hid (below_of hb1 hb2)
      have hs2 : wr.heap.size < w2.heap.size := by have := hb2.size; simp at this; omega
      have e0 : w2.cell? ⟨wr.heap.size, 0, none⟩ = some (.int .i64 es[k].k) := by rw [bcell hb2 _ _ (by simp)]; simp
      have e1 : w2.cell? ⟨wr.heap.size, 1, none⟩ = some (.int .i64 es[k].n) := by rw [bcell hb2 _ _ (by simp)]; simp
      have e2 : w2.cell? ⟨wr.heap.size, 2, none⟩ = some (.slice sa es[k].es.length sc) := by rw [bcell hb2 _ _ (by simp)]; simp
      have f0 := (bcell HB2.out w.heap.size 0 pz).trans p0
      have f1 := (bcell HB2.out w.heap.size 1 pz).trans p1
      have fz : w.heap.size < w2.heap.size := by omega
      clear hb1 hb2 d0 d1 d2 p0 p1
      go_wp2_with (first | (go_at_call 35; refine (up_any _ _ _ HY.out.in64 HA.out).mono ?_; rintro e w' ⟨rfl, rfl⟩) | (at_builtin; (refine wpList_append_own_at _ rfl _ _ 41 rfl w0.heap.size 2 i0 (.int .i64 0) 1 8 Tryz.underlying41 hi hz0 hz1 hz2 rfl (by decide) _ _ _ rfl ((own_below OWN.out HB2.out).alloc _) ⟨w2.heap.size, 0, none⟩ 1 1 [.int .i64 (Pl.up y A)] rfl rfl ?c1 ?c2 ?c3 ?c4 ?c5 ?_)))
      case c1 =>
        intro j u hj
        match j, hj with
        | 0, hj => simp at hj; subst hj; simp [Addr.add]
      case c2 => intro u hu; simp at hu; subst hu; rfl
      case c3 => unfold maxLen; omega
      case c4 => omega
      case c5 =>
        have h1 := HB0W.out.size
        have h2 := HB2.out.size
        simp; omega
      intro v' w5 hown' hgrow _ hat
      have HOWN := hid hown'
      have HOWN : Hid (w5.ownsRow w0.heap.size 2 1 v' (k + 1) ((((Pl.offs 0 l).take k).map fun n => Value.int .i64 n) ++ [.int .i64 (Pl.up y A)])) := by rw [List.map_take]; exact HOWN.out
      have HGR := hid hgrow
      have hgs := hgrow.size
      have hnb : ∀ j, j < w.heap.size + 1 → v.ownBlock ≠ some j := fun j hj e => by have := OWL.out j e; rw [Q2.out] at this; omega
      have hnr : v.ownBlock ≠ some wr.heap.size := fun e => by have := (OWN.out.lt _ e).2; omega
      have old : ∀ j o, j < w2.heap.size → v.ownBlock ≠ some j → w5.cell? ⟨j, o, none⟩ = w2.cell? ⟨j, o, none⟩ := by
        intro j o hj hne
        rw [World.cell?_of_block (w := w2.alloc (.cells #[.int .i64 (Pl.up y A)] 2)) (a := ⟨j, o, none⟩) (hgrow.block j (by simp; omega) (fun e => hne e.symm))]
        exact World.cell?_alloc_lt _ _ _ hj
      have g0 := (old w.heap.size 0 fz (hnb _ (by omega))).trans f0
      have g1 := (old w.heap.size 1 fz (hnb _ (by omega))).trans f1
      have r0 := (old wr.heap.size 0 hs2 hnr).trans e0
      have r1 := (old wr.heap.size 1 hs2 hnr).trans e1
      have r2 := (old wr.heap.size 2 hs2 hnr).trans e2
      have HB5 : Hid (Below w.heap.size w w5) := by
        refine ((below_of HBW.out HB2.out).alloc (by omega) _).grown hgrow (by simp; omega) fun j hj => ?_
        have := OWL.out j hj
        rw [Q2.out] at this
        omega
      clear hown' hgrow hat e0 e1 e2 f0 f1 hnb hnr old
      go_wp2_with fail
      refine (CALLK.out _ HB5.out).mono ?_
      rintro e w6 ⟨rfl, hb6⟩
      have INV := hid (STEP.out _ w5 w6 v' (HB2.out.alloc HB2.out.size (.cells #[.int .i64 (Pl.up y A)] 2)) HOWN.out HGR.out hb6)
      clear hb6 r0 r1 r2 g0 g1
      have US := hid (Pl.up_size y A HA.out.le.1 HA.out.le.2).in64
      go_wp2_with (go_at_call 33; refine (sum_any _ _ _ US.out HS.out.in64).mono ?_; rintro e w' ⟨rfl, rfl⟩)
      go_roundw
      case rel => exact ⟨k + 1, _, _, by omega, by go_num, rfl, rfl, INV.out⟩
      case measure => simp [intOf]; omega
    · obtain rfl : k = es.length := by omega
      have POST := hid (DN.out _ _ _ hinv)
      clear hinv
      go_wp2_with fail
      go_ret
      exact POST.out
end Go.Proofs.YtphfjojdiilneaaGreatDoor
