/- The walk of fields: blank fields of some types, each made by typ. -/
import Derived.Test.YtphfjojdiilneaaGreatDoorStr
import Derived.Maps.AppendAt
import Derived.Deep.LoopGhost
set_option linter.unusedVariables false
set_option linter.unusedSimpArgs false
namespace Go.Proofs.YtphfjojdiilneaaGreatDoor
open Go.RowKit

/-- What typ hands back. -/
def TypPost (t : Pl.Ty) (w : World) (e : Ending) (w' : World) : Prop :=
  ∃ T b : Nat, e = .returned (.iface T (.pointer (some ⟨b, 0, none⟩))) ∧ Rep (memBut w.heap.size none w') t T b ∧ Below w.heap.size w w'
/-- typ's contract at one type. -/
def TypOk (t : Pl.Ty) : Prop := ∀ (sv : Value) (w : World), Lie w t.es sv → Pl.in64 t.k → Pl.in64 t.n → Calls Tryz.prog 30 #[.agg #[.int .i64 t.k, .int .i64 t.n, sv]] w (TypPost t w)

/-- What fields hands back. -/
def FldPost (es : List Pl.Ty) (w : World) (e : Ending) (w' : World) : Prop :=
  ∃ (a : Option Addr) (cap : Nat) (vb Tb bb : Nat → Nat), e = .returned (.slice a es.length cap) ∧ (a = none → cap = 0 ∧ es.length = 0) ∧ (∀ x, a = some x → x.off = 0 ∧ x.spot = none) ∧ FieldCells (memBut w.heap.size none w') es.length a vb Tb bb ∧
    (∀ i (h : i < es.length), Rep (memBut w.heap.size none w') es[i] (Tb i) (bb i)) ∧ Below w.heap.size w w'

/-- Behind k rounds. -/
def FldInv (w : World) (es : List Pl.Ty) (k : Nat) (v : Value) (wr : World) : Prop :=
  ∃ vb Tb bb : Nat → Nat, wr.ownsRow w.heap.size 68 1 v k ((List.range k).map fun i => .pointer (some ⟨vb i, 0, none⟩)) ∧ Below w.heap.size w wr ∧
    ∀ i, i < k → ∀ h : i < es.length, memBut w.heap.size v.ownBlock wr ⟨vb i, 2, none⟩ = some (.string ⟨#[95]⟩) ∧ memBut w.heap.size v.ownBlock wr ⟨vb i, 3, none⟩ = some (.iface (Tb i) (.pointer (some ⟨bb i, 0, none⟩))) ∧
      Rep (memBut w.heap.size v.ownBlock wr) es[i] (Tb i) (bb i)

theorem FldInv.start (w : World) (es : List Pl.Ty) : FldInv w es 0 (.slice none 0 0) w :=
  ⟨fun _ => 0, fun _ => 0, fun _ => 0, World.ownsRow_nil _ _ _ _, Below.refl _ _, fun i hi => by omega⟩

theorem FldInv.below {w : World} {es : List Pl.Ty} {k : Nat} {v : Value} {wr : World} (h : FldInv w es k v wr) : Below w.heap.size w wr := by
  obtain ⟨_, _, _, _, h, _⟩ := h; exact h

/-- The two blocks that a round makes behind typ: the variable, and the slice of one cell for the append. -/
def laid2 (w2 : World) (T b : Nat) (c0 c1 c4 c5 : Value) (t0 t1 : TypeId) : World :=
  (w2.alloc (.cells #[c0, c1, .string ⟨#[95]⟩, .iface T (.pointer (some ⟨b, 0, none⟩)), c4, c5] t0)).alloc (.cells #[.pointer (some ⟨w2.heap.size, 0, none⟩)] t1)

theorem own_later {w wr w1 w2 : World} {k : Nat} {v : Value} {xs : List Value} (hown : wr.ownsRow w.heap.size 68 1 v k xs) (hb1 : Below wr.heap.size wr w1) (hb2 : Below w1.heap.size w1 w2) (o o' : Obj) :
    ((w2.alloc o).alloc o').ownsRow w.heap.size 68 1 v k xs := by
  have hb := below_of hb1 hb2
  exact ((hown.kept (row := none) ⟨hb.os, hb.tape, hb.output, hb.size, fun j hj _ => hb.block j hj⟩ (by cases hv : v.ownBlock <;> simp)).alloc _).alloc _

/-- One round more: the type's value was made (w1 to w2), then the variable, then the one-cell slice, then the append. -/
theorem FldInv.step {w : World} {es : List Pl.Ty} {k : Nat} {v : Value} {wr w1 w2 w5 : World} {vb Tb bb : Nat → Nat} (hk : k < es.length)
    (hown : wr.ownsRow w.heap.size 68 1 v k ((List.range k).map fun i => .pointer (some ⟨vb i, 0, none⟩))) (hbw : Below w.heap.size w wr)
    (hall : ∀ i, i < k → ∀ h : i < es.length, memBut w.heap.size v.ownBlock wr ⟨vb i, 2, none⟩ = some (.string ⟨#[95]⟩) ∧ memBut w.heap.size v.ownBlock wr ⟨vb i, 3, none⟩ = some (.iface (Tb i) (.pointer (some ⟨bb i, 0, none⟩))) ∧
      Rep (memBut w.heap.size v.ownBlock wr) es[i] (Tb i) (bb i))
    (hb1 : Below wr.heap.size wr w1) {T b : Nat} (hrep : Rep (memBut w1.heap.size none w2) es[k] T b) (hb2 : Below w1.heap.size w1 w2) {c0 c1 c4 c5 : Value} {t0 t1 : TypeId} {v' : Value}
    (hown' : w5.ownsRow w.heap.size 68 1 v' (k + 1) (((List.range k).map fun i => .pointer (some ⟨vb i, 0, none⟩)) ++ [.pointer (some ⟨w2.heap.size, 0, none⟩)]))
    (hg : (laid2 w2 T b c0 c1 c4 c5 t0 t1).grownBy w5 v.ownBlock) (hv : v'.ownBlock = v.ownBlock ∨ v'.ownBlock = some (w2.heap.size + 1 + 1)) : FldInv w es (k + 1) v' w5 := by
  have s0 := hbw.size
  have s1 := hb1.size
  have s2 := hb2.size
  have s4 : (laid2 w2 T b c0 c1 c4 c5 t0 t1).heap.size = w2.heap.size + 1 + 1 := by simp [laid2]
  have s5 := hg.size
  have hlt := hown.lt
  have blk : ∀ j, j < w2.heap.size → some j ≠ v.ownBlock → w5.heap[j]? = w2.heap[j]? := by
    intro j hj hne
    rw [hg.block j (by omega) hne]
    unfold laid2
    rw [Below.heap_alloc _ _ _ (by simp; omega), Below.heap_alloc _ _ _ hj]
  have new : w5.heap[w2.heap.size]? = some (.cells #[c0, c1, .string ⟨#[95]⟩, .iface T (.pointer (some ⟨b, 0, none⟩)), c4, c5] t0) := by
    rw [hg.block w2.heap.size (by omega) (fun e => by have := (hlt _ e.symm).2; omega)]
    unfold laid2
    rw [Below.heap_alloc _ _ _ (by simp), heap_alloc_new]
  have nev' : ∀ j, j < w2.heap.size + 1 + 1 → some j ≠ v.ownBlock → some j ≠ v'.ownBlock := by
    intro j hj hne
    rcases hv with e | e
    · rw [e]; exact hne
    · rw [e]; intro h; have := Option.some.inj h; omega
  have nev : ∀ j, wr.heap.size ≤ j → some j ≠ v.ownBlock := fun j hj e => by have := (hlt _ e.symm).2; omega
  have subOld : Sub (memBut w.heap.size v.ownBlock wr) (memBut w.heap.size v'.ownBlock w5) := by
    refine memBut_mono (Nat.le_refl _) fun j _ hj hne => ⟨nev' j (by omega) hne, ?_⟩
    rw [blk j (by omega) hne, hb2.block j (by omega), hb1.block j hj]
  have subNew : Sub (memBut w1.heap.size none w2) (memBut w.heap.size v'.ownBlock w5) := by
    refine memBut_mono (by omega) fun j hj1 hj _ => ?_
    have hne := nev j (by omega)
    exact ⟨nev' j (by omega) hne, blk j hj hne⟩
  have at5 : ∀ (o : Nat) (u : Value), (#[c0, c1, .string ⟨#[95]⟩, .iface T (.pointer (some ⟨b, 0, none⟩)), c4, c5] : Array Value)[o]? = some u → memBut w.heap.size v'.ownBlock w5 ⟨w2.heap.size, o, none⟩ = some u := by
    intro o u hu
    refine memBut_at (by show w.heap.size ≤ w2.heap.size; omega) (nev' _ (by show w2.heap.size < _; omega) (nev _ (by show wr.heap.size ≤ w2.heap.size; omega))) ?_
    simp only [World.cell?, new]
    simpa using hu
  refine ⟨fun i => if i = k then w2.heap.size else vb i, fun i => if i = k then T else Tb i, fun i => if i = k then b else bb i, ?_, ?_, ?_⟩
  · have e : ((List.range (k + 1)).map fun i => Value.pointer (some ⟨if i = k then w2.heap.size else vb i, 0, none⟩)) = ((List.range k).map fun i => Value.pointer (some ⟨vb i, 0, none⟩)) ++ [.pointer (some ⟨w2.heap.size, 0, none⟩)] := by
      rw [List.range_succ, List.map_append]
      congr 1
      · refine List.map_congr_left fun i hi => ?_
        have := List.mem_range.1 hi
        rw [if_neg (by omega)]
      · simp
    rw [e]
    exact hown'
  · refine Below.grown (w := laid2 w2 T b c0 c1 c4 c5 t0 t1) ?_ hg (by omega) fun j hj => (hlt j hj).1
    exact (((hbw.trans (hb1.mono (by omega))).trans (hb2.mono (by omega))).alloc (by omega) _).alloc (by simp; omega) _
  · intro i hi h
    by_cases hik : i = k
    · subst hik
      simp only [if_true]
      exact ⟨at5 2 _ rfl, at5 3 _ rfl, hrep.sub subNew⟩
    · simp only [if_neg hik]
      obtain ⟨h1, h2, h3⟩ := hall i (by omega) h
      exact ⟨subOld _ _ h1, subOld _ _ h2, h3.sub subOld⟩

/-- At the loop's end. -/
theorem FldInv.done {w : World} {es : List Pl.Ty} {v : Value} {wr : World} (h : FldInv w es es.length v wr) : FldPost es w (.returned v) wr := by
  obtain ⟨vb, Tb, bb, hown, hbw, hall⟩ := h
  have sub : Sub (memBut w.heap.size v.ownBlock wr) (memBut w.heap.size none wr) := memBut_mono (Nat.le_refl _) fun j _ _ _ => ⟨by simp, rfl⟩
  rcases hown.2 with ⟨rfl, h0⟩ | ⟨g, cap, cur, rfl, hg, hh, hc, _, hs, ht⟩
  · exact ⟨none, 0, vb, Tb, bb, by rw [h0], fun _ => ⟨rfl, h0⟩, (fun _ h => by cases h), fun i hi => by omega, fun i h => by omega, hbw⟩
  · refine ⟨some ⟨g, 0, none⟩, cap, vb, Tb, bb, rfl, (fun h => by cases h), (fun x h => by cases h; exact ⟨rfl, rfl⟩), fun i hi => ?_, fun i h => ((hall i h h).2.2).sub sub, hbw⟩
    obtain ⟨h1, h2, _⟩ := hall i hi hi
    refine ⟨g, rfl, ?_, sub _ _ h1, sub _ _ h2⟩
    refine memBut_at hg (by simp) ?_
    have hx : ((List.range es.length).map fun i => Value.pointer (some ⟨vb i, 0, none⟩))[i]? = some (.pointer (some ⟨vb i, 0, none⟩)) := by
      rw [List.getElem?_map, List.getElem?_range hi]; rfl
    have := hown.cells (g := g) rfl i _ hx
    rwa [Addr.add_lit, Nat.zero_add] at this


theorem info68 : (Tryz.prog.info? 68).map (fun i => (i.zero, i.size, i.bytes)) = some (some (.pointer none), 1, 8) := by kernel_rfl

set_option maxHeartbeats 400000 in
theorem fields_nil (a : Option Addr) (cap : Nat) (w : World) : Calls Tryz.prog 38 #[.slice a 0 cap] w (FldPost [] w) := by
  have F := hid (FldInv.start w []).done
  go_enter Tryz.func38, Tryz.ntmps38
  go_wp2_with fail
  go_loopw [3, 8] (fun v i wr => i = .int .i64 0 ∧ v = .slice none 0 0 ∧ w = wr) (fun _ _ _ => 0)
  case atStart => exact ⟨rfl, rfl, rfl⟩
  case round =>
    obtain ⟨rfl, rfl, rfl⟩ := hrel
    go_wp2_with fail
    go_ret
    exact F.out

set_option maxHeartbeats 800000 in
theorem fields_row (es : List Pl.Ty) (hT : ∀ i (h : i < es.length), TypOk es[i]) (b off cap : Nat) (sv : Nat → Value) (w : World) (hc : es.length ≤ cap) (hr : es.length * 40 ≤ reach)
    (hk : ∀ i (h : i < es.length), w.cell? ⟨b, off + i * 3, none⟩ = some (.int .i64 (es[i]).k) ∧ w.cell? ⟨b, off + i * 3 + 1, none⟩ = some (.int .i64 (es[i]).n) ∧ w.cell? ⟨b, off + i * 3 + 2, none⟩ = some (sv i))
    (h64 : ∀ i (h : i < es.length), Pl.in64 (es[i]).k ∧ Pl.in64 (es[i]).n) (hs : ∀ i (h : i < es.length), Lie w (es[i]).es (sv i)) :
    Calls Tryz.prog 38 #[.slice (some ⟨b, off, none⟩) es.length cap] w (FldPost es w) := by
  unfold reach at hr
  have F : Hid (∀ (v : Value) (wr : World), FldInv w es es.length v wr → FldPost es w (.returned v) wr) := fun _ _ h => h.done
  have HK := hid hk
  have H64 := hid h64
  have HS := hid hs
  have HT := hid hT
  clear hk h64 hs hT
  obtain ⟨i0, hi, hz0, hz1, hz2⟩ := info_parts info68
  go_enter Tryz.func38, Tryz.ntmps38
  go_wp2_with fail
  go_loopw [3, 8] (fun v i wr => ∃ k : Nat, k ≤ es.length ∧ i = .int .i64 k ∧ FldInv w es k v wr) (fun _ i _ => es.length - (intOf i).toNat)
  case atStart => exact ⟨0, Nat.zero_le _, rfl, FldInv.start w es⟩
  case round =>
    obtain ⟨k, hk, rfl, hinv⟩ := hrel
    by_cases hlt : k < es.length
    · obtain ⟨vb, Tb, bb, hown, hbw, hall⟩ := hinv
      obtain ⟨c0, c1, c2⟩ := HK.out k hlt
      have lie := HS.out k hlt
      obtain ⟨sa, sc, hsv⟩ := lie.slice
      rw [hsv] at c2 lie
      have LIE := hid (lie.kept (.of_below hbw))
      clear hsv lie
      have hbl : b < w.heap.size := World.block_lt_of_cell? _ _ c0
      have d0 := (hbw.cell (p := ⟨b, off + k * 3, none⟩) hbl).trans c0
      have d1 := (hbw.cell (p := ⟨b, off + k * 3 + 1, none⟩) hbl).trans c1
      have d2 := (hbw.cell (p := ⟨b, off + k * 3 + 2, none⟩) hbl).trans c2
      have hbr : b < wr.heap.size := Nat.lt_of_lt_of_le hbl hbw.size
      have OWN := hid hown
      have BW := hid hbw
      have ALL := hid hall
      clear hown hbw hall c0 c1 c2
      go_wp2_with fail
      have hb1 : Below wr.heap.size wr (wr.alloc (Obj.cells #[Value.int IntKind.i64 es[k].k, Value.int IntKind.i64 es[k].n, Value.slice sa es[k].es.length sc] 25)) := (Below.refl _ _).alloc (Nat.le_refl _) _
      refine (HT.out k hlt _ _ (LIE.out.kept (.of_below hb1)) (H64.out k hlt).1 (H64.out k hlt).2).mono ?_
      rintro e w2 ⟨T, b2, rfl, hrep, hb2⟩
      have REP := hid hrep
      have HB1 := hid hb1
      have HB2 := hid hb2
      have hsz : wr.heap.size < w2.heap.size := by have := hb2.size; simp at this; omega
      have hsw : w.heap.size ≤ wr.heap.size := BW.out.size
      clear hrep hb1 hb2 d0 d1 d2
      go_wp2_with fail
      refine (newField_any _ _ _).mono ?_
      rintro e w3 ⟨rfl, rfl⟩
      go_wp2_with (at_builtin; (refine wpList_append_own_at _ rfl _ _ 56 rfl w.heap.size 68 i0 (.pointer none) 1 8 Tryz.underlying56 hi hz0 hz1 hz2 rfl (by decide) _ _ _ rfl (own_later OWN.out HB1.out HB2.out _ _) ⟨w2.heap.size + 1, 0, none⟩ 1 1 [.pointer (some ⟨w2.heap.size, 0, none⟩)] rfl rfl ?c1 ?c2 ?c3 ?c4 ?c5 ?_))
      case c1 =>
        intro j u hj
        match j, hj with
        | 0, hj => simp at hj; subst hj; simp [Addr.add]
      case c2 => intro u hu; simp at hu; subst hu; rfl
      case c3 => unfold maxLen; omega
      case c4 => omega
      case c5 => simp; omega
      intro v' w5 hown' hgrow _ hat
      have INV := hid (FldInv.step hlt OWN.out BW.out ALL.out HB1.out REP.out HB2.out hown' hgrow hat)
      clear hown' hgrow hat
      go_wp2
      go_roundw
      case rel => exact ⟨k + 1, by omega, by go_num, INV.out⟩
      case measure => simp [intOf]; omega
    · obtain rfl : k = es.length := by omega
      have POST := hid (F.out _ _ hinv)
      clear hinv
      go_wp2_with fail
      go_ret
      exact POST.out

theorem fields_of (es : List Pl.Ty) (hT : ∀ i (h : i < es.length), TypOk es[i]) (v : Value) (w : World) (hl : Lie w es v) : Calls Tryz.prog 38 #[v] w (FldPost es w) := by
  cases hl with
  | nil a cap => exact fields_nil a cap w
  | row b off cap es sv hc hr hk h64 hs => exact fields_row es hT b off cap sv w hc hr hk h64 hs
end Go.Proofs.YtphfjojdiilneaaGreatDoor
