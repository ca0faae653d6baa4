/- The walk of Offsetsof: the offsets of some fields, by Sizeof's contract at each. -/
import Derived.Test.YtphfjojdiilneaaGreatDoorSza
import Derived.Deep.OwnRows
set_option linter.unusedVariables false
set_option linter.unusedSimpArgs false
namespace Go.Proofs.YtphfjojdiilneaaGreatDoor
open Go.RowKit

theorem Pl.alike_sum {y u d s : Int} (hy : Pl.Alike y u) (hd : Pl.Alike d s) : (d < 0 ∨ y < 0 → Pl.sum u s = -1) ∧ (0 ≤ d → 0 ≤ y → y + d ≤ 9223372036854775807 → Pl.sum u s = y + d) ∧ (0 ≤ d → 0 ≤ y → 9223372036854775807 < y + d → Pl.sum u s = -1) := by
  refine ⟨fun h => ?_, fun h1 h2 h3 => ?_, fun h1 h2 h3 => ?_⟩
  · rcases h with h | h
    · exact Pl.sum_neg_right _ _ (hd.neg h)
    · exact Pl.sum_neg_left _ _ (hy.neg h)
  · rw [hy.eq h2, hd.eq h1]; exact Pl.sum_fit _ _ h2 h1 h3
  · rw [hy.eq h2, hd.eq h1]; exact Pl.sum_big _ _ h3

/-- A slice of its own, of numbers alike xs. -/
def OfsPost (xs : List Int) (w : World) (e : Ending) (w' : World) : Prop :=
  ∃ (b : Nat) (r : Nat → Int), e = .returned (.slice (some ⟨b, 0, none⟩) xs.length xs.length) ∧ w'.rowIs b 2 xs.length (fun i => .int .i64 (r i)) ∧ (∀ i (h : i < xs.length), Pl.Alike (r i) xs[i] ∧ Pl.in64 (r i)) ∧ w.heap.size ≤ b ∧ Below w.heap.size w w'

/-- Behind k rounds. -/
def OfsInv (w : World) (l : List (Int × Int)) (k : Nat) (x : Int) (wr : World) : Prop :=
  ∃ r : Nat → Int, wr.rowIs w.heap.size 2 l.length (fun i => .int .i64 (r i)) ∧ (∀ i, i < k → ∀ h : i < (Pl.offs 0 l).length, Pl.Alike (r i) (Pl.offs 0 l)[i] ∧ Pl.in64 (r i)) ∧ Pl.Alike x (Pl.fin 0 (l.take k)) ∧ Pl.in64 x ∧ Below w.heap.size w wr

theorem OfsInv.start (w : World) (l : List (Int × Int)) : OfsInv w l 0 0 (w.alloc (.cells (madeCells #[.int .i64 0] l.length) 2)) :=
  ⟨fun _ => 0, World.rowIs_made _ _ _ _, fun i hi => by omega, .of_eq rfl (by simp [Pl.fin]), ⟨by omega, by omega⟩, (Below.refl _ _).alloc (Nat.le_refl _) _⟩
theorem OfsInv.step {w : World} {l : List (Int × Int)} {k : Nat} {x : Int} {wr : World} (hk : k < l.length) (h : OfsInv w l k x wr) {w1 : World} (hb1 : Below wr.heap.size wr w1) {y : Int}
    (hy : Pl.Alike y (Pl.up (Pl.fin 0 (l.take k)) (l[k]).1)) (h64 : Pl.in64 y) {w3 : World} (hb3 : Below w1.heap.size (w1.setCell ⟨w.heap.size, k, none⟩ (.int .i64 y)) w3) {z : Int}
    (hz : Pl.Alike z (Pl.sum (Pl.up (Pl.fin 0 (l.take k)) (l[k]).1) (l[k]).2)) (hz64 : Pl.in64 z) : OfsInv w l (k + 1) z w3 := by
  obtain ⟨r, hrow, hall, hx, hx64, hbw⟩ := h
  have hlt := hrow.lt
  have r1 := hrow.of_block (hb1.block _ hlt)
  have r2 := r1.set k (.int .i64 y)
  have r3 := r2.of_block (hb3.block _ (Nat.lt_of_lt_of_le hlt hb1.size))
  refine ⟨fun j => if j = k then y else r j, r3.congr ?_, ?_, ?_, hz64, ?_⟩
  · intro j hj
    by_cases e : j = k <;> simp [e]
  · intro i hi h
    by_cases e : i = k
    · subst e
      simp only [if_true]
      rw [Pl.offs_at 0 l i hk h]
      exact ⟨hy, h64⟩
    · simp only [e, if_false]
      exact hall i (by omega) h
  · rw [Pl.fin_take_succ 0 l k hk]; exact hz
  · exact ((below_of hbw hb1).setCell (Nat.le_refl _) _).trans (hb3.mono (Nat.le_trans (Nat.le_of_lt hlt) hb1.size))
theorem OfsInv.done {w : World} {l : List (Int × Int)} {x : Int} {wr : World} (h : OfsInv w l l.length x wr) : OfsPost (Pl.offs 0 l) w (.returned (.slice (some ⟨w.heap.size, 0, none⟩) l.length l.length)) wr := by
  obtain ⟨r, hrow, hall, hx, hx64, hbw⟩ := h
  have e := Pl.offs_length 0 l
  exact ⟨w.heap.size, r, by rw [e], by rw [e]; exact hrow, fun i hi => hall i (by omega) hi, Nat.le_refl _, hbw⟩

theorem info2 : (Tryz.prog.info? 2).map (fun i => (i.zero, i.size, i.bytes)) = some (some (.int .i64 0), 1, 8) := by kernel_rfl

set_option maxRecDepth 100000 in
set_option maxHeartbeats 4000000 in
theorem ofs_of (es : List Pl.Ty) (HT : ∀ i (h : i < es.length), SzOk es[i]) (a : Option Addr) (cap p : Nat) (vb Tb bb : Nat → Nat) (W M : Int) (w : World) (env : Env w p W M) (hl : es.length * 8 ≤ reach)
    (hf : FieldCells w.cell? es.length a vb Tb bb) (ht : ∀ i (h : i < es.length), Rep w.cell? es[i] (Tb i) (bb i)) :
    Calls Tryz.prog 37 #[.pointer (some ⟨p, 0, none⟩), .slice a es.length cap] w (OfsPost (Pl.offs 0 (Pl.prs W M es)) w) := by
  unfold reach at hl
  have hmk := run_make_row' (P := Tryz.prog) 41 2 (.int .i64 0) 8 Tryz.underlying41 info2 rfl .i64 .i64 es.length (by omega) (by omega)
  have hpl : (Pl.prs W M es).length = es.length := Pl.prs_length W M es
  have START : Hid (OfsInv w (Pl.prs W M es) 0 0 (w.alloc (.cells (madeCells #[.int .i64 0] es.length) 2))) := by
    have := OfsInv.start w (Pl.prs W M es)
    rw [hpl] at this
    exact this
  have CALL : Hid (∀ i (h : i < es.length), ∀ wx, Below w.heap.size w wx → Calls Tryz.prog 36 #[.pointer (some ⟨p, 0, none⟩), .iface (Tb i) (.pointer (some ⟨bb i, 0, none⟩))] wx (SzPost (Pl.sz W M es[i]) wx)) :=
    fun i h wx hb => HT i h (Tb i) (bb i) p W M wx ((ht i h).sub (Kept.of_below hb).sub) (env.kept (.of_below hb))
  have ALI : Hid (∀ i (h : i < es.length), ∀ wx, Below w.heap.size w wx → Calls Tryz.prog 29 #[.pointer (some ⟨p, 0, none⟩), .iface (Tb i) (.pointer (some ⟨bb i, 0, none⟩))] wx (AlPost (Pl.al W M es[i]) wx)) :=
    fun i h wx hb => al_all es[i] (Tb i) (bb i) p W M wx ((ht i h).sub (Kept.of_below hb).sub) (env.kept (.of_below hb))
  have ISAL : Hid (∀ t, Pl.isAl (Pl.al W M t)) := fun t => Pl.al_isAl env.okW env.okM t
  have PAIR : Hid (∀ i (h : i < es.length), ∃ h' : i < (Pl.prs W M es).length, (Pl.prs W M es)[i] = (Pl.al W M es[i], Pl.sz W M es[i])) := fun i h => ⟨by omega, Pl.prs_at W M es i h (by omega)⟩
  have POST : Hid (∀ x wr, OfsInv w (Pl.prs W M es) es.length x wr → OfsPost (Pl.offs 0 (Pl.prs W M es)) w (.returned (.slice (some ⟨w.heap.size, 0, none⟩) es.length es.length)) wr) := by
    intro x wr h
    have := h
    rw [← hpl] at this
    have := this.done
    rwa [hpl] at this
  have HF := hid hf
  have HPL := hid hpl
  clear HT ht env hf hpl
  generalize Pl.prs W M es = l at *
  go_enter Tryz.func37, Tryz.ntmps37
  go_wp2_with fail
  go_loopw [6, 16] (fun x i wr => ∃ (k : Nat) (y : Int), k ≤ es.length ∧ i = .int .i64 k ∧ x = .int .i64 y ∧ OfsInv w l k y wr) (fun _ i _ => es.length - (intOf i).toNat)
  case atStart => exact ⟨0, 0, Nat.zero_le _, rfl, rfl, START.out⟩
  case round =>
    obtain ⟨k, y, hk, rfl, rfl, hinv⟩ := hrel
    by_cases hlt : k < es.length
    · obtain ⟨g, rfl, c0, _, c1⟩ := HF.out k hlt
      obtain ⟨hkl, hpair⟩ := PAIR.out k hlt
      have HINV := hid hinv
      have hrow := hinv
      obtain ⟨r, hrow, _, hx, hx64, hbw⟩ := hrow
      have r0 := hrow.cell hkl
      have r1 := hrow.frozen k
      have hlw := hrow.lt
      have HBW := hid hbw
      have hg : g < w.heap.size := World.block_lt_of_cell? _ _ c0
      have hv : vb k < w.heap.size := World.block_lt_of_cell? _ _ c1
      have d0 := (bcell hbw g k hg).trans c0
      have d1 := (bcell hbw (vb k) 3 hv).trans c1
      have STEP : Hid (∀ (w1 : World) (y2 : Int) (w3 : World) (z : Int), Below wr.heap.size wr w1 → Pl.Alike y2 (Pl.up (Pl.fin 0 (l.take k)) (Pl.al W M es[k])) → Pl.in64 y2 → Below w1.heap.size (w1.setCell ⟨w.heap.size, k, none⟩ (.int .i64 y2)) w3 →
          Pl.Alike z (Pl.sum (Pl.up (Pl.fin 0 (l.take k)) (Pl.al W M es[k])) (Pl.sz W M es[k])) → Pl.in64 z → OfsInv w l (k + 1) z w3) := by
        intro w1 y2 w3 z h1 h2 h3 h4 h5 h6
        refine HINV.out.step hkl h1 ?_ h3 h4 ?_ h6
        · rw [hpair]; exact h2
        · rw [hpair]; exact h5
      have HX := hid hx
      have CALLK := hid (CALL.out k hlt)
      have ALIK := hid (ALI.out k hlt)
      have hal := ISAL.out es[k]
      have HAL := hid hal
      obtain ⟨hx1, hx2⟩ := hx64
      clear hrow hinv hbw hx hpair c0 c1 hal
      generalize Pl.al W M es[k] = A at *
      generalize Pl.sz W M es[k] = S at *
      generalize Pl.fin 0 (l.take k) = F at *
      by_cases hy : y < 0
      · have INV : Hid (OfsInv w l (k + 1) y (wr.setCell ⟨w.heap.size, k, none⟩ (.int .i64 (-1)))) := by
          have hu : Pl.up F A = -1 := Pl.up_neg _ _ (HX.out.neg hy)
          refine STEP.out wr (-1) _ y (Below.refl _ _) ?_ ⟨by omega, by omega⟩ (Below.refl _ _) ?_ ⟨hx1, hx2⟩
          · rw [hu]; exact .of_neg (by omega) (by omega)
          · rw [hu, Pl.sum_neg_left _ _ (by omega)]; exact .of_neg hy (by omega)
        go_wp2_with fail
        go_roundw
        case rel => exact ⟨k + 1, y, by omega, by go_num, rfl, INV.out⟩
        case measure => simp [intOf]; omega
      · have hF : Hid (F = y) := hid (HX.out.eq (by omega))
        go_wp2_with fail
        refine (ALIK.out _ HBW.out).mono ?_
        rintro e w2 ⟨rfl, hb2⟩
        have HB2 := hid hb2
        have e1 := (bcell hb2 _ k hlw).trans r0
        have e2 := (bfroz hb2 _ k hlw).trans r1
        have hlw2 : w.heap.size < w2.heap.size := Nat.lt_of_lt_of_le hlw hb2.size
        have f1 := (bcell hb2 (vb k) 3 (by omega)).trans d1
        clear hb2 r0 r1 d0 d1
        go_wp2_with fail
        refine (align_any y A _ (by omega) hx2 HAL.out).mono ?_
        rintro e w4 ⟨u, rfl, hau, h64u, rfl⟩
        have HU : Hid (Pl.Alike u (Pl.up F A)) := by rw [hF.out]; exact hau
        have H64U := hid h64u
        obtain ⟨hu1, hu2⟩ := h64u
        clear hau
        go_wp2_with fail
        refine (CALLK.out _ ((below_of HBW.out HB2.out).setCell (Nat.le_refl _) _)).mono ?_
        rintro e w5 ⟨d, rfl, had, h64d, hb5⟩
        have HB5 : Hid (Below w2.heap.size (w2.setCell ⟨w.heap.size, k, none⟩ (.int .i64 u)) w5) := by
          have := hb5
          rw [World.size_setCell] at this
          exact this
        obtain ⟨hs1, hs2, hs3⟩ := Pl.alike_sum HU.out had
        have S1 := hid hs1
        have S2 := hid hs2
        have S3 := hid hs3
        obtain ⟨hd1, hd2⟩ := h64d
        clear hs1 hs2 hs3 had hb5
        have FIN : Hid (∀ z, Pl.Alike z (Pl.sum (Pl.up F A) S) → Pl.in64 z → OfsInv w l (k + 1) z w5) := fun z h1 h2 => STEP.out w2 u w5 z HB2.out HU.out H64U.out HB5.out h1 h2
        clear e1 e2 f1
        by_cases hd : d < 0
        · have INV := hid (FIN.out (-1) (by rw [S1.out (.inl hd)]; exact .of_neg (by omega) (by omega)) ⟨by omega, by omega⟩)
          go_wp2_with fail
          go_roundw
          case rel => exact ⟨k + 1, -1, by omega, by go_num, rfl, INV.out⟩
          case measure => simp [intOf]; omega
        · by_cases hu : u < 0
          · have INV := hid (FIN.out (-1) (by rw [S1.out (.inr hu)]; exact .of_neg (by omega) (by omega)) ⟨by omega, by omega⟩)
            go_wp2_with fail
            go_roundw
            case rel => exact ⟨k + 1, -1, by omega, by go_num, rfl, INV.out⟩
            case measure => simp [intOf]; omega
          · by_cases hov : u + d ≤ 9223372036854775807
            · have INV := hid (FIN.out (u + d) (by rw [S2.out (by omega) (by omega) hov]; exact .of_eq rfl (by omega)) ⟨by omega, by omega⟩)
              go_wp2_with fail
              go_roundw
              case rel => exact ⟨k + 1, u + d, by omega, by go_num, rfl, INV.out⟩
              case measure => simp [intOf]; omega
            · have INV := hid (FIN.out (wrap64 (u + d)) (by rw [S3.out (by omega) (by omega) (by omega)]; exact .of_neg (by unfold wrap64; omega) (by omega)) ⟨by unfold wrap64; omega, by unfold wrap64; omega⟩)
              go_wp2_with fail
              go_roundw
              case rel => exact ⟨k + 1, wrap64 (u + d), by omega, by go_num, rfl, INV.out⟩
              case measure => simp [intOf]; omega
    · obtain rfl : k = es.length := by omega
      have P := hid (POST.out _ _ hinv)
      clear hinv
      go_wp2_with fail
      go_ret
      exact P.out
end Go.Proofs.YtphfjojdiilneaaGreatDoor
