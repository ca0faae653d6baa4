/- The walk of Alignof at every type: it hands back the alignment. -/
import Derived.Test.YtphfjojdiilneaaGreatDoorAll
import Derived.Test.YtphfjojdiilneaaGreatDoorMk
set_option linter.unusedVariables false
set_option linter.unusedSimpArgs false
namespace Go.Proofs.YtphfjojdiilneaaGreatDoor
open Go.RowKit

/-- Alignof's contract at one type. -/
def AlOk (t : Pl.Ty) : Prop := ∀ (T b p : Nat) (W M : Int) (w : World), Rep w.cell? t T b → Env w p W M →
  Calls Tryz.prog 29 #[.pointer (some ⟨p, 0, none⟩), .iface T (.pointer (some ⟨b, 0, none⟩))] w (AlPost (Pl.al W M t) w)

theorem bfroz {W w1 : World} (hb : Below W.heap.size W w1) : ∀ b o, b < W.heap.size → w1.frozen? ⟨b, o, none⟩ = W.frozen? ⟨b, o, none⟩ :=
  fun b o h => hb.frozen (p := ⟨b, o, none⟩) h

set_option maxRecDepth 100000 in
set_option maxHeartbeats 800000 in
theorem al_array (n : Int) (t : Pl.Ty) (b T' b' p : Nat) (W M : Int) (w : World) (HT : AlOk t) (env : Env w p W M)
    (he : w.cell? ⟨b, 1, none⟩ = some (.iface T' (.pointer (some ⟨b', 0, none⟩)))) (ht : Rep w.cell? t T' b') :
    Calls Tryz.prog 29 #[.pointer (some ⟨p, 0, none⟩), .iface 60 (.pointer (some ⟨b, 0, none⟩))] w (AlPost (Pl.al W M t) w) := by
  have hmf : ∀ (fn : Fn) (first cap : Array Value) (w : World), (Instr.makeFunc fn first cap).run Tryz.prog w = .ok (.func fn first cap) w := fun _ _ _ _ => rfl
  have h60 := tah60
  have mt := meth60 b
  have hbl : b < w.heap.size := World.block_lt_of_cell? _ _ he
  have ha := (Pl.al_isAl env.okW env.okM t).le
  have hb0 : Below w.heap.size w (w.alloc (.cells #[.int .i64 0] 2)) := (Below.refl _ _).alloc (Nat.le_refl _) _
  have CALL := hid (HT T' b' p W M _ (ht.sub (Kept.of_below hb0).sub) (env.kept (.of_below hb0)))
  have HB0 := hid hb0
  generalize Pl.al W M t = A at *
  obtain ⟨ha1, ha8⟩ := ha
  clear env ht HT hb0
  go_enter_defers Tryz.func29, Tryz.ntmps29
  go_wp2_with (first | (go_at_call 83; refine (under60_any _ _).mono ?_; rintro e w' ⟨rfl, rfl⟩))
  refine CALL.out.mono ?_
  rintro e w2 ⟨rfl, hb2⟩
  have HB := hid (below_of HB0.out hb2)
  have hs : w.heap.size < w2.heap.size := by have := hb2.size; simp at this; omega
  have r0 : w2.cell? ⟨w.heap.size, 0, none⟩ = some (.int .i64 0) := by rw [bcell hb2 _ _ (by simp)]; simp
  have r1 : w2.frozen? ⟨w.heap.size, 0, none⟩ = false := by rw [bfroz hb2 _ _ (by simp)]; simp
  clear hb2
  go_wp2_with fail
  refine leaves_cons (f := 39) (args := #[.pointer (some ⟨w.heap.size, 0, none⟩)]) (by simp) (by simp [go_sem]) ?_
  have c0 : (w2.setCell ⟨w.heap.size, 0, none⟩ (.int .i64 A)).cell? ⟨w.heap.size, 0, none⟩ = some (.int .i64 A) := World.cell?_setCell_same _ _ _ r0
  refine (check_d _ A (by omega) .returning _ c0).mono ?_
  rintro e u' w'' ⟨rfl, rfl, rfl⟩
  exact ⟨_, by simp [results, Tryz.results29, go_sem, c0], rfl, HB.out.setCell (Nat.le_refl _) _⟩

theorem maxs_snoc (m x : Int) (l : List Int) : Pl.maxs m (l ++ [x]) = max (Pl.maxs m l) x := by
  induction l generalizing m with
  | nil => rfl
  | cons y r ih => simp only [List.cons_append, Pl.maxs, ih]
theorem take_next {α : Type} (l : List α) (k : Nat) (h : k < l.length) : l.take (k + 1) = l.take k ++ [l[k]] := List.take_succ_eq_append_getElem h

/-- What holds in Alignof's loop behind k rounds. -/
def AlInv (w : World) (W M : Int) (es : List Pl.Ty) (k : Nat) (x : Int) (wr : World) : Prop :=
  x = Pl.maxs 1 ((Pl.alL W M es).take k) ∧ Pl.isAl x ∧ Below w.heap.size w wr ∧ w.heap.size < wr.heap.size ∧ wr.cell? ⟨w.heap.size, 0, none⟩ = some (.int .i64 0) ∧ wr.frozen? ⟨w.heap.size, 0, none⟩ = false

theorem AlInv.start (w : World) (W M : Int) (es : List Pl.Ty) : AlInv w W M es 0 1 (w.alloc (.cells #[.int .i64 0] 2)) :=
  ⟨rfl, .inl rfl, (Below.refl _ _).alloc (Nat.le_refl _) _, by simp, by simp, by simp⟩
theorem AlInv.step {w : World} {W M : Int} {es : List Pl.Ty} {k : Nat} {x : Int} {wr w2 : World} (okW : Pl.okW W) (okM : Pl.okM M) (hk : k < es.length) (h : AlInv w W M es k x wr) (hb : Below wr.heap.size wr w2) :
    (x < Pl.al W M es[k] → AlInv w W M es (k + 1) (Pl.al W M es[k]) w2) ∧ (Pl.al W M es[k] ≤ x → AlInv w W M es (k + 1) x w2) := by
  obtain ⟨rfl, h1, h2, h3, h4, h5⟩ := h
  have e : Pl.maxs 1 ((Pl.alL W M es).take (k + 1)) = max (Pl.maxs 1 ((Pl.alL W M es).take k)) (Pl.al W M es[k]) := by
    rw [Pl.alL_map, take_next _ k (by simpa using hk), maxs_snoc]
    simp
  have rest : Below w.heap.size w w2 ∧ w.heap.size < w2.heap.size ∧ w2.cell? ⟨w.heap.size, 0, none⟩ = some (.int .i64 0) ∧ w2.frozen? ⟨w.heap.size, 0, none⟩ = false := by
    have := hb.size
    exact ⟨below_of h2 hb, by omega, (bcell hb _ _ h3).trans h4, (bfroz hb _ _ h3).trans h5⟩
  exact ⟨fun hlt => ⟨by rw [e, Int.max_eq_right (by omega)], Pl.al_isAl okW okM _, rest⟩, fun hge => ⟨by rw [e, Int.max_eq_left (by omega)], h1, rest⟩⟩

set_option maxRecDepth 100000 in
set_option maxHeartbeats 800000 in
theorem al_struct_nil (b p cap : Nat) (a : Option Addr) (W M : Int) (w : World) (hs : w.cell? ⟨b, 0, none⟩ = some (.slice a 0 cap)) :
    Calls Tryz.prog 29 #[.pointer (some ⟨p, 0, none⟩), .iface 63 (.pointer (some ⟨b, 0, none⟩))] w (AlPost (Pl.maxs 1 (Pl.alL W M [])) w) := by
  have hmf : ∀ (fn : Fn) (first cap : Array Value) (w : World), (Instr.makeFunc fn first cap).run Tryz.prog w = .ok (.func fn first cap) w := fun _ _ _ _ => rfl
  have m60 := tam60 (T := 63) (by decide)
  have h63 := tah63
  have mt := meth63 b
  have hbl : b < w.heap.size := World.block_lt_of_cell? _ _ hs
  rw [show Pl.maxs 1 (Pl.alL W M []) = 1 from rfl]
  go_enter_defers Tryz.func29, Tryz.ntmps29
  go_wp2_with (first | (go_at_call 84; refine (under63_any _ _).mono ?_; rintro e w' ⟨rfl, rfl⟩) | (go_at_call 41; refine (isSync_any _ _ _ (by decide) (by decide)).mono ?_; rintro e w' ⟨rfl, rfl⟩))
  go_loop [7, 45] (fun x i => i = .int .i64 0 ∧ x = .int .i64 1) (fun _ _ => 0)
  case atStart => exact ⟨rfl, rfl⟩
  case round =>
    obtain ⟨rfl, rfl⟩ := hrel
    go_wp2_with fail
    refine leaves_cons (f := 39) (args := #[.pointer (some ⟨w.heap.size, 0, none⟩)]) (by simp) (by simp [go_sem]) ?_
    refine (check_d _ 1 (by omega) .returning _ ?_).mono ?_
    · simp [World.cell?_alloc_at]
    rintro e u' w'' ⟨rfl, rfl, rfl⟩
    exact ⟨_, by simp [results, Tryz.results29, go_sem, World.cell?_alloc_at], rfl, (Below.refl _ _).alloc (Nat.le_refl _) _⟩

set_option maxRecDepth 100000 in
set_option maxHeartbeats 1600000 in
theorem al_struct_some (es : List Pl.Ty) (hne : 0 < es.length) (b p cap g : Nat) (vb Tb bb : Nat → Nat) (W M : Int) (w : World) (HT : ∀ i (h : i < es.length), AlOk es[i]) (env : Env w p W M) (hl : es.length * 8 ≤ reach)
    (hs : w.cell? ⟨b, 0, none⟩ = some (.slice (some ⟨g, 0, none⟩) es.length cap)) (hf : FieldCells w.cell? es.length (some ⟨g, 0, none⟩) vb Tb bb) (ht : ∀ i (h : i < es.length), Rep w.cell? es[i] (Tb i) (bb i)) :
    Calls Tryz.prog 29 #[.pointer (some ⟨p, 0, none⟩), .iface 63 (.pointer (some ⟨b, 0, none⟩))] w (AlPost (Pl.maxs 1 (Pl.alL W M es)) w) := by
  unfold reach at hl
  have hmf : ∀ (fn : Fn) (first cap : Array Value) (w : World), (Instr.makeFunc fn first cap).run Tryz.prog w = .ok (.func fn first cap) w := fun _ _ _ _ => rfl
  have m60 := tam60 (T := 63) (by decide)
  have h63 := tah63
  have mt := meth63 b
  have hbl : b < w.heap.size := World.block_lt_of_cell? _ _ hs
  have hl0 : ((es.length : Int) == 0) = false := by rw [beq_eq_false_iff_ne]; omega
  have CELLS : Hid (∀ i, i < es.length → w.cell? ⟨g, i, none⟩ = some (.pointer (some ⟨vb i, 0, none⟩)) ∧ w.cell? ⟨vb i, 3, none⟩ = some (.iface (Tb i) (.pointer (some ⟨bb i, 0, none⟩)))) := by
    intro i hi
    obtain ⟨g', hg, h1, _, h3⟩ := hf i hi
    obtain rfl : g = g' := by simpa using hg
    exact ⟨h1, h3⟩
  have HTH := hid HT
  have HTR := hid ht
  have ENV := hid env
  have START := hid (AlInv.start w W M es)
  have STEP : Hid (∀ (k : Nat) (x : Int) (wr w2 : World) (hk : k < es.length), AlInv w W M es k x wr → Below wr.heap.size wr w2 → (x < Pl.al W M es[k] → AlInv w W M es (k + 1) (Pl.al W M es[k]) w2) ∧ (Pl.al W M es[k] ≤ x → AlInv w W M es (k + 1) x w2)) :=
    fun k x wr w2 hk h hb => h.step env.okW env.okM hk hb
  clear HT ht env hf
  go_enter_defers Tryz.func29, Tryz.ntmps29
  go_wp2_with (first | (go_at_call 84; refine (under63_any _ _).mono ?_; rintro e w' ⟨rfl, rfl⟩))
  go_loopw [7, 45] (fun x i wr => ∃ (k : Nat) (y : Int), k ≤ es.length ∧ i = .int .i64 k ∧ x = .int .i64 y ∧ AlInv w W M es k y wr) (fun _ i _ => es.length - (intOf i).toNat)
  case atStart => exact ⟨0, 1, Nat.zero_le _, rfl, rfl, START.out⟩
  case round =>
    obtain ⟨k, y, hk, rfl, rfl, hinv⟩ := hrel
    by_cases hlt : k < es.length
    · obtain ⟨c0, c1⟩ := CELLS.out k hlt
      have hbw := hinv.2.2.1
      have d0 := (bcell hbw g k (World.block_lt_of_cell? _ _ c0)).trans c0
      have d1 := (bcell hbw (vb k) 3 (World.block_lt_of_cell? _ _ c1)).trans c1
      have CALL := hid (HTH.out k hlt (Tb k) (bb k) p W M wr ((HTR.out k hlt).sub (Kept.of_below hbw).sub) (ENV.out.kept (.of_below hbw)))
      have STK := hid (fun w2 => STEP.out k y wr w2 hlt hinv)
      have hal := (Pl.al_isAl ENV.out.okW ENV.out.okM es[k]).le
      have hy := hinv.2.1.le
      generalize Pl.al W M es[k] = A at *
      obtain ⟨ha1, ha2⟩ := hal
      obtain ⟨hy1, hy2⟩ := hy
      clear hinv hbw c0 c1
      go_wp2_with fail
      refine CALL.out.mono ?_
      rintro e w2 ⟨rfl, hb2⟩
      have ST2 := hid (STK.out w2 hb2)
      clear hb2 d0 d1
      by_cases hgt : y < A
      · have INV := hid (ST2.out.1 hgt)
        go_wp2_with fail
        go_roundw
        case rel => exact ⟨k + 1, A, by omega, by go_num, rfl, INV.out⟩
        case measure => simp [intOf]; omega
      · have INV := hid (ST2.out.2 (Int.not_lt.1 hgt))
        go_wp2_with fail
        go_roundw
        case rel => exact ⟨k + 1, y, by omega, by go_num, rfl, INV.out⟩
        case measure => simp [intOf]; omega
    · obtain rfl : k = es.length := by omega
      obtain ⟨hy, hal, hbw, hsz, r0, r1⟩ := hinv
      have HY : Hid (y = Pl.maxs 1 (Pl.alL W M es)) := by rw [hy, List.take_of_length_le (by rw [Pl.alL_map]; simp)]; rfl
      have HB := hid hbw
      have ha := hal.le
      obtain ⟨ha1, ha2⟩ := ha
      clear hy hal hbw
      go_wp2_with fail
      refine leaves_cons (f := 39) (args := #[.pointer (some ⟨w.heap.size, 0, none⟩)]) (by simp) (by simp [go_sem]) ?_
      have c0 : (wr.setCell ⟨w.heap.size, 0, none⟩ (.int .i64 y)).cell? ⟨w.heap.size, 0, none⟩ = some (.int .i64 y) := World.cell?_setCell_same _ _ _ r0
      refine (check_d _ y (by omega) .returning _ c0).mono ?_
      rintro e u' w'' ⟨rfl, rfl, rfl⟩
      exact ⟨.int .i64 y, by simp [results, Tryz.results29, go_sem, c0], by rw [← HY.out], HB.out.setCell (Nat.le_refl _) _⟩

theorem al_ok_of : ∀ (d : Nat) (t : Pl.Ty), Pl.depth t ≤ d → AlOk t := by
  intro d
  induction d with
  | zero => intro t h; cases t; simp [Pl.depth] at h
  | succ d ih =>
    intro t hd T b p W M w hr env
    cases hr with
    | basic n es b h0 h1 hk hi =>
      have := al_78 b p W M w env.okW env.okM env.word env.most n h0 h1 hk hi env.tab
      simpa [Pl.al] using this
    | word k n es T b h =>
      have e : Pl.al W M (.mk k n es) = min W M := by
        simp only [Pl.al]
        rw [if_neg (by omega), if_neg (by omega), if_neg (by omega)]
      rw [e]
      rcases h with ⟨rfl, rfl⟩ | ⟨rfl, rfl⟩ | ⟨rfl, rfl⟩
      · exact al_85 b p W M w env.okW env.okM env.word env.most
      · exact al_89 b p W M w env.okW env.okM env.word env.most
      · exact al_91 b p W M w env.okW env.okM env.word env.most
    | slice n es b =>
      have := al_76 b p W M w env.okW env.okM env.word env.most
      simpa [Pl.al] using this
    | array n t b T' b' h0 h1 hn he ht =>
      have hd' : Pl.depth t ≤ d := by simp only [Pl.depth, Pl.depthL] at hd; omega
      have := al_array n t b T' b' p W M w (ih t hd') env he ht
      have e : Pl.al W M (.mk 3 n [t]) = Pl.al W M t := by
        have := (Pl.al_isAl env.okW env.okM t).le
        simp [Pl.al, Pl.alL, Pl.maxs]
        omega
      rw [e]
      exact this
    | struct n es b a cap vb Tb bb hl hs hf ht =>
      have hT : ∀ i (h : i < es.length), AlOk es[i] := fun i hi => ih _ (by have := Pl.depth_mem (List.getElem_mem hi); simp only [Pl.depth] at hd; omega)
      have e : Pl.al W M (.mk 6 n es) = Pl.maxs 1 (Pl.alL W M es) := by simp [Pl.al]
      rw [e]
      cases es with
      | nil => exact al_struct_nil b p cap a W M w hs
      | cons x r =>
        obtain ⟨g, rfl, _⟩ := hf 0 (by simp)
        exact al_struct_some (x :: r) (by simp) b p cap g vb Tb bb W M w hT env hl hs hf ht
theorem al_all (t : Pl.Ty) : AlOk t := al_ok_of _ t (Nat.le_refl _)
end Go.Proofs.YtphfjojdiilneaaGreatDoor
