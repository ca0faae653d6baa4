/- From a row's reading to the walk's facts, and back: a type that came in is opened into a tree; a law's walk is turned into what its row asks. -/
import Derived.Test.YtphfjojdiilneaaGreatDoorIal
import Derived.ProofKit
import Derived.OpenShut
import Derived.Carry
import Derived.Deep.Strs
import Derived.Deep.DeepHandedRow
import Derived.Lib.LaidTab
set_option linter.unusedVariables false
set_option linter.unusedSimpArgs false
namespace Go.Proofs.YtphfjojdiilneaaGreatDoor
open Go.ChangeShapes Go.WideShapes Go.ChangeAt Go.RowKit

theorem own : ownKnob Tryz.prog.godebug = none := by kernel_rfl
theorem laidOut : laidOutB Tryz.prog = true := by kernel_rfl
theorem gTab : Tryz.prog.globalNamed "stowage/pub/gotypes.basicSizes" = some 0 := by kernel_rfl
theorem gTabType : (Tryz.prog.globals[0]?).map (·.type) = some 97 := by kernel_rfl
theorem cells97 : Tryz.prog.cellsOf 97 = 17 := by kernel_rfl
theorem cells5 : Tryz.prog.cellsOf 5 = 1 := by kernel_rfl
theorem cells25 : Tryz.prog.cellsOf 25 = 3 := by kernel_rfl
theorem cells23 : Tryz.prog.cellsOf 23 = 1 := by kernel_rfl
theorem cells3 : Tryz.prog.cellsOf 3 = 1 := by kernel_rfl
theorem cells22 : Tryz.prog.cellsOf 22 = 1 := by kernel_rfl
theorem bytes25 : Tryz.prog.bytesOf 25 = 40 := by kernel_rfl

theorem tab_of {W : World} {laid : List (String × DataW Unit)} (hl : laid = [("stowage/pub/gotypes.basicSizes", Rows.laid_stowage_pub_gotypes_basicSizes)]) (h : laidMetH Tryz.prog laid W) : Tab W := by
  subst hl
  have t : Lib.TabIs Tryz.prog W "stowage/pub/gotypes.basicSizes" .u8 tab := Lib.tabIs_of_head (rest := []) gTab gTabType Tryz.underlying97 Tryz.underlying5 cells5 cells97 h
  intro i hi
  have := t.cell gTab i hi
  rw [this]

theorem in64_of_wf {n : Int} (h : (Lit.int .i64 n).wf = true) : Pl.in64 n := by
  have := bounds_i64 h
  exact this

section
variable {H : Type} {enc : TypeId × Value → H} {W : World}

theorem weights_slice {elems rest : List (DataW H)} (h : ∀ n ∈ DataW.weights Tryz.prog 22 (.slice elems rest), n ≤ reachBytes) :
    (elems.length + rest.length) * 40 ≤ reachBytes ∧ ∀ d ∈ elems, ∀ n ∈ DataW.weights Tryz.prog 25 d, n ≤ reachBytes := by
  simp only [DataW.weights, Tryz.underlying22, bytes25, List.mem_cons, List.mem_append] at h
  refine ⟨h _ (.inl rfl), fun d hd n hn => h n (.inr (.inl ?_))⟩
  clear h
  induction elems with
  | nil => cases hd
  | cons x r ih =>
    simp only [DataW.weightsAll, List.mem_append]
    rcases List.mem_cons.1 hd with rfl | hd
    · exact .inl hn
    · exact .inr (ih hd)
theorem weights_type {d0 d1 d2 : DataW H} (h : ∀ n ∈ DataW.weights Tryz.prog 25 (.agg [d0, d1, d2]), n ≤ reachBytes) : ∀ n ∈ DataW.weights Tryz.prog 22 d2, n ≤ reachBytes := by
  intro n hn
  refine h n ?_
  simp only [DataW.weights, Tryz.underlying25]
  simp [DataW.weightsEach, hn]

set_option maxRecDepth 100000 in
/-- A type's cells, out of its reading; its elements by 'hk'. -/
theorem open_type_step {fuel : Nat} (hk : ∀ m, m < fuel → ∀ (cs : List Value) (x : DataW H × List MemPlace), DataW.trod enc Tryz.prog W 0 (fun _ => true) true m 22 cs = some x → (∀ n ∈ DataW.weights Tryz.prog 22 x.1, n ≤ reachBytes) → ∃ es v, cs = [v] ∧ Lie W es v)
    {cs : List Value} {x : DataW H × List MemPlace} (h : DataW.trod enc Tryz.prog W 0 (fun _ => true) true fuel 25 cs = some x) (hw : ∀ n ∈ DataW.weights Tryz.prog 25 x.1, n ≤ reachBytes) :
    ∃ k n es sv, cs = [.int .i64 k, .int .i64 n, sv] ∧ Pl.in64 k ∧ Pl.in64 n ∧ Lie W es sv := by
  obtain ⟨xs, n, rfl, rfl, hl, hlen, hf⟩ := DataW.trod_struct Tryz.underlying25 h
  rw [cells25] at hl
  match xs, hlen, cs, hl with
  | [y0, y1, y2], _, [v0, v1, v2], _ =>
    have g0 := hf 0 _ rfl
    have g1 := hf 1 _ rfl
    have g2 := hf 2 _ rfl
    simp [cells23] at g0
    simp [cells3] at g1
    simp [cells22] at g2
    obtain ⟨k, e0, _, w0⟩ := DataW.trod_int Tryz.underlying23 g0
    obtain ⟨m, e1, _, w1⟩ := DataW.trod_int Tryz.underlying3 g1
    simp only [List.cons.injEq, and_true] at e0 e1
    subst e0
    subst e1
    obtain ⟨es, sv, e2, hlie⟩ := hk n (by omega) _ _ g2 (weights_type hw)
    simp only [List.cons.injEq, and_true] at e2
    subst e2
    exact ⟨k, m, es, v2, rfl, in64_of_wf w0, in64_of_wf w1, hlie⟩

theorem open_elems : ∀ (fuel : Nat) (cs : List Value) (x : DataW H × List MemPlace), DataW.trod enc Tryz.prog W 0 (fun _ => true) true fuel 22 cs = some x → (∀ n ∈ DataW.weights Tryz.prog 22 x.1, n ≤ reachBytes) → ∃ es v, cs = [v] ∧ Lie W es v := by
  intro fuel
  induction fuel using Nat.strongRecOn with
  | _ fuel ih =>
    intro cs x h hw
    rcases DataW.trod_slice Tryz.underlying22 h with ⟨rfl, rfl⟩ | ⟨a, len, cap, elems, rest, n, rfl, rfl, rfl, hb, hl, hm, hlen, hel, hsp, _⟩
    · exact ⟨[], _, rfl, .nil none 0⟩
    · obtain ⟨hw1, hw2⟩ := weights_slice hw
      simp only [List.length_map] at hw1
      obtain ⟨hrest, _⟩ := hsp rfl
      by_cases h0 : len = 0
      · subst h0
        exact ⟨[], _, rfl, .nil (some a) cap⟩
      have typ : ∀ i, i < len → ∃ (k m : Int) (es : List Pl.Ty) (sv : Value), W.cells? 0 (a.add (i * 3)) 3 = some [.int .i64 k, .int .i64 m, sv] ∧ Pl.in64 k ∧ Pl.in64 m ∧ Lie W es sv := by
        intro i hi
        have h1 := hel i hi
        rw [cells25, List.getElem?_eq_getElem (by omega)] at h1
        obtain ⟨cs', hc, ht⟩ := Option.bind_eq_some_iff.1 h1
        obtain ⟨k, m, es, sv, rfl, hk, hm', hlie⟩ := open_type_step (fun m hm => ih m (by omega)) ht (hw2 _ (List.mem_map.2 ⟨_, List.getElem_mem (by omega), rfl⟩))
        exact ⟨k, m, es, sv, hc, hk, hm', hlie⟩
      obtain ⟨b, off, spot⟩ := a
      have hspot : spot = none := by
        obtain ⟨_, _, _, _, hc, _⟩ := typ 0 (by omega)
        have := (World.cells?_some hc).2.2 0 (by omega)
        simpa [Addr.add] using World.cell?_spot this
      subst hspot
      -- the trees, by index
      have pick : ∀ i, ∃ (t : Pl.Ty) (sv : Value), i < len → W.cells? 0 (({ block := b, off := off } : Addr).add (i * 3)) 3 = some [.int .i64 t.k, .int .i64 t.n, sv] ∧ Pl.in64 t.k ∧ Pl.in64 t.n ∧ Lie W t.es sv := by
        intro i
        by_cases hi : i < len
        · obtain ⟨k, m, es, sv, hc, hk, hm', hlie⟩ := typ i hi
          exact ⟨.mk k m es, sv, fun _ => ⟨hc, hk, hm', hlie⟩⟩
        · exact ⟨.mk 0 0 [], .nilFunc, fun h => absurd h hi⟩
      obtain ⟨T, hT⟩ := Classical.axiomOfChoice pick
      obtain ⟨SV, hSV⟩ := Classical.axiomOfChoice hT
      have hlenT : ((List.range len).map T).length = len := by simp
      have getT : ∀ i (h : i < ((List.range len).map T).length), ((List.range len).map T)[i] = T i := by intro i h; simp
      refine ⟨(List.range len).map T, .slice (some ⟨b, off, none⟩) len cap, rfl, ?_⟩
      have L := Lie.row (w := W) b off cap ((List.range len).map T) SV (by rw [hlenT]; exact hl) (by rw [hlenT]; exact Nat.le_trans (Nat.mul_le_mul_right 40 (by omega)) hw1) (fun i hi => ?_) (fun i hi => ?_) (fun i hi => ?_)
      · rw [hlenT] at L; exact L
      · have hi' : i < len := by simpa using hi
        obtain ⟨hc, _⟩ := hSV i hi'
        have cell := (World.cells?_some hc).2.2
        have c0 := cell 0 (by omega)
        have c1 := cell 1 (by omega)
        have c2 := cell 2 (by omega)
        rw [getT]
        simp only [Addr.add_lit, Nat.add_zero, List.getElem?_cons_zero, List.getElem?_cons_succ] at c0 c1 c2
        exact ⟨c0, c1, c2⟩
      · have hi' : i < len := by simpa using hi
        rw [getT]
        exact ⟨(hSV i hi').2.1, (hSV i hi').2.2.1⟩
      · have hi' : i < len := by simpa using hi
        rw [getT]
        exact (hSV i hi').2.2.2

set_option maxRecDepth 100000 in
/-- A parameter that is a type. -/
theorem open_ty {base : Nat} {v : Value} {d : DataW H} {p : List MemPlace} (hok : Value.okWide Tryz.prog W .any base 25 v) (h : DataW.Trod enc Tryz.prog W 0 (fun _ => true) true 25 v d p) (hw : ∀ n ∈ DataW.weights Tryz.prog 25 d, n ≤ reachBytes) :
    ∃ (t : Pl.Ty) (sv : Value), v = .agg #[.int .i64 t.k, .int .i64 t.n, sv] ∧ Pl.in64 t.k ∧ Pl.in64 t.n ∧ Lie W t.es sv := by
  obtain ⟨cs, rfl, _⟩ := okWide_struct Tryz.underlying25 hok
  obtain ⟨fuel, hf⟩ := h
  obtain ⟨k, n, es, sv, e, hk, hn, hl⟩ := open_type_step (fun m _ => open_elems m) hf hw
  refine ⟨.mk k n es, sv, ?_, hk, hn, hl⟩
  have : cs.toList = [.int .i64 k, .int .i64 n, sv] := e
  rw [← Array.toArray_toList (xs := cs), this]
  rfl
set_option maxRecDepth 100000 in
/-- A parameter that is a slice of types. -/
theorem open_tys {v : Value} {base : Nat} {d : DataW H} {p : List MemPlace} (hok : Value.okWide Tryz.prog W .any base 22 v) (h : DataW.Trod enc Tryz.prog W 0 (fun _ => true) true 22 v d p) (hw : ∀ n ∈ DataW.weights Tryz.prog 22 d, n ≤ reachBytes) :
    ∃ es : List Pl.Ty, Lie W es v := by
  obtain ⟨a, len, cap, rfl⟩ := okWide_slice Tryz.underlying22 hok
  obtain ⟨fuel, hf⟩ := h
  obtain ⟨es, v', e, hl⟩ := open_elems fuel _ _ hf hw
  have : v' = .slice a len cap := by simpa [Value.cells] using e.symm
  subst this
  exact ⟨es, hl⟩

theorem trodAll_below {W' : World} (hb : Below W.heap.size W W') : ∀ {ts : List TypeId} {vs : List Value} {ds : List (DataW H)} {ps : List MemPlace}, (∀ t ∈ ts, Tryz.prog.readableRec t = true ∧ t < Tryz.prog.types.size) →
    DataW.TrodAll enc Tryz.prog W 0 (fun _ => true) true ts vs ds ps → (∀ x ∈ ps, x.block < W.heap.size) → DataW.TrodAll enc Tryz.prog W' 0 (fun b => decide (b < W.heap.size)) true ts vs ds ps
  | [], [], [], _, _, h, _ => h
  | _ :: _, _ :: _, _ :: _, _, hT, ⟨p, q, h1, h2, e⟩, hs =>
    ⟨p, q, Below.trod laidOut (hT _ (List.mem_cons.2 (Or.inl rfl))).1 (hT _ (List.mem_cons.2 (Or.inl rfl))).2 h1 hb (fun x hx => hs x (by rw [e]; exact List.mem_append_left _ hx)),
      trodAll_below hb (fun t ht => hT t (List.mem_cons.2 (Or.inr ht))) h2 (fun x hx => hs x (by rw [e]; exact List.mem_append_right _ hx)), e⟩

/-- A law's walk, as its row asks it. -/
theorem law_lift {f : FuncId} {fn : Func} {s : ChangeSpec} {args : Array Value} {ds gs : List (DataW H)} {before : List MemPlace} (hv : s.vars = []) (hr : fn.resultTypes = #[4])
    (hT : ∀ t ∈ fn.params.toList, Tryz.prog.readableRec t = true ∧ t < Tryz.prog.types.size)
    (hW : DataW.Whole enc Tryz.prog fn.params.toList s.vars false W args.toList ds gs before) (hs : s.fn H (ds ++ gs) = { results := [.lit (.bool true)], args := ds })
    (h : Calls Tryz.prog f args W (BoolPost true W)) :
    Calls Tryz.prog f args W fun e W' => ∃ v, e = .returned v ∧ s.post enc Tryz.prog fn false true false false W args v W' := by
  refine h.mono fun e W' ⟨he, hb⟩ => ?_
  have hW' := hW
  have hlt := hW.lt
  obtain ⟨p, q, hA, hV, rfl, _, _⟩ := hW
  rw [hv] at hV
  refine ⟨_, he, ds, gs, _, [], p, [], hW', ?_, ?_, ?_, hb.frame _, fun h => by cases h⟩
  · rw [hr, hs]
    exact trodAll_mk1 (shut_bool Tryz.underlying4 true)
  · rw [hs]
    exact trodAll_below hb hT hA (fun x hx => hlt x (List.mem_append_left _ hx))
  · rw [hv, hs]
    rfl
end

end Go.Proofs.YtphfjojdiilneaaGreatDoor
