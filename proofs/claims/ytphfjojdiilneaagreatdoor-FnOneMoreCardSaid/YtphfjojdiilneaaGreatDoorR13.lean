/- The tied card of 'laws.FnOneMore': whatever type, sizes and numbers come in, the law hands back true and every argument reads behind the call as it read before. -/
import Derived.Test.YtphfjojdiilneaaGreatDoorL13
import Derived.Test.YtphfjojdiilneaaGreatDoorOpnm
import Derived.Test.YtphfjojdiilneaaGreatDoorTie
import Derived.Test.YtphfjojdiilneaaGreatDoorCards
set_option linter.unusedVariables false
set_option linter.unusedSimpArgs false
namespace Go.Proofs.YtphfjojdiilneaaGreatDoor.fnOneMore
open Go.ChangeShapes Go.WideShapes Go.ChangeAt Go.RowKit

set_option maxRecDepth 100000 in
/-- What the walk gives, for every argument and every world that holds the table. -/
theorem contract (H : Type) (enc : TypeId × Value → H) (W : World) (base : Nat) (args : Array Value) (ds gs : List (DataW H)) (before : List MemPlace)
    (hval : ∀ (j : Nat) t v, Tryz.f13.params[j]? = some t → args[j]? = some v → Value.okWide Tryz.prog W .any base t v)
    (hW : DataW.Whole enc Tryz.prog Tryz.f13.params.toList Rows.fnOneMoreSpec.vars false W args.toList ds gs before) (hreach : ∀ n ∈ DataW.weightsEach Tryz.prog Tryz.f13.params.toList ds, n ≤ reachBytes) (hL : laidMetH Tryz.prog Rows.fnOneMoreRow.laid W) :
    Calls Tryz.prog 13 args W fun e W' => ∃ v, e = .returned v ∧ Rows.fnOneMoreSpec.post enc Tryz.prog Tryz.f13 false true false false W args v W' := by
  have ht : Tab W := tab_of rfl hL
  have hW' := hW
  obtain ⟨p, q, hA0, hV, rfl, hfz, hnd⟩ := hW
  have hA : DataW.TrodAll enc Tryz.prog W 0 (fun _ => true) true Tryz.f13.params.toList args.toList ds p := hA0
  rw [Tryz.params13] at hA hval hreach
  obtain ⟨v0, vs0, d0, ds0, p0, q0, hargs, rfl, rfl, h0, r0⟩ := trodAll_cons hA
  obtain ⟨v1, vs1, d1, ds1, p1, q1, rfl, rfl, rfl, h1, r1⟩ := trodAll_cons r0
  obtain ⟨v2, vs2, d2, ds2, p2, q2, rfl, rfl, rfl, h2, r2⟩ := trodAll_cons r1
  obtain ⟨v3, vs3, d3, ds3, p3, q3, rfl, rfl, rfl, h3, r3⟩ := trodAll_cons r2
  obtain ⟨rfl, rfl, rfl⟩ := trodAll_nil r3
  obtain rfl : args = #[v0, v1, v2, v3] := by rw [← Array.toArray_toList (xs := args), hargs]
  obtain ⟨rfl, rfl⟩ := trodVars_none hV
  simp only [DataW.weightsEach, List.mem_append] at hreach
  obtain ⟨es0, hl0⟩ := open_tys (hval 0 22 v0 rfl rfl) h0 (fun n hn => hreach n (.inl hn))
  obtain ⟨t1, sv1, rfl, hk1, hn1, hl1⟩ := open_ty (hval 1 25 v1 rfl rfl) h1 (fun n hn => hreach n (.inr (.inl hn)))
  obtain ⟨c2, rfl, rfl, rfl⟩ := open_bool Tryz.underlying4 (hval 2 4 v2 rfl rfl) h2
  obtain ⟨x3, rfl, rfl, rfl, hx3⟩ := open_int Tryz.underlying3 (hval 3 3 v3 rfl rfl) h3
  refine law_lift rfl rfl ?_ hW' rfl (law13 es0 t1 c2 x3 (in64_of_wf hx3) _ _ W ht hl0 hl1 (open_tys_nil (hval 0 22 v0 rfl rfl) h0) hk1 hn1)
  rw [Tryz.params13]
  intro t ht
  simp only [List.mem_cons, List.not_mem_nil, or_false] at ht
  rcases ht with rfl | rfl | rfl | rfl <;> exact ⟨by kernel_rfl, of_decide_eq_true (by kernel_rfl)⟩

/-- A world for the witness: the settled one, the table (block 0) holding what its initialiser lays. -/
noncomputable def laidWorld (os : Os) : World :=
  { World.holding Tryz.prog os ⟨#[], #[], []⟩ with heap := (World.holding Tryz.prog os ⟨#[], #[], []⟩).heap.modify 0 fun
      | .cells _ t frozen => .cells #[.int .u8 0, .int .u8 1, .int .u8 0, .int .u8 1, .int .u8 2, .int .u8 4, .int .u8 8, .int .u8 0, .int .u8 1, .int .u8 2, .int .u8 4, .int .u8 8, .int .u8 0, .int .u8 4, .int .u8 8, .int .u8 8, .int .u8 16] t frozen
      | o => o }
def wit : Array Value := #[.slice none 0 0, .agg #[.int .i64 0, .int .i64 0, .slice none 0 0], .bool false, .int .i64 0]
theorem laid_met (os : Os) : laidMet Tryz.prog Rows.fnOneMoreRow.laid ((laidWorld os).forCall (fun _ _ => 0) ⟨#[], wit, []⟩).memory :=
  laidMet_of_run' 21 (by kernel_rfl) (by kernel_rfl)
theorem reads (os : Os) (H : Type) (enc : TypeId × Value → H) : ∃ places, DataW.whole enc Tryz.prog ((laidWorld os).forCall (fun _ _ => 0) ⟨#[], wit, []⟩).memory Tryz.f13.params.toList Rows.fnOneMoreSpec.vars false wit.toList 8 = some ([.nil, .agg [.lit (.int .i64 0), .lit (.int .i64 0), .nil], .lit (.bool false), .lit (.int .i64 0)], [], places) :=
  ⟨[], by kernel_rfl⟩

set_option maxRecDepth 100000 in
theorem lifted (os : Os) (started : os.Started) (H : Type) (enc : TypeId × Value → H) (F : Stop.Interp) :
    ReturnsInHanded {} Tryz.checked os 13 .any ((OpenSpec.ofChange Rows.fnOneMoreSpec).preRow enc Tryz.prog Tryz.f13 Rows.fnOneMoreRow.domain false Rows.fnOneMoreRow.laid) (((OpenSpec.ofChange Rows.fnOneMoreSpec).at F).post enc Tryz.prog Tryz.f13 false true false false) := by
  obtain ⟨places, hx⟩ := reads os H enc
  refine returnsInHanded_of_row (C := Tryz.checked) (s := OpenSpec.ofChange Rows.fnOneMoreSpec) own started (by kernel_rfl) Tryz.func13
    (witness_row_at (enc := enc) (C := Tryz.checked) false (laidWorld os) wit rfl (by kernel_rfl) (by kernel_rfl) (by kernel_rfl)
      (OpenSpec.preRow_of_cond 8 hx (by kernel_rfl) (fun k hk => by cases hk) (by kernel_rfl) (laid_met os))) ?_
  intro W base args ds gs before hval hW _ _ hreach hL _ _
  refine contract H enc W base args ds gs before hval hW ?_ hL
  obtain ⟨p, q, _, hV, _⟩ := hW
  obtain ⟨rfl, rfl⟩ := trodVars_none hV
  intro n hn
  have h := List.all_eq_true.1 hreach n (by
    rw [List.append_nil]
    exact (show Tryz.f13.params.toList ++ DataSpec.varTypes Tryz.prog (OpenSpec.ofChange Rows.fnOneMoreSpec).bare.plain = Tryz.f13.params.toList by kernel_rfl) ▸ hn)
  exact of_decide_eq_true h

set_option maxRecDepth 100000 in
theorem said : Rows.FnOneMoreSaid :=
  OpenClaim.holds_of_cond 13 Tryz.f13 rfl rfl rfl rfl rfl rfl rfl ⟨rfl, rfl, rfl, rfl, rfl⟩ rfl rfl rfl rfl rfl (by kernel_rfl) Tryz.func13 (by kernel_rfl)
    (of_decide_eq_true (by kernel_rfl)) (by unfold Func.isWrapper; first | (rw [if_pos (by decide +kernel)]; kernel_rfl) | (rw [if_neg (by decide +kernel)]; exact ⟨rfl, rfl⟩))
    (fun os started H enc _ F => by rw [OpenClaim.pre_eq_preRow]; exact lifted os started H enc F)

/-- No parameter wants a stand-in; the program's own looks are off. -/
theorem plain (f : FuncId) (fn : Func) (hf : Tryz.pinned.checked.prog.funcNamed "stowage/laws.FnOneMore" = some f) (hfn : Tryz.pinned.checked.prog.funcs[f]? = some fn) :
    true = Tryz.pinned.checked.prog.looks [] ∧ ∀ (j : Nat) t, fn.params[j]? = some t → Tryz.pinned.checked.prog.wantsStandIn t = false := by
  obtain rfl : f = 13 := Option.some.inj ((show Tryz.prog.funcNamed "stowage/laws.FnOneMore" = some 13 by kernel_rfl).symm.trans hf) |>.symm
  obtain rfl : fn = Tryz.f13 := (Option.some.inj (Tryz.func13.symm.trans hfn)).symm
  refine ⟨by kernel_rfl, fun j t ht => ?_⟩
  rw [Tryz.params13] at ht
  have hm := Array.mem_of_getElem? ht
  simp only [List.mem_toArray, List.mem_cons, List.not_mem_nil, or_false] at hm
  rcases hm with rfl | rfl | rfl | rfl
  · exact (show Tryz.prog.wantsStandIn 22 = false by kernel_rfl)
  · exact (show Tryz.prog.wantsStandIn 25 = false by kernel_rfl)
  · exact (show Tryz.prog.wantsStandIn 4 = false by kernel_rfl)
  · exact (show Tryz.prog.wantsStandIn 3 = false by kernel_rfl)

/-- The tied card of 'laws.FnOneMore'. -/
theorem card : Rows.FnOneMoreCardSaid :=
  Claim7.holds_tied_plain_at .later [] _ _ _ _ said (fun _ h => by cases h) (by kernel_rfl) (fun _ h => by cases h) fnOneMore_row_tie rfl ⟨rfl, rfl⟩ (by kernel_rfl) rfl plain (by kernel_rfl)
end Go.Proofs.YtphfjojdiilneaaGreatDoor.fnOneMore
