/- What lies in memory: the plain types that came in ('Lie'), the package's types that the call makes ('Rep'), and that both stay where nothing old is written. -/
import Derived.Test.YtphfjojdiilneaaGreatDoorTyp
set_option linter.unusedVariables false
set_option linter.unusedSimpArgs false
namespace Go.Proofs.YtphfjojdiilneaaGreatDoor
open Go.RowKit

/-- Nothing old has turned. -/
def Kept (w w' : World) : Prop := w.heap.size ≤ w'.heap.size ∧ ∀ a : Addr, a.block < w.heap.size → w'.cell? a = w.cell? a
theorem Kept.refl (w : World) : Kept w w := ⟨Nat.le_refl _, fun _ _ => rfl⟩
theorem Kept.trans {a b c : World} (h : Kept a b) (k : Kept b c) : Kept a c :=
  ⟨Nat.le_trans h.1 k.1, fun p hp => (k.2 p (Nat.lt_of_lt_of_le hp h.1)).trans (h.2 p hp)⟩
theorem Kept.of_below {w w' : World} (h : Below w.heap.size w w') : Kept w w' := ⟨h.size, fun _ hp => h.cell hp⟩
theorem Kept.cell {w w' : World} (h : Kept w w') {a : Addr} {v : Value} (hc : w.cell? a = some v) : w'.cell? a = some v :=
  (h.2 a (World.block_lt_of_cell? w a hc)).trans hc
theorem below_of {a w w' : World} (h : Below a.heap.size a w) (k : Below w.heap.size w w') : Below a.heap.size a w' := h.trans (k.mono h.size)

/-- The bytes that a slice may take up. -/
def reach : Nat := 140737488351232

/-- The elements of a type (or a list of types that came in), lying in w as the slice v. -/
inductive Lie (w : World) : List Pl.Ty → Value → Prop
  | nil (a : Option Addr) (cap : Nat) : Lie w [] (.slice a 0 cap)
  | row (b off cap : Nat) (es : List Pl.Ty) (sv : Nat → Value) (hc : es.length ≤ cap) (hr : es.length * 40 ≤ reach)
      (hk : ∀ i (h : i < es.length), w.cell? ⟨b, off + i * 3, none⟩ = some (.int .i64 (es[i]).k) ∧ w.cell? ⟨b, off + i * 3 + 1, none⟩ = some (.int .i64 (es[i]).n) ∧ w.cell? ⟨b, off + i * 3 + 2, none⟩ = some (sv i))
      (h64 : ∀ i (h : i < es.length), Pl.in64 (es[i]).k ∧ Pl.in64 (es[i]).n)
      (hs : ∀ i (h : i < es.length), Lie w (es[i]).es (sv i)) : Lie w es (.slice (some ⟨b, off, none⟩) es.length cap)

theorem Lie.kept {w w' : World} (k : Kept w w') {es : List Pl.Ty} {v : Value} (h : Lie w es v) : Lie w' es v := by
  induction h with
  | nil a cap => exact .nil a cap
  | row b off cap es sv hc hr hk h64 _ ih => exact .row b off cap es sv hc hr (fun i h => ⟨k.cell (hk i h).1, k.cell (hk i h).2.1, k.cell (hk i h).2.2⟩) h64 ih

theorem Lie.slice {w : World} {es : List Pl.Ty} {v : Value} (h : Lie w es v) : ∃ a cap, v = .slice a es.length cap := by
  cases h with
  | nil a cap => exact ⟨a, cap, rfl⟩
  | row b off cap es sv => exact ⟨_, cap, rfl⟩
theorem Lie.len {w : World} {es : List Pl.Ty} {v : Value} (h : Lie w es v) : es.length * 40 ≤ reach := by
  cases h with
  | nil a cap => simp [reach]
  | row b off cap es sv hc hr => exact hr

/-- Memory, as it is read: a world's cells, or some of them. -/
abbrev Memo := Addr → Option Value
def Sub (m m' : Memo) : Prop := ∀ a v, m a = some v → m' a = some v
theorem Sub.refl (m : Memo) : Sub m m := fun _ _ h => h
theorem Sub.trans {a b c : Memo} (h : Sub a b) (k : Sub b c) : Sub a c := fun p v x => k p v (h p v x)
/-- The cells of the blocks from B on, but for block o. -/
def memBut (B : Nat) (o : Option Nat) (w : World) : Memo := fun a => if B ≤ a.block ∧ some a.block ≠ o then w.cell? a else none
theorem memBut_sub (B : Nat) (o : Option Nat) (w : World) : Sub (memBut B o w) w.cell? := by
  intro a v h
  unfold memBut at h
  split at h
  · exact h
  · cases h
theorem memBut_mono {B B' : Nat} {o o' : Option Nat} {w w' : World} (hB : B' ≤ B) (h : ∀ k, B ≤ k → k < w.heap.size → some k ≠ o → some k ≠ o' ∧ w'.heap[k]? = w.heap[k]?) : Sub (memBut B o w) (memBut B' o' w') := by
  intro a v hv
  unfold memBut at hv ⊢
  split at hv
  · rename_i hc
    have hlt : a.block < w.heap.size := World.block_lt_of_cell? _ _ hv
    obtain ⟨h1, h2⟩ := h a.block hc.1 hlt hc.2
    rw [if_pos ⟨by omega, h1⟩, World.cell?_of_block h2]
    exact hv
  · cases hv
theorem memBut_at {B : Nat} {o : Option Nat} {w : World} {a : Addr} {v : Value} (hB : B ≤ a.block) (ho : some a.block ≠ o) (h : w.cell? a = some v) : memBut B o w a = some v := by
  unfold memBut
  rw [if_pos ⟨hB, ho⟩]
  exact h
theorem Kept.sub {w w' : World} (k : Kept w w') : Sub w.cell? w'.cell? := fun _ _ h => k.cell h

/-- The fields that a struct's slice leads to. -/
def FieldCells (m : Memo) (len : Nat) (a : Option Addr) (vb Tb bb : Nat → Nat) : Prop :=
  ∀ i, i < len → ∃ g, a = some ⟨g, 0, none⟩ ∧ m ⟨g, i, none⟩ = some (.pointer (some ⟨vb i, 0, none⟩)) ∧ m ⟨vb i, 2, none⟩ = some (.string ⟨#[95]⟩) ∧
    m ⟨vb i, 3, none⟩ = some (.iface (Tb i) (.pointer (some ⟨bb i, 0, none⟩)))
theorem FieldCells.sub {m m' : Memo} (k : Sub m m') {len : Nat} {a : Option Addr} {vb Tb bb : Nat → Nat} (h : FieldCells m len a vb Tb bb) : FieldCells m' len a vb Tb bb := by
  intro i hi
  obtain ⟨g, ha, h1, h2, h3⟩ := h i hi
  exact ⟨g, ha, k _ _ h1, k _ _ h2, k _ _ h3⟩

/-- A type of the package: its dynamic type T and its block b. -/
inductive Rep (m : Memo) : Pl.Ty → Nat → Nat → Prop
  | basic (n : Int) (es : List Pl.Ty) (b : Nat) (h0 : 0 ≤ n) (h1 : n < 18) (hk : m ⟨b, 0, none⟩ = some (.int .i64 (n + 1))) (hi : m ⟨b, 1, none⟩ = some (.int .i64 (infoOf n))) : Rep m (.mk 0 n es) 78 b
  | word (k n : Int) (es : List Pl.Ty) (T b : Nat) (h : (k = 1 ∧ T = 85) ∨ (k = 4 ∧ T = 89) ∨ (k = 5 ∧ T = 91)) : Rep m (.mk k n es) T b
  | slice (n : Int) (es : List Pl.Ty) (b : Nat) : Rep m (.mk 2 n es) 76 b
  | array (n : Int) (t : Pl.Ty) (b T' b' : Nat) (h0 : 0 ≤ n) (h1 : n ≤ 9223372036854775807) (hn : m ⟨b, 0, none⟩ = some (.int .i64 n))
      (he : m ⟨b, 1, none⟩ = some (.iface T' (.pointer (some ⟨b', 0, none⟩)))) (ht : Rep m t T' b') : Rep m (.mk 3 n [t]) 60 b
  | struct (n : Int) (es : List Pl.Ty) (b : Nat) (a : Option Addr) (cap : Nat) (vb Tb bb : Nat → Nat) (hl : es.length * 8 ≤ reach) (hs : m ⟨b, 0, none⟩ = some (.slice a es.length cap))
      (hf : FieldCells m es.length a vb Tb bb) (ht : ∀ i (h : i < es.length), Rep m es[i] (Tb i) (bb i)) : Rep m (.mk 6 n es) 63 b

theorem Rep.sub {m m' : Memo} (k : Sub m m') {t : Pl.Ty} {T b : Nat} (h : Rep m t T b) : Rep m' t T b := by
  induction h with
  | basic n es b h0 h1 hk hi => exact .basic n es b h0 h1 (k _ _ hk) (k _ _ hi)
  | word k n es T b h => exact .word k n es T b h
  | slice n es b => exact .slice n es b
  | array n t b T' b' h0 h1 hn he _ ih => exact .array n t b T' b' h0 h1 (k _ _ hn) (k _ _ he) ih
  | struct n es b a cap vb Tb bb hl hs hf _ ih => exact .struct n es b a cap vb Tb bb hl (k _ _ hs) (hf.sub k) ih

/-- The dynamic types that occur. -/
def isT (T : Nat) : Prop := T = 60 ∨ T = 63 ∨ T = 76 ∨ T = 78 ∨ T = 85 ∨ T = 89 ∨ T = 91
theorem Rep.isT {m : Memo} {t : Pl.Ty} {T b : Nat} (h : Rep m t T b) : isT T := by
  unfold YtphfjojdiilneaaGreatDoor.isT
  cases h <;> omega
theorem isT.no142 {T : Nat} (h : isT T) : T ≠ 142 := by unfold isT at h; omega
theorem isT.no100 {T : Nat} (h : isT T) : T ≠ 100 := by unfold isT at h; omega
theorem isT.no81 {T : Nat} (h : isT T) : T ≠ 81 := by unfold isT at h; omega

/-- The table of sizes. -/
def tab : List Int := [0, 1, 0, 1, 2, 4, 8, 0, 1, 2, 4, 8, 0, 4, 8, 8, 16]
def Tab (w : World) : Prop := ∀ i, i < 17 → w.cell? ⟨0, i, none⟩ = some (.int .u8 (tab.getD i 0))
theorem Tab.kept {w w' : World} (k : Kept w w') (h : Tab w) : Tab w' := fun i hi => k.cell (h i hi)

/-- The sizes' struct behind the pointer p. -/
structure Env (w : World) (p : Nat) (W M : Int) : Prop where
  word : w.cell? ⟨p, 0, none⟩ = some (.int .i64 W)
  most : w.cell? ⟨p, 1, none⟩ = some (.int .i64 M)
  tab : Tab w
  okW : Pl.okW W
  okM : Pl.okM M
theorem Env.kept {w w' : World} (k : Kept w w') {p : Nat} {W M : Int} (h : Env w p W M) : Env w' p W M := ⟨k.cell h.word, k.cell h.most, h.tab.kept k, h.okW, h.okM⟩

/-- The value of a type that came in. -/
def tyv (t : Pl.Ty) (sv : Value) : Value := .agg #[.int .i64 t.k, .int .i64 t.n, sv]

end Go.Proofs.YtphfjojdiilneaaGreatDoor
