/- The walk of Typ: the table of basic types that it makes, and the one that it hands back. -/
import Derived.Test.YtphfjojdiilneaaGreatDoorGty
import Derived.Deep.DeepCutAuto
set_option linter.unusedVariables false
set_option linter.unusedSimpArgs false
namespace Go.Proofs.YtphfjojdiilneaaGreatDoor
open Go.RowKit

/-- Blocks laid one behind the other. -/
def allocs (w : World) : List Obj → World
  | [] => w
  | o :: r => allocs (w.alloc o) r
theorem allocs_size (l : List Obj) : ∀ w : World, (allocs w l).heap.size = w.heap.size + l.length := by
  induction l with
  | nil => intro w; rfl
  | cons o r ih => intro w; simp only [allocs, ih, List.length_cons]; simp; omega
theorem allocs_below (l : List Obj) : ∀ (B : Nat) (w0 w : World), Below B w0 w → B ≤ w.heap.size → Below B w0 (allocs w l) := by
  induction l with
  | nil => intro B w0 w h _; exact h
  | cons o r ih => intro B w0 w h hB; exact ih B w0 _ (h.alloc hB o) (by simp; omega)
theorem allocs_at (l : List Obj) : ∀ (w : World) (i : Nat), i < l.length → (allocs w l).heap[w.heap.size + i]? = l[i]? := by
  induction l with
  | nil => intro w i h; simp at h
  | cons o r ih =>
    intro w i h
    cases i with
    | zero =>
      have hb := allocs_below r (w.heap.size + 1) (w.alloc o) (w.alloc o) (Below.refl _ _) (by simp)
      show (allocs (w.alloc o) r).heap[w.heap.size]? = _
      rw [hb.block w.heap.size (by omega)]
      exact heap_alloc_new w o
    | succ i =>
      have := ih (w.alloc o) i (by simpa using h)
      simp only [World.size_alloc] at this
      rw [show w.heap.size + (i + 1) = w.heap.size + 1 + i by omega]
      simpa [allocs] using this

/-- The bits that tell what a basic type is. -/
def infoOf (n : Int) : Int := if n = 0 then 1 else if n ≤ 5 then 2 else if n ≤ 11 then 6 else if n ≤ 13 then 8 else if n ≤ 15 then 16 else if n = 16 then 32 else 0

def basics : List Obj := [.cells #[.int .i64 0, .int .i64 0, .string ⟨#[105, 110, 118, 97, 108, 105, 100, 32, 116, 121, 112, 101]⟩] 96,
  .cells #[.int .i64 1, .int .i64 1, .string ⟨#[98, 111, 111, 108]⟩] 96,
  .cells #[.int .i64 2, .int .i64 2, .string ⟨#[105, 110, 116]⟩] 96,
  .cells #[.int .i64 3, .int .i64 2, .string ⟨#[105, 110, 116, 56]⟩] 96,
  .cells #[.int .i64 4, .int .i64 2, .string ⟨#[105, 110, 116, 49, 54]⟩] 96,
  .cells #[.int .i64 5, .int .i64 2, .string ⟨#[105, 110, 116, 51, 50]⟩] 96,
  .cells #[.int .i64 6, .int .i64 2, .string ⟨#[105, 110, 116, 54, 52]⟩] 96,
  .cells #[.int .i64 7, .int .i64 6, .string ⟨#[117, 105, 110, 116]⟩] 96,
  .cells #[.int .i64 8, .int .i64 6, .string ⟨#[117, 105, 110, 116, 56]⟩] 96,
  .cells #[.int .i64 9, .int .i64 6, .string ⟨#[117, 105, 110, 116, 49, 54]⟩] 96,
  .cells #[.int .i64 10, .int .i64 6, .string ⟨#[117, 105, 110, 116, 51, 50]⟩] 96,
  .cells #[.int .i64 11, .int .i64 6, .string ⟨#[117, 105, 110, 116, 54, 52]⟩] 96,
  .cells #[.int .i64 12, .int .i64 6, .string ⟨#[117, 105, 110, 116, 112, 116, 114]⟩] 96,
  .cells #[.int .i64 13, .int .i64 8, .string ⟨#[102, 108, 111, 97, 116, 51, 50]⟩] 96,
  .cells #[.int .i64 14, .int .i64 8, .string ⟨#[102, 108, 111, 97, 116, 54, 52]⟩] 96,
  .cells #[.int .i64 15, .int .i64 16, .string ⟨#[99, 111, 109, 112, 108, 101, 120, 54, 52]⟩] 96,
  .cells #[.int .i64 16, .int .i64 16, .string ⟨#[99, 111, 109, 112, 108, 101, 120, 49, 50, 56]⟩] 96,
  .cells #[.int .i64 17, .int .i64 32, .string ⟨#[115, 116, 114, 105, 110, 103]⟩] 96,
  .cells #[.int .i64 18, .int .i64 0, .string ⟨#[80, 111, 105, 110, 116, 101, 114]⟩] 96,
  .cells #[.int .i64 19, .int .i64 65, .string ⟨#[117, 110, 116, 121, 112, 101, 100, 32, 98, 111, 111, 108]⟩] 96,
  .cells #[.int .i64 20, .int .i64 66, .string ⟨#[117, 110, 116, 121, 112, 101, 100, 32, 105, 110, 116]⟩] 96,
  .cells #[.int .i64 21, .int .i64 66, .string ⟨#[117, 110, 116, 121, 112, 101, 100, 32, 114, 117, 110, 101]⟩] 96,
  .cells #[.int .i64 22, .int .i64 72, .string ⟨#[117, 110, 116, 121, 112, 101, 100, 32, 102, 108, 111, 97, 116]⟩] 96,
  .cells #[.int .i64 23, .int .i64 80, .string ⟨#[117, 110, 116, 121, 112, 101, 100, 32, 99, 111, 109, 112, 108, 101, 120]⟩] 96,
  .cells #[.int .i64 24, .int .i64 96, .string ⟨#[117, 110, 116, 121, 112, 101, 100, 32, 115, 116, 114, 105, 110, 103]⟩] 96,
  .cells #[.int .i64 25, .int .i64 64, .string ⟨#[117, 110, 116, 121, 112, 101, 100, 32, 110, 105, 108]⟩] 96]

/-- The table is there. -/
def TypTab (w : World) (s : Value) (wx : World) : Prop := s = .slice (some ⟨w.heap.size + 26, 0, none⟩) 26 26 ∧ Below w.heap.size w wx ∧
  ∀ n : Int, 0 ≤ n → n < 18 → wx.cell? ⟨w.heap.size + 26, (n + 1).toNat, none⟩ = some (.pointer (some ⟨w.heap.size + (n + 1).toNat, 0, none⟩)) ∧
    wx.cell? ⟨w.heap.size + (n + 1).toNat, 0, none⟩ = some (.int .i64 (n + 1)) ∧ wx.cell? ⟨w.heap.size + (n + 1).toNat, 1, none⟩ = some (.int .i64 (infoOf n))

def ptrs (B : Nat) : Array Value := ((List.range 26).map fun i => Value.pointer (some ⟨B + i, 0, none⟩)).toArray

theorem typTab_of (w : World) : TypTab w (.slice (some ⟨w.heap.size + 26, 0, none⟩) 26 26) (allocs w (basics ++ [.cells (ptrs w.heap.size) 78])) := by
  refine ⟨rfl, allocs_below _ _ _ _ (Below.refl _ _) (Nat.le_refl _), fun n h0 h1 => ?_⟩
  have hl : (basics ++ [Obj.cells (ptrs w.heap.size) 78]).length = 27 := rfl
  have hat := allocs_at (basics ++ [.cells (ptrs w.heap.size) 78]) w
  have h26 := hat 26 (by rw [hl]; omega)
  obtain ⟨k, rfl⟩ := Int.eq_ofNat_of_zero_le h0
  have hk : k < 18 := by omega
  have hk1 := hat (k + 1) (by rw [hl]; omega)
  have e : ((k : Int) + 1).toNat = k + 1 := by omega
  rw [e]
  simp only [World.cell?]
  rw [h26, hk1]
  clear h26 hk1 hat hl
  refine ⟨?_, ?_⟩
  · show (ptrs w.heap.size)[k + 1]? = _
    have hk26 : k + 1 < 26 := by omega
    unfold ptrs
    rw [List.getElem?_toArray, List.getElem?_map, List.getElem?_range hk26]
    rfl
  · revert k
    intro k
    match k with
    | 0 => intro _ _ _ _; exact ⟨rfl, rfl⟩
    | 1 => intro _ _ _ _; exact ⟨rfl, rfl⟩
    | 2 => intro _ _ _ _; exact ⟨rfl, rfl⟩
    | 3 => intro _ _ _ _; exact ⟨rfl, rfl⟩
    | 4 => intro _ _ _ _; exact ⟨rfl, rfl⟩
    | 5 => intro _ _ _ _; exact ⟨rfl, rfl⟩
    | 6 => intro _ _ _ _; exact ⟨rfl, rfl⟩
    | 7 => intro _ _ _ _; exact ⟨rfl, rfl⟩
    | 8 => intro _ _ _ _; exact ⟨rfl, rfl⟩
    | 9 => intro _ _ _ _; exact ⟨rfl, rfl⟩
    | 10 => intro _ _ _ _; exact ⟨rfl, rfl⟩
    | 11 => intro _ _ _ _; exact ⟨rfl, rfl⟩
    | 12 => intro _ _ _ _; exact ⟨rfl, rfl⟩
    | 13 => intro _ _ _ _; exact ⟨rfl, rfl⟩
    | 14 => intro _ _ _ _; exact ⟨rfl, rfl⟩
    | 15 => intro _ _ _ _; exact ⟨rfl, rfl⟩
    | 16 => intro _ _ _ _; exact ⟨rfl, rfl⟩
    | 17 => intro _ _ _ _; exact ⟨rfl, rfl⟩
    | k + 18 => intro _ _ _ h; omega

/-- What Typ hands back. -/
def TypB (n : Int) (w : World) (e : Ending) (w' : World) : Prop := ∃ b : Nat, e = .returned (.pointer (some ⟨b, 0, none⟩)) ∧ w.heap.size ≤ b ∧ w'.cell? ⟨b, 0, none⟩ = some (.int .i64 (n + 1)) ∧ w'.cell? ⟨b, 1, none⟩ = some (.int .i64 (infoOf n)) ∧ Below w.heap.size w w'

set_option maxRecDepth 100000 in
set_option maxHeartbeats 1000000 in
theorem typ_any (n : Int) (h0 : 0 ≤ n) (h1 : n < 18) (w : World) : Calls Tryz.prog 45 #[.int .i64 (n + 1)] w (TypB n w) := by
  go_enter Tryz.func45, Tryz.ntmps45
  go_upto_region 1 with (fail)
  go_cut [3] (fun s wx => TypTab w s wx)
  case first =>
    go_wp2
    go_meet
    case rel => exact typTab_of w
  case rest =>
    obtain ⟨rfl, hb, ht⟩ := hcut
    obtain ⟨c1, c2, c3⟩ := ht n h0 h1
    clear ht
    go_wp2
    go_ret
    exact ⟨_, rfl, by omega, c2, c3, hb⟩
end Go.Proofs.YtphfjojdiilneaaGreatDoor
